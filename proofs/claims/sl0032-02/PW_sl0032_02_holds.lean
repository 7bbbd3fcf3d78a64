import PyProof.Rows.All
import PyProof.FactsAll.set
import PyProof.GenRules
import PyProof.GenQ
import PyProof.ListRange
import PyProof.ZipIter
import PyProof.Rows.Chain
import PyProof.Rows.EnumRows
import PyProof.Rows.SeqMore
import PyProof.Rows.PlainObj
import PyProof.Rows.SortStr
import PyProof.Rows.SetFrom
import OpenK.KCls
import Wide.FinOn
import OpenK.AllK
import Wide.All
import Lean
import PySem.Challenge.RW_sl0032_02
open PySem PySem.W PySem.Calls PyProof.Rows
set_option Elab.async false
set_option linter.all false
set_option maxRecDepth 100000
set_option maxHeartbeats 0
set_option backward.eqns.nonrecursive false
set_option backward.eqns.deepRecursiveSplit false
set_option tactic.hygienic false
namespace Mine
noncomputable section
local macro_rules | `(tactic| omega) => `(tactic| lia)
abbrev au:= @if_neg
abbrev aw:= @if_pos
abbrev az:= @Nat.le_trans
abbrev aA:= @wpAny_bind
abbrev aD:= @wpAny_mono
abbrev aY:= @List.length_append
abbrev bI:= @List.mem_cons
abbrev bK:= @wpAny_pure
abbrev bZ:= @List.mem_append
abbrev ca:= @List.cons_ne_nil
abbrev bo:= @decide_eq_true
abbrev bz:= @Heap.get?_push_of_some
abbrev bB:= @List.map_cons
abbrev bJ:= @Heap.get?_push_size
abbrev bL:= @Nat.le_refl
abbrev bR:= @List.flatten_append
abbrev bX:= @Bool.and_eq_true
abbrev cb:= @List.size_toArray
abbrev ck:= @List.mem_append_right
abbrev cq:= @List.mem_singleton
abbrev cr:= @List.length_cons
abbrev cH:= @List.all_eq_true
abbrev cP:= @List.mem_append_left
abbrev cV:= @of_decide_eq_true
abbrev db:= @decide_eq_false
abbrev dg:= @List.foldl_cons
abbrev dh:= @List.getElem?_map
abbrev dt:= @List.mem_map
abbrev dF:= @List.foldl_append
abbrev dU:= @Nat.le_of_lt
abbrev dZ:= @Nat.le_succ_of_le
abbrev ea:= @List.append_nil
abbrev ec:= @List.mem_range
abbrev ez:= @Heap.lt_size
abbrev eK:= @Nat.zero_le
abbrev eM:= @List.length_range
abbrev eQ:= @List.flatten_cons
abbrev eV:= @Nat.lt_of_le_of_lt
abbrev eW:= @Nat.succ_le_succ
abbrev fu:= @Ne.symm
abbrev fw:= @Nat.lt_of_lt_of_le
abbrev fB:= @Nat.le_add_right
abbrev fP:= @wpAny_Name
abbrev ge:= @List.mem_cons_of_mem
abbrev gg:= @Nat.zero_add
abbrev gh:= @List.nil_append
abbrev gj:= @wpAny_field
abbrev gv:= @Nat.lt_irrefl
abbrev gw:= @List.mem_filter
abbrev gx:= @PySem.W.Fast.te14364793385576792824
abbrev gy:= @List.length_nil
abbrev gH:= @List.getElem?_eq_some_iff
abbrev gI:= @wpAny_holding
abbrev gJ:= @List.mem_cons_self
abbrev gK:= @List.flatten_singleton
abbrev gZ:= @if_false
abbrev g8:= @Nat.not_lt
abbrev g9:= @Nat.succ_pos
abbrev hO:= @List.all_cons
abbrev iK:= @List.getElem?_eq_getElem
abbrev iL:= @List.map_map
abbrev iM:= @Bool.true_and
abbrev iN:= @Int.ofNat_lt
abbrev ji:= @Heap.size_push
abbrev jj:= @Nat.le_of_eq
abbrev jk:= @Nat.mul_le_mul_left
abbrev jP:= @if_true
abbrev jQ:= @sizeLine_eq
abbrev jR:= @beq_iff_eq
abbrev jS:= @Nat.add_le_add_right
abbrev jT:= @Nat.le_succ
abbrev jU:= @Int.ofNat_le
abbrev jV:= @PySem.W.Fast.te10110043849684766642
abbrev jW:= @seg_execs_cons
abbrev jX:= @Nat.add_le_add_left
abbrev kM:= @wpAny_loadName_local
abbrev kN:= @Bool.false_eq_true
abbrev kO:= @wpAny_Call_Name_kw
abbrev kP:= @Option.bind_eq_some_iff
abbrev kQ:= @beq_eq_false_iff_ne
abbrev kR:= @Heap.get?_update_self
abbrev kS:= @Nat.lt_succ_of_lt
abbrev kT:= @Nat.le_of_succ_le
abbrev kU:= @Nat.add_le_add
abbrev mQ:= @Prod.mk.inj
abbrev mR:= @wpAny_truthy_bool
abbrev mS:= @decide_eq_true_eq
abbrev mT:= @Nat.lt_succ_self
abbrev mU:= @List.nodup_cons
abbrev mV:= @Int.not_le
abbrev mW:= @Int.natCast_nonneg
abbrev mX:= @List.foldl_nil
abbrev mY:= @decide_eq_decide
abbrev nq:= @wpAny_items_cons
abbrev nu:= @List.getElem?_eq_none
abbrev ny:= @Nat.ne_of_lt
abbrev nz:= @decide_eq_true_iff
abbrev oQ:= @Heap.SameBut.update
abbrev oR:= @List.forIn_cons
abbrev oS:= @bne_iff_ne
abbrev kb:= @List.mem_of_getElem?
abbrev kf:= @Int.le_trans
abbrev kg:= @wpAny_callSpecial?_slot
abbrev kh:= @Heap.get?_update_other
abbrev ki:= @List.length_replicate
abbrev kj:= @List.sum_cons
abbrev lG:= @Bool.or_eq_true
abbrev lH:= @Bool.eq_iff_iff
abbrev lI:= @wpAny_assign_Name
abbrev lJ:= @List.lookup_cons
abbrev lK:= @wpAny_standAt
abbrev lL:= @List.reverse_cons
abbrev lM:= @wpAny_call_entry
abbrev lN:= @Option.bind_some
abbrev lO:= @Nat.add_zero
abbrev lP:= @List.nodup_append
abbrev lQ:= @Nat.ne_of_gt
abbrev lR:= @segRun_of
abbrev lS:= @List.map_congr_left
abbrev lT:= @Int.toNat_natCast
abbrev lU:= @typeLookup_type
abbrev lV:= @builtinLookup_eq_fast
abbrev lY:= @F.plain_extend_loop
abbrev nA:= @wpAny_items_nil
abbrev nB:= @Option.map_eq_some_iff
abbrev nC:= @List.forIn_nil
abbrev nD:= @Sem.wrap_wrap
abbrev nE:= @Bool.false_ne_true
abbrev nF:= @piece_app
abbrev nG:= @List.length_drop
abbrev nH:= @wpAny_updateSeq
abbrev nI:= @wpAny_seqItems
abbrev pj:= @PySem.callWith_type
abbrev pk:= @Nat.succ_ne_self
abbrev pn:= @List.zip_cons_cons
abbrev po:= @List.map_nil
abbrev pp:= @Nat.mul_zero
abbrev pr:= @List.map_singleton
abbrev pt:= @List.length_dropLast
abbrev pv:= @Option.map_some
abbrev qO:= @List.replicate_succ
abbrev qP:= @call_meets
abbrev qQ:= @beq_self_eq_true
abbrev qR:= @wpAny_storeName_local
abbrev qS:= @wpAny_Assign_Name
abbrev qU:= @List.take_of_length_le
abbrev qV:= @List.filter_cons
abbrev qW:= @typeIs_str
abbrev qX:= @List.filterMap_cons
abbrev qY:= @Int.eq_ofNat_of_zero_le
abbrev qZ:= @Nat.add_comm
abbrev q9:= @wpAny_rule
abbrev rc:= @wpAny_letGo
abbrev rd:= @List.filterMap_cons_some
abbrev re:= @Nat.add_sub_cancel'
abbrev rf:= @Nat.le_max_right
abbrev rg:= @Nat.max_le
abbrev rh:= @List.length_filter_le
abbrev ri:= @Nat.lt_succ_of_le
abbrev rj:= @F.slot_zip_next
abbrev tn:= @wpAny_Constant_str
abbrev tq:= @wpAny_isTrue_Compare1
abbrev tr:= @wpAny_isTrue_value
abbrev tt:= @callWith_builtin
abbrev tu:= @decide_eq_false_iff_not
abbrev tw:= @wpAny_execs_cons
abbrev tz:= @List.length_pos_iff
abbrev tA:= @Nat.le_of_not_lt
abbrev tB:= @wpAny_pyIter_list
abbrev tC:= @pushCells_keeps
abbrev tD:= @List.drop_eq_nil_of_le
abbrev tE:= @wpAny_newObj_type
abbrev tF:= @List.not_mem_nil
abbrev tG:= @List.singleton_append
abbrev tH:= @Heap.get?_eq_some
abbrev tI:= @wpAny_attempt
abbrev tJ:= @List.getElem?_drop
abbrev tK:= @Nat.sub_self
abbrev tL:= @Nat.le_antisymm
abbrev tM:= @Int.max_eq_right
abbrev tN:= @List.range_succ
abbrev tO:= @List.length_take
abbrev tP:= @Nat.lt_add_of_pos_right
abbrev tQ:= @Option.getD_some
abbrev tR:= @plainId_quiet
abbrev tU:= @Array.size_push
abbrev tV:= @Nat.le_add_left
abbrev tW:= @List.cons.inj
abbrev tX:= @Nat.le_of_lt_succ
abbrev tY:= @List.foldr_cons
abbrev tZ:= @Nat.one_mul
abbrev t0:= @Nat.add_left_cancel
abbrev t6:= @wpAny_setField_rec
abbrev xD:= @wpAny_Constant_bool
abbrev xE:= @List.exists_cons_of_ne_nil
abbrev xF:= @wpAny_Call_method_lateS
abbrev xG:= @Nat.sub_add_cancel
abbrev xH:= @Array.getElem?_eq_some_iff
abbrev xI:= @Array.getElem?_eq_getElem
abbrev xJ:= @Bool.and_eq_true_iff
abbrev xK:= @List.getElem?_zip_eq_some
abbrev xL:= @wpAny_specialOf
abbrev xM:= @List.length_zip
abbrev xN:= @List.take_length
abbrev xO:= @List.filter_eq_nil_iff
abbrev xP:= @List.nodup_nil
abbrev xQ:= @wpAny_onRaise
abbrev xR:= @seg_execs_nil
abbrev xS:= @List.take_add_one
abbrev xT:= @Nat.le_of_not_le
abbrev xU:= @codeAny_builtin
abbrev xV:= @F.entry_extend_loop
abbrev xW:= @Around.under_plainId
abbrev xX:= @Nat.min_eq_left
abbrev xY:= @Nat.le_max_left
abbrev xZ:= @List.take_append_drop
abbrev x0:= @List.count_cons
abbrev x3:= @F.slot_range_iterator_next
abbrev x4:= @wpAny_nextOf_list_item
abbrev x5:= @Subtype.property
abbrev Cm:= @wpAny_isTrue_BoolOp
abbrev Cn:= @wpAny_allTrue_And_cons
abbrev Co:= @List.append_toArray
abbrev Cp:= @PySem.F.plainAttrs_list
abbrev Cq:= @PySem.F.slot_list_pop
abbrev Cr:= @wpAny_assign_Tuple
abbrev Cs:= @wpAny_pyIter_range
abbrev Ct:= @List.getElem?_range
abbrev Cu:= @List.getElem_of_mem
abbrev Cv:= @List.contains_cons
abbrev Cw:= @List.zipWith_cons_cons
abbrev Cy:= @PySem.F.plainAttrs_str
abbrev Cz:= @PySem.W.Fast.te11892475500146522536
abbrev CB:= @arm_eval_Attribute
abbrev CC:= @List.mem_of_mem_take
abbrev CF:= @Classical.byContradiction
abbrev CG:= @List.filterMap_cons_none
abbrev CH:= @PySem.F.slot_list_extend
abbrev CI:= @List.map_eq_nil_iff
abbrev CJ:= @List.eq_nil_of_length_eq_zero
abbrev CK:= @Nat.lt_of_le_of_ne
abbrev CL:= @List.count_le_length
noncomputable def s0:Str:=⟨#[95,95,110,97,109,101,95,95]⟩
noncomputable def s1:Str:=⟨#[99,112,121,51,49,51,46,115,116,114,105,110,103,112,114,101,112]⟩
noncomputable def s2:Str:=⟨#[95,95,100,111,99,95,95]⟩
noncomputable def s3:Str:=⟨#[47,99,108,97,105,109,47,99,117,116,46,112,121]⟩
noncomputable def s4:Str:=⟨#[98,49,95,115,101,116]⟩
noncomputable def s5:Str:=⟨#[105,110,95,116,97,98,108,101,95,98,49]⟩
noncomputable def s6:Str:=⟨#[98,51,95,101,120,99,101,112,116,105,111,110,115]⟩
noncomputable def s7:Str:=⟨#[99,112,121,51,49,51,46,116,97,98,110,97,110,110,121]⟩
noncomputable def s8:Str:=⟨#[109,97,112,95,116,97,98,108,101,95,98,51]⟩
noncomputable def s9:Str:=⟨#[95,105,116,101,114,95,101,115,99,97,112,101,100,95,99,104,97,114,115]⟩
noncomputable def Em:Str:=⟨#[95,115,116,114,105,112,95,113,117,111,116,101,100,95,114,101,97,108,110,97,109,101,115]⟩
noncomputable def Hc:Str:=⟨#[95,99,104,101,99,107,95,112,97,114,101,110,116,104,101,115,105,115]⟩
noncomputable def CN:Str:=⟨#[87,104,105,116,101,115,112,97,99,101]⟩
noncomputable def R3:Str:=⟨#[83]⟩
noncomputable def R4:Str:=⟨#[84]⟩
noncomputable def Vh:Str:=⟨#[95,95,105,110,105,116,95,95]⟩
noncomputable def Hd:Str:=⟨#[108,111,110,103,101,115,116,95,114,117,110,95,111,102,95,115,112,97,99,101,115]⟩
noncomputable def En:Str:=⟨#[105,110,100,101,110,116,95,108,101,118,101,108]⟩
noncomputable def Nw:Str:=⟨#[101,113,117,97,108]⟩
noncomputable def Nx:Str:=⟨#[110,111,116,95,101,113,117,97,108,95,119,105,116,110,101,115,115]⟩
noncomputable def Ny:Str:=⟨#[108,101,115,115]⟩
noncomputable def Nz:Str:=⟨#[110,111,116,95,108,101,115,115,95,119,105,116,110,101,115,115]⟩
noncomputable def Vi:Str:=⟨#[69,88,65,67,84,95,84,79,75,69,78,95,84,89,80,69,83]⟩
noncomputable def Zp:Str:=⟨#[60,109,111,100,117,108,101,62]⟩
noncomputable def Vj:Str:=⟨#[99,111,100,101]⟩
noncomputable def Oz:Str:=⟨#[97,100,100,114]⟩
noncomputable def R5:Str:=⟨#[112,111,115]⟩
noncomputable def OA:Str:=⟨#[99,104]⟩
noncomputable def Wp:Str:=⟨#[99,112,121,51,49,51,46,101,109,97,105,108,46,117,116,105,108,115]⟩
noncomputable def Wq:Str:=⟨#[115,116,97,114,116]⟩
noncomputable def Zq:Str:=⟨#[111,112,101,110,95,112,111,115]⟩
noncomputable def Zr:Str:=⟨#[114,101,115,117,108,116]⟩
noncomputable def wi:Str:=⟨#[115,101,108,102]⟩
noncomputable def Ro:Str:=⟨#[99,111,117,110,116]⟩
noncomputable def Ls:Str:=⟨#[110]⟩
noncomputable def Wr:Str:=⟨#[87,104,105,116,101,115,112,97,99,101,46,95,95,105,110,105,116,95,95]⟩
noncomputable def Vk:Str:=⟨#[116,114,97,105,108,105,110,103]⟩
noncomputable def Ws:Str:=⟨#[87,104,105,116,101,115,112,97,99,101,46,108,111,110,103,101,115,116,95,114,117,110,95,111,102,95,115,112,97,99,101,115]⟩
noncomputable def Wt:Str:=⟨#[116,97,98,115,105,122,101]⟩
noncomputable def Wu:Str:=⟨#[87,104,105,116,101,115,112,97,99,101,46,105,110,100,101,110,116,95,108,101,118,101,108]⟩
noncomputable def Fx:Str:=⟨#[111,116,104,101,114]⟩
noncomputable def Wv:Str:=⟨#[87,104,105,116,101,115,112,97,99,101,46,101,113,117,97,108]⟩
noncomputable def Rp:Str:=⟨#[116,115]⟩
noncomputable def Ww:Str:=⟨#[87,104,105,116,101,115,112,97,99,101,46,110,111,116,95,101,113,117,97,108,95,119,105,116,110,101,115,115]⟩
noncomputable def Wx:Str:=⟨#[87,104,105,116,101,115,112,97,99,101,46,108,101,115,115]⟩
noncomputable def Wy:Str:=⟨#[87,104,105,116,101,115,112,97,99,101,46,110,111,116,95,108,101,115,115,95,119,105,116,110,101,115,115]⟩
noncomputable def Zs:Str:=⟨#[95,95,100,105,99,116,95,95]⟩
noncomputable def Zt:Str:=⟨#[95,95,119,101,97,107,114,101,102,95,95]⟩
noncomputable def K6:Str:=⟨#[108,97,119,95,115,108,48,48,51,50,95,48,50]⟩
noncomputable def K7:Str:=⟨#[95,108,97,119,95,114,111,119]⟩
noncomputable def He:Str:=⟨#[95,108,97,119,95,110,97,109,101,115]⟩
noncomputable def K8:Str:=⟨#[95,108,97,119,95,115,112,101,108,108,101,100]⟩
noncomputable def K9:Str:=⟨#[95,108,97,119,95,116,101,120,116]⟩
noncomputable def La:Str:=⟨#[95,108,97,119,95,101,118,101,110,116,115]⟩
noncomputable def Lb:Str:=⟨#[95,108,97,119,95,101,110,100,115]⟩
noncomputable def Lc:Str:=⟨#[95,108,97,119,95,105,110,100,101,110,116]⟩
noncomputable def Ld:Str:=⟨#[95,108,97,119,95,115,116,101,112,115]⟩
noncomputable def OC:Str:=⟨#[108,97,119]⟩
noncomputable def Lu:Str:=⟨#[116,111,116,97,108]⟩
noncomputable def Zu:Str:=⟨#[108,101,116,116,101,114]⟩
noncomputable def Le:Str:=⟨#[114,111,119]⟩
noncomputable def R6:Str:=⟨#[116,101,120,116]⟩
noncomputable def R7:Str:=⟨#[97,99,116]⟩
noncomputable def Rq:Str:=⟨#[119,104,105,99,104]⟩
noncomputable def OD:Str:=⟨#[100,114,97,119]⟩
noncomputable def Zv:Str:=⟨#[114,101,109,97,114,107]⟩
noncomputable def Hf:Str:=⟨#[101,118,101,110,116,115]⟩
noncomputable def Hg:Str:=⟨#[110,97,109,101]⟩
noncomputable def Wz:Str:=⟨#[115,101,101,110]⟩
noncomputable def R8:Str:=⟨#[112,108,97,99,101]⟩
noncomputable def WA:Str:=⟨#[115,105,103,110]⟩
noncomputable def Vl:Str:=⟨#[115,99,114,105,112,116]⟩
noncomputable def Rr:Str:=⟨#[101,110,100,115]⟩
noncomputable def wj:Str:=⟨#[108,101,110]⟩
noncomputable def Zw:Str:=⟨#[111,112,101,110,101,100]⟩
noncomputable def wd:Str:=⟨#[114,97,110,103,101]⟩
noncomputable def Rs:Str:=⟨#[99,104,114]⟩
noncomputable def R9:Str:=⟨#[108,105,115,116]⟩
noncomputable def WB:Str:=⟨#[111,114,100]⟩
noncomputable def WE:Str:=⟨#[115,117,109]⟩
noncomputable def Eo:Str:=⟨#[109,97,120]⟩
noncomputable def WF:Str:=⟨#[116,117,112,108,101]⟩
noncomputable def WG:Str:=⟨#[122,105,112]⟩
noncomputable def Rt:Str:=⟨#[102,114,101,101]⟩
noncomputable def Vm:Str:=⟨#[115,116,101,112,115]⟩
noncomputable def Vn:Str:=⟨#[104,101,108,100]⟩
noncomputable def WH:Str:=⟨#[115,116,97,99,107]⟩
noncomputable def WI:Str:=⟨#[115,105,122,101]⟩
noncomputable def WJ:Str:=⟨#[102,105,114,115,116]⟩
noncomputable def Zx:Str:=⟨#[115,101,99,111,110,100]⟩
noncomputable def Zy:Str:=⟨#[111,110,101,95,114,111,119]⟩
theorem ir{A B:Sort _}{f:A->B}(a:A):f a=f a:=rfl
theorem cz{A:Sort _}{B:A->Sort _}{C:Sort _}{f:(a:A)->B a->C}(a:A)(b:B a):f a b=f a b:=rfl
section
theorem ak{α β:Type _}{o:Option α}{f:α->Option β}{z:β}{G:Prop}(h:o.bind f=some z)(k:∀a,o=some a->f a=some z->G):G:=by
 cases o with
 |none=>cases h
 |some a=>exact k a rfl h
theorem cI{α β:Type _}{o:Option α}{f:α->β}{z:β}{G:Prop}(h:o.map f=some z)(k:∀a,o=some a->f a=z->G):G:=by
 cases o with
 |none=>cases h
 |some a=>exact k a rfl (Option.some.inj h)
@[elab_as_elim] theorem pair_inv {α β:Type _} {a x:α} {b y:β} {G:α->β->Prop} (h:(a,b)=(x,y)) (k:G a b):G x y:=by
 obtain⟨rfl,rfl⟩:=mQ h;exact k
inductive V where
 |none
 |bool (b:Bool)
 |int (i:Int)
 |str (s:List Nat)
 |tup (l:List V)
 |list (l:List V)
 |dict (ks:List Int) (vs:List V)
 |obj (l:List V)
 deriving Inhabited
noncomputable abbrev pyStr(s:List Nat):Str:=⟨s.toArray⟩
noncomputable def x6(h:Heap)(a:Addr)(items:Array Value):Prop:=∃n,h.get? a=some {cls:=.type "tuple",data:=.seq items n}
theorem x6.isTup{h:Heap}{a items}(x:x6 h a items):IsTup h a items:=let⟨n,e⟩:=x;⟨_,e,rfl,n,rfl⟩
theorem x6.x7{h:Heap}{a items}(x:x6 h a items):h.IsTuple a items:=let⟨n,e⟩:=x;⟨_,e,rfl,n,rfl⟩
section
variable(prog:Program)(w:World)(OB:Heap->Addr->List Value->(Addr->Prop)->Prop)
mutual
noncomputable def rk(h:Heap)(T:Addr->Prop):V->Value->Prop
 | .none,v=>v= .none
 | .bool b,v=>v= .bool b
 | .int i,v=>∃t,v= .int i t
 | .str s,v=>∃t,v= .str (pyStr s) t
 | .tup l,v=>∃a vs,v= .ref a/\T a/\x6 h a vs.toArray/\bq h T l vs
 | .list l,v=>∃a vs,v= .ref a/\T a/\h.PlainList a vs.toArray/\bq h T l vs
 | .dict ks l,v=>∃a vs,v= .ref a/\T a/\vs.length=ks.length/\(a==sysModules)=false/\h.DictOf (intKind prog w) a (ks.zip vs)/\bq h T l vs
 | .obj l,v=>∃a vs,v= .ref a/\OB h a vs T/\bq h T l vs
noncomputable def bq(h:Heap)(T:Addr->Prop):List V->List Value->Prop
 |[],vs=>vs=[]
 |x::xs,vs=>∃v r,vs=v::r/\rk h T x v/\bq h T xs r
end
end
noncomputable def Hm(OB:Heap->Addr->List Value->(Addr->Prop)->Prop):Prop:=
 ∀(h h':Heap) (T T':Addr->Prop) a vs,(∀a o,T a->h.get? a=some o->h'.get? a=some o)->(∀a o,T a->h.get? a=some o->T' a)->OB h a vs T->OB h' a vs T'
section
variable{prog:Program}{w:World}{OB:Heap->Addr->List Value->(Addr->Prop)->Prop}(ok:Hm OB)
include ok
mutual
theorem rk.mono{h h':Heap}{T T':Addr->Prop}(hk:∀a o,T a->h.get? a=some o->h'.get? a=some o)(hT:∀a o,T a->h.get? a=some o->T' a):
  ∀(x:V) (v:Value),rk prog w OB h T x v->rk prog w OB h' T' x v
 | .none,v,e| .bool b,v,e| .int i,v,e| .str s,v,e=>e
 | .tup l,v,e=>by
   obtain⟨a,vs,rfl,ha,hl,hr⟩:=e;obtain⟨o,ho⟩:=id hl;exact⟨a,vs,rfl,hT a _ ha ho,⟨o,hk a _ ha ho⟩,bq.mono hk hT l vs hr⟩
 | .list l,v,e=>by
   obtain⟨a,vs,rfl,ha,hl,hr⟩:=e;obtain⟨o,ho⟩:=id hl;exact⟨a,vs,rfl,hT a _ ha ho,⟨o,hk a _ ha ho⟩,bq.mono hk hT l vs hr⟩
 | .dict ks l,v,e=>by
   obtain⟨a,vs,rfl,ha,hlen,lE,hl,hr⟩:=e;obtain⟨o,es,ep,ho,Ru⟩:=id hl;exact⟨a,vs,rfl,hT a o ha ho,hlen,lE,⟨o,es,ep,hk a o ha ho,Ru⟩,bq.mono hk hT l vs hr⟩
 | .obj l,v,e=>by
   obtain⟨a,vs,rfl,ho,hr⟩:=e;exact⟨a,vs,rfl,ok _ _ _ _ _ _ hk hT ho,bq.mono hk hT l vs hr⟩
theorem bq.mono{h h':Heap}{T T':Addr->Prop}(hk:∀a o,T a->h.get? a=some o->h'.get? a=some o)(hT:∀a o,T a->h.get? a=some o->T' a):
  ∀(x:List V) (v:List Value),bq prog w OB h T x v->bq prog w OB h' T' x v
 |[],vs,e=>e
 |x::xs,vs,e=>by
  obtain⟨v,r,rfl,h1,h2⟩:=e;exact⟨v,r,rfl,rk.mono hk hT x v h1,bq.mono hk hT xs r h2⟩
end
end
section
variable{prog:Program}{w:World}{OB:Heap->Addr->List Value->(Addr->Prop)->Prop}{h:Heap}{T:Addr->Prop}
theorem bq.length:∀{l:List V} {vs:List Value},bq prog w OB h T l vs->vs.length=l.length
 |[],_,e=>by obtain rfl:_=[]:=e;rfl
 |x::xs,_,e=>by
  obtain⟨v,r,rfl,_,h2⟩:=e;simp[bq.length h2]
theorem bq.get:∀{l:List V} {vs:List Value} {i:Nat} {x:V},bq prog w OB h T l vs->l[i]?=some x->∃v,vs[i]?=some v/\rk prog w OB h T x v
 |[],_,_,_,_,hx=>by simp at hx
 |y::ys,_,0,x,e,hx=>by
  obtain⟨v,r,rfl,h1,h2⟩:=e;simp at hx;subst hx;exact⟨v,by simp,h1⟩
 |y::ys,_,i+1,x,e,hx=>by
  obtain⟨v,r,rfl,h1,h2⟩:=e;simpa using bq.get h2 (by simpa using hx)
theorem bq.get':∀{l:List V} {vs:List Value} {i:Nat} {v:Value},bq prog w OB h T l vs->vs[i]?=some v->∃x,l[i]?=some x/\rk prog w OB h T x v
 |[],_,_,_,e,hx=>by obtain rfl:_=[]:=e;simp at hx
 |y::ys,_,0,x,e,hx=>by
  obtain⟨v,r,rfl,h1,h2⟩:=e;simp at hx;subst hx;exact⟨y,by simp,h1⟩
 |y::ys,_,i+1,x,e,hx=>by
  obtain⟨v,r,rfl,h1,h2⟩:=e;simpa using bq.get' h2 (by simpa using hx)
theorem bq.app:∀{l l':List V} {vs we:List Value},bq prog w OB h T l vs->bq prog w OB h T l' we->bq prog w OB h T (l++l') (vs++we)
 |[],_,_,_,e,e'=>by obtain rfl:_=[]:=e;exact e'
 |x::xs,_,_,_,e,e'=>by
  obtain⟨v,r,rfl,h1,h2⟩:=e;exact⟨v,_,rfl,h1,h2.app e'⟩
theorem bq.one{x:V}{v:Value}(e:rk prog w OB h T x v):bq prog w OB h T [x] [v]:=⟨v,[],rfl,e,rfl⟩
theorem bq.cons{x:V}{v:Value}{l vs}(e:rk prog w OB h T x v)(e':bq prog w OB h T l vs):bq prog w OB h T (x::l) (v::vs):=⟨v,vs,rfl,e,e'⟩
theorem bq.nil:bq prog w OB h T [] []:=rfl
theorem bq.of{l:List V}{vs:List Value}:vs.length=l.length->(∀(i:Nat) x v,l[i]?=some x->vs[i]?=some v->rk prog w OB h T x v)->bq prog w OB h T l vs:=by
 induction l generalizing vs with
 |nil=>intro hl _;simp at hl;subst hl;exact .nil
 |cons x xs ih=>
  intro hl Fy
  cases vs with
  |nil=>simp at hl
  |cons v r=>exact .cons (Fy 0 x v rfl rfl) (ih (by simpa using hl) fun i y u h1 h2=>Fy (i+1) y u (by simpa using h1) (by simpa using h2))
end
noncomputable def GX(g g':Array GenState):Prop:=(∀(i:Nat) x,g[i]?=some x->g'[i]?=some x)/\(AllBare g->AllBare g')
theorem GX.refl(g):GX g g:=⟨fun ø ø h=>h,id⟩
theorem GX.trans{a b c}(x:GX a b)(y:GX b c):GX a c:=⟨fun i z h=>y.1 i z (x.1 i z h),fun h=>y.2 (x.2 h)⟩
structure Kp(s s':Shared):Prop where
 keep:∀b o,s.heap.get? b=some o->s'.heap.get? b=some o
 gens:GX s.gens s'.gens
 os:s'.os=s.os
theorem Kp.refl(s:Shared):Kp s s:=⟨fun ø ø h=>h,.refl _,rfl⟩
theorem Kp.trans{a b c:Shared}(x:Kp a b)(y:Kp b c):Kp a c:=⟨fun b o h=>y.keep b o (x.keep b o h),x.gens.trans y.gens,y.os.trans x.os⟩
theorem Kp.toks(s:Shared)(tk:Nat):Kp s {s with toks:=tk}:=⟨fun ø ø h=>h,.refl _,rfl⟩
theorem Kp.push(s:Shared)(o:Obj)(tk:Nat):Kp s {s with heap:=s.heap.push o,toks:=tk}:=⟨fun ø ø h=>bz o h,.refl _,rfl⟩
theorem Kp.heap{s:Shared}{h':Heap}{tk:Nat}(k:∀b o,s.heap.get? b=some o->h'.get? b=some o):Kp s {s with heap:=h',toks:=tk}:=⟨k,.refl _,rfl⟩
noncomputable def cD(h:Heap)(hid:List Addr):Prop:=∀a∈hid,∃o,h.get? a=some o
theorem cD.kp{s s':Shared}{hid}(l:cD s.heap hid)(k:Kp s s'):cD s'.heap hid:=fun a h=>let⟨o,e⟩:=l a h;⟨o,k.keep a o e⟩
theorem cD.not{h:Heap}{hid}(l:cD h hid){a:Addr}(e:h.get? a=none):a∉hid:=fun q=>by obtain⟨o,q⟩:=l a q;rw[e]at q;cases q
theorem bE(h:Heap):h.get? h.objs.size=none:=by
 cases e:h.get? h.objs.size with
 |none=>rfl
 |some o=>exact absurd (ez e) (gv _)
structure cJ(n:Nat)(A:Around):Prop where
 handled:A.handled=none
 depth:A.depth+n<=900
 units:A.units+10*n+10<=9000
theorem cJ.deeper{n:Nat}{A:Around}(r:cJ (n+1) A)(env:Env):cJ n (A.deeper env):=
 ⟨r.handled,by have:=r.depth;simp only[depth_deeper];omega,by have:=r.units;simp only[Around.deeper_units];omega⟩
theorem cJ.less{n m:Nat}{A:Around}(r:cJ n A)(h:m<=n):cJ m A:=⟨r.handled,by have:=r.depth;omega,by have:=r.units;omega⟩
end
structure Pk where
 prog:Program
 w:World
 OB:Heap->Addr->List Value->(Addr->Prop)->Prop
 ok:Hm OB
 G:Heap->Prop
 Gk:∀{h h':Heap},G h->(∀b o,h.get? b=some o->h'.get? b=some o)->G h'
 glob:Str->Option Value
 nolim:∀{h:Heap},G h->h.NoLimit
 aV:∀{h:Heap},G h->∃mg mb,h.Ns mainGlobals mg/\h.Ns builtinsNs mb/\∀x v,glob x=some v->mg x=some v\/(mg x=none/\mb x=some v)
noncomputable abbrev Dn(P:Pk)(h:Heap)(hid:List Addr)(x:V)(v:Value):Prop:=rk P.prog P.w P.OB h (· ∉hid) x v
noncomputable abbrev bd(P:Pk)(h:Heap)(hid:List Addr)(x:List V)(v:List Value):Prop:=bq P.prog P.w P.OB h (· ∉hid) x v
theorem Dn.grow{P:Pk}{h h':Heap}{hid ar:List Addr}{x:V}{v:Value}(e:Dn P h hid x v)(hk:∀a o,a∉hid->h.get? a=some o->h'.get? a=some o)
  (hn:∀a∈ar,a∈hid\/h.get? a=none):Dn P h' ar x v:=
 rk.mono P.ok hk (fun a o ha ho hm=>(hn a hm).elim ha fun q=>by rw[q]at ho;cases ho) x v e
theorem bd.grow{P:Pk}{h h':Heap}{hid ar:List Addr}{x:List V}{v:List Value}(e:bd P h hid x v)(hk:∀a o,a∉hid->h.get? a=some o->h'.get? a=some o)
  (hn:∀a∈ar,a∈hid\/h.get? a=none):bd P h' ar x v:=
 bq.mono P.ok hk (fun a o ha ho hm=>(hn a hm).elim ha fun q=>by rw[q]at ho;cases ho) x v e
theorem Dn.kp{P:Pk}{s s':Shared}{hid:List Addr}{x:V}{v:Value}(e:Dn P s.heap hid x v)(k:Kp s s'):Dn P s'.heap hid x v:=e.grow (fun a o ø h=>k.keep a o h) fun a h=>.inl h
theorem bd.kp{P:Pk}{s s':Shared}{hid:List Addr}{x:List V}{v:List Value}(e:bd P s.heap hid x v)(k:Kp s s'):bd P s'.heap hid x v:=e.grow (fun a o ø h=>k.keep a o h) fun a h=>.inl h
theorem Dn.less{P:Pk}{h:Heap}{hid ar:List Addr}{x:V}{v:Value}(e:Dn P h hid x v)(hn:∀a∈ar,a∈hid):Dn P h ar x v:=
 rk.mono P.ok (fun ø ø ø h=>h) (fun a o ha ho hm=>ha (hn a hm)) x v e
theorem bd.less{P:Pk}{h:Heap}{hid ar:List Addr}{x:List V}{v:List Value}(e:bd P h hid x v)(hn:∀a∈ar,a∈hid):bd P h ar x v:=
 bq.mono P.ok (fun ø ø ø h=>h) (fun a o ha ho hm=>ha (hn a hm)) x v e
structure Cx where
 vars:List (Str×NameKind×Bool)
 aV:List Str
noncomputable def eP(P:Pk)(L:Addr)(h:Heap)(out hid:List Addr):V->Value->Prop
 | .list l,v=>∃a vs,v= .ref a/\a∈hid/\a∉out/\a≠L/\h.PlainList a vs.toArray/\bd P h hid l vs
 | .dict ks l,v=>∃a vs,v= .ref a/\a∈hid/\a∉out/\a≠L/\(a==sysModules)=false/\vs.length=ks.length/\h.DictOf (intKind P.prog P.w) a (ks.zip vs)/\bd P h hid l vs
 |_,_=>False
noncomputable def oU(P:Pk)(L:Addr)(h:Heap)(out hid:List Addr)(b:Bool)(ov:Option Value):Option V->Prop
 |none=>True
 |some x=>∃v,ov=some v/\(if b then eP P L h out hid x v else Dn P h hid x v)
noncomputable def At(env:Env)(m:Str->Option Value)(h:Heap)(out hid:List Addr)(x:Str):NameKind->Option Value->Prop
 | .local,ov=>m x=ov
 | .cell,ov| .free,ov=>∃c,env.cells.lookup x=some c/\c∈hid/\c∉out/\h.IsCell c ov
 |_,_=>False
structure aU(P:Pk)(K:Cx)(env:Env)(out hid:List Addr)(m:Str->Option Value)(B s:Shared)(ρ:Nat->Option V):Prop where
 fn:env.scope.kind= .function
 gl:env.globals=mainGlobals
 bl:env.builtins=builtinsNs
 kind:∀(i:Nat) x k b,K.vars[i]?=some (x,k,b)->env.kindOf x=some k
 oV:∀x∈K.aV,env.kindOf x=some .globalImplicit
 nodup:∀(i j:Nat) x k b k' b',K.vars[i]?=some (x,k,b)->K.vars[j]?=some (x,k',b')->i=j
 iD:∀x y c,env.cells.lookup x=some c->env.cells.lookup y=some c->x=y
 live:cD s.heap hid
 oh:∀a∈out,a∈hid
 Lh:env.locals∈hid
 Lo:env.locals∉out
 ns:s.heap.Ns env.locals m
 slot:∀(i:Nat) x k b,K.vars[i]?=some (x,k,b)->∃ov,At env m s.heap out hid x k ov/\oU P env.locals s.heap out hid b ov (ρ i)
 apart:∀(i j:Nat) x y k k' a,i≠j->K.vars[i]?=some (x,k,true)->K.vars[j]?=some (y,k',true)->At env m s.heap out hid x k (some (.ref a))->At env m s.heap out hid y k' (some (.ref a))->ρ i=none\/ρ j=none
 gb:P.G B.heap
 kp:Kp B s
 own:∀a∈hid,a∉out->B.heap.get? a=none
theorem IsCell.fun{h:Heap}{c:Addr}{u v:Option Value}(x:h.IsCell c u)(y:h.IsCell c v):u=v:=by
 obtain⟨o,ho,hd⟩:=x;obtain⟨o',NA,lF⟩:=y;rw[ho]at NA;cases NA;rw[hd]at lF;cases lF;rfl
theorem At.fun2{env m h out hid out' ar x k u v}(a:At env m h out hid x k u)(b:At env m h out' ar x k v):u=v:=by
 cases k
 case «local» =>exact Eq.trans (Eq.symm a) b
 case cell=>obtain⟨c,h1,_,_,h2⟩:=a;obtain⟨c',Hn,_,_,OE⟩:=b;rw[h1]at Hn;cases Hn;exact IsCell.fun h2 OE
 case free=>obtain⟨c,h1,_,_,h2⟩:=a;obtain⟨c',Hn,_,_,OE⟩:=b;rw[h1]at Hn;cases Hn;exact IsCell.fun h2 OE
 all_goals exact a.elim
theorem At.fun{env m h out hid x k u v}(a:At env m h out hid x k u)(b:At env m h out hid x k v):u=v:=a.fun2 b
theorem At.map{env m m'}{h h':Heap}{out hid out' ar:List Addr}{x k u}(a:At env m h out hid x k u)(hm:m x=u->m' x=u)
  (f:∀c,env.cells.lookup x=some c->c∈hid->c∉out->h.IsCell c u->c∈ar/\c∉out'/\h'.IsCell c u):At env m' h' out' ar x k u:=by
 cases k
 case «local» =>exact hm a
 case cell=>obtain⟨c,h1,h2,h3,h4⟩:=a;exact⟨c,h1,f c h1 h2 h3 h4⟩
 case free=>obtain⟨c,h1,h2,h3,h4⟩:=a;exact⟨c,h1,f c h1 h2 h3 h4⟩
 all_goals exact a.elim
theorem At.grow{env m}{h h':Heap}{out hid ar:List Addr}{x k u}(a:At env m h out hid x k u)(hk:∀c v,h.IsCell c v->h'.IsCell c v)(hh:∀a∈hid,a∈ar):At env m h' out ar x k u:=
 a.map id fun c ø h2 h3 h4=>⟨hh _ h2,h3,hk _ _ h4⟩
theorem At.back{env m}{h h':Heap}{out hid ar:List Addr}{x k u}(a:At env m h' out ar x k u){v}(b:At env m h out hid x k v)(hk:∀c v,h.IsCell c v->h'.IsCell c v):u=v:=
 a.fun2 (At.map (out':=out) (ar:=hid) b id fun c ø h2 h3 h4=>⟨h2,h3,hk _ _ h4⟩)
theorem IsCell.Sa{h h':Heap}{c:Addr}{u:Option Value}(x:h.IsCell c u)(k:∀o,h.get? c=some o->h'.get? c=some o):h'.IsCell c u:=by
 obtain⟨o,ho,hd⟩:=x;exact⟨o,k o ho,hd⟩
theorem eP.map{P:Pk}{L L':Addr}{h h':Heap}{out hid out' ar:List Addr}{x:V}{v:Value}(e:eP P L h out hid x v)
  (f:∀a,v= .ref a->a∈hid->a∉out->a≠L->a∈ar/\a∉out'/\a≠L'/\∀o,h.get? a=some o->h'.get? a=some o) (g:∀{l vs},bd P h hid l vs->bd P h' ar l vs):eP P L' h' out' ar x v:=by
 cases x
 case list=>
  obtain⟨a,vs,rfl,h1,h2,h3,⟨k,h4⟩,h5⟩:=e;obtain⟨q1,q2,q3,q4⟩:=f a rfl h1 h2 h3;exact⟨a,vs,rfl,q1,q2,q3,⟨k,q4 _ h4⟩,g h5⟩
 case dict=>
  obtain⟨a,vs,rfl,h1,h2,h3,h4,h5,⟨o,es,ep,ho,hr⟩,h7⟩:=e;obtain⟨q1,q2,q3,q4⟩:=f a rfl h1 h2 h3;exact⟨a,vs,rfl,q1,q2,q3,h4,h5,⟨o,es,ep,q4 o ho,hr⟩,g h7⟩
 all_goals exact e.elim
theorem eP.grow{P:Pk}{L:Addr}{h h':Heap}{out hid ar:List Addr}{x:V}{v:Value}(e:eP P L h out hid x v)(hk:∀a o,h.get? a=some o->h'.get? a=some o)
  (hh:∀a∈hid,a∈ar) (hn:∀a∈ar,a∈hid\/h.get? a=none):eP P L h' out ar x v:=
 e.map (fun a ø h1 h2 h3=>⟨hh _ h1,h2,h3,hk a⟩) fun d=>d.grow (fun a o ø q=>hk a o q) hn
theorem oU.map{P:Pk}{L L':Addr}{h h':Heap}{out hid out' ar:List Addr}{b ov r}(e:oU P L h out hid b ov r)
  (f:b=true->∀a,ov=some (.ref a)->a∈hid->a∉out->a≠L->a∈ar/\a∉out'/\a≠L'/\∀o,h.get? a=some o->h'.get? a=some o) (d:∀{x v},Dn P h hid x v->Dn P h' ar x v) (g:∀{l vs},bd P h hid l vs->bd P h' ar l vs):oU P L' h' out' ar b ov r:=by
 cases r with
 |none=>trivial
 |some x=>
  obtain⟨v,rfl,e⟩:=e
  cases b with
  |false=>exact⟨v,rfl,d e⟩
  |true=>exact⟨v,rfl,eP.map (P:=P) e (fun a q=>f rfl a (congrArg some q)) g⟩
theorem oU.grow{P:Pk}{L:Addr}{h h':Heap}{out hid ar:List Addr}{b ov r}(e:oU P L h out hid b ov r)(hk:∀a o,h.get? a=some o->h'.get? a=some o)
  (hh:∀a∈hid,a∈ar) (hn:∀a∈ar,a∈hid\/h.get? a=none):oU P L h' out ar b ov r:=
 e.map (fun ø a ø h1 h2 h3=>⟨hh _ h1,h2,h3,hk a⟩) (fun d=>d.grow (fun a o ø q=>hk a o q) hn) fun d=>d.grow (fun a o ø q=>hk a o q) hn
theorem aU.map{P:Pk}{K:Cx}{env:Env}{out hid out' ar:List Addr}{m}{B s s':Shared}{ρ}(S:aU P K env out hid m B s ρ)
  (live:cD s'.heap ar) (oh:∀a∈out',a∈ar) (ns:s'.heap.Ns env.locals m) (kp:Kp B s') (own:∀a∈ar,a∉out'->B.heap.get? a=none)
  (move:∀a,a∈hid->a∉out->a∈ar/\a∉out'/\∀o,s.heap.get? a=some o->s'.heap.get? a=some o)
  (old:∀a o,a∉hid->s.heap.get? a=some o->s'.heap.get? a=some o) (new:∀a∈ar,a∈hid\/s.heap.get? a=none):aU P K env out' ar m B s' ρ:=by
 have Rv:∀{x k u},At env m s.heap out hid x k u->At env m s'.heap out' ar x k u:=fun h=>h.map id fun c ø h1 h2 h3=>⟨(move c h1 h2).1,(move c h1 h2).2.1,IsCell.Sa h3 (move c h1 h2).2.2⟩
 exact {fn:=S.fn,gl:=S.gl,bl:=S.bl,kind:=S.kind,oV:=S.oV,nodup:=S.nodup,iD:=S.iD,live:=live,oh:=oh,Lh:=(move _ S.Lh S.Lo).1,Lo:=(move _ S.Lh S.Lo).2.1,ns:=ns,gb:=S.gb,kp:=kp,own:=own
        slot:=fun i x k b hi=>(S.slot i x k b hi).elim fun ov q=>⟨ov,Rv q.1,q.2.map (fun ø a ø h1 h2 h3=>⟨(move a h1 h2).1,(move a h1 h2).2.1,h3,(move a h1 h2).2.2⟩) (fun e=>Dn.grow (P:=P) e old new) fun e=>bd.grow (P:=P) e old new⟩
        apart:=fun i j x y k k' a Vo hi hj h1 h2=>(S.slot i x k true hi).elim fun ov q1=>(S.slot j y k' true hj).elim fun WK q2=>by
         have e1:=At.fun (Rv q1.1) h1
         have e2:=At.fun (Rv q2.1) h2
         subst e1;subst e2;exact S.apart i j x y k k' a Vo hi hj q1.1 q2.1}
theorem aU.grow{P:Pk}{K:Cx}{env:Env}{out hid ar:List Addr}{m}{B s s':Shared}{ρ}(r:aU P K env out hid m B s ρ)(k:Kp s s')
  (hh:∀a∈hid,a∈ar) (hn:∀a∈ar,a∈hid\/s.heap.get? a=none) (hl:cD s'.heap ar):aU P K env out ar m B s' ρ:=
 r.map hl (fun a h=>hh a (r.oh a h)) (r.ns.keeps k.keep) (r.kp.trans k) (fun a h ho=>(hn a h).elim (fun q=>r.own a q ho) fun q=>by
  cases e:B.heap.get? a with
  |none=>rfl
  |some o=>rw[r.kp.keep a o e]at q;cases q) (fun a h ho=>⟨hh a h,ho,k.keep a⟩) (fun a o ø h=>k.keep a o h) hn
theorem aU.after{P:Pk}{K:Cx}{env:Env}{out hid:List Addr}{m}{B s s':Shared}{ρ}(r:aU P K env out hid m B s ρ)(k:Kp s s'):aU P K env out hid m B s' ρ:=
 r.grow k (fun ø h=>h) (fun ø h=>.inl h) (r.live.kp k)
theorem aU.G{P:Pk}{K:Cx}{env:Env}{out hid:List Addr}{m}{B s:Shared}{ρ}(r:aU P K env out hid m B s ρ):P.G s.heap:=P.Gk r.gb r.kp.keep
noncomputable abbrev ao:=Nat->Option V
noncomputable abbrev av(lo:Bool)(out hid:List Addr):List Addr:=if lo then out else hid
noncomputable def eo(P:Pk)(n:Nat)(K:Cx)(lo:Bool)(e:Expr)(f:ao->Option V):Prop:=
 ∀(A:Around) (env:Env) (out hid:List Addr) (m:Str->Option Value) (B s:Shared) (ρ:ao) (x:V) (E:Value->Shared->Prop),cJ n A->aU P K env out hid m B s ρ->f ρ=some x->
  wpAny (model P.prog P.w) A (eval e env) (fun v s'=>Kp s s'/\Dn P s'.heap (av lo out hid) x v) E s
noncomputable def kl(P:Pk)(n:Nat)(K:Cx)(lo:Bool)(es:List Expr)(f:ao->Option (List V)):Prop:=
 ∀(A:Around) (env:Env) (out hid:List Addr) (m:Str->Option Value) (B s:Shared) (ρ:ao) (x:List V) (E:Value->Shared->Prop) (pos:Pos),cJ n A->aU P K env out hid m B s ρ->f ρ=some x->
  wpAny (model P.prog P.w) A (spliced (backTo pos (starEach es env))) (fun v s'=>Kp s s'/\bd P s'.heap (av lo out hid) x v) E s
noncomputable def sh(P:Pk)(n:Nat)(K:Cx)(e:Expr)(f:ao->Option Bool):Prop:=
 ∀(A:Around) (env:Env) (out hid:List Addr) (m:Str->Option Value) (B s:Shared) (ρ:ao) (b:Bool) (E:Value->Shared->Prop),cJ n A->aU P K env out hid m B s ρ->f ρ=some b->
  wpAny (model P.prog P.w) A (isTrue e env (eval e env)) (fun c s'=>Kp s s'/\c=b) E s
theorem aU.Ep{P:Pk}{K:Cx}{env:Env}{out hid:List Addr}{m}{B s:Shared}{ρ}(r:aU P K env out hid m B s ρ)(lo:Bool):cD s.heap (av lo out hid):=by
 cases lo
 ·exact r.live
 ·exact fun a h=>r.live a (r.oh a h)
section
variable{P:Pk}{n:Nat}{K:Cx}{lo:Bool}
noncomputable def V.scalar:V->Bool
 | .none| .bool _| .int _| .str _=>true
 |_=>false
theorem Dn.scalar{h h':Heap}{hid ar:List Addr}{x:V}{v:Value}(e:Dn P h hid x v)(hx:x.scalar=true):Dn P h' ar x v:=by
 cases x<;>first|exact e|cases hx
theorem ac{e f}(h:eo P n K false e f):eo P n K true e f:=fun A env out hid m B s ρ x E r S hf=>
 aD (h A env out hid m B s ρ x E r S hf) (fun v s' q=>⟨q.1,q.2.less S.oh⟩) fun ø ø q=>q
set_option tactic.hygienic true in
theorem t7{e f}(h:eo P n K true e f):eo P n K lo e (fun ρ=>(f ρ).bind fun x=>if x.scalar then some x else none):=fun A env out hid m B s ρ x E r S hf=>by
 refine ak hf fun y hy hx=>?_
 split at hx
 ·rename_i WL
  obtain rfl:=Option.some.inj hx;exact aD (h A env out hid m B s ρ y E r S hy) (fun v s' q=>⟨q.1,q.2.scalar WL⟩) fun ø ø q=>q
 ·cases hx
theorem ae{i k pos}:eo P n K lo (.Constant (.int i) k pos) fun ø=>some (.int i):=fun A env out hid m B s ρ x E r S hf=>by
 cases hf;exact wpAny_Constant_int ⟨Kp.toks s _,_,rfl⟩
theorem aC{x:Str}{k pos}{l:List Nat}(hl:x=pyStr l):eo P n K lo (.Constant (.str x) k pos) fun ø=>some (.str l):=fun A env out hid m B s ρ y E r S hf=>by
 cases hf;subst hl;exact tn ⟨Kp.toks s _,_,rfl⟩
theorem eX{b k pos}:eo P n K lo (.Constant (.bool b) k pos) fun ø=>some (.bool b):=fun A env out hid m B s ρ y E r S hf=>by
 cases hf;exact xD ⟨Kp.refl s,rfl⟩
theorem lZ{k pos}:eo P n K lo (.Constant .none k pos) fun ø=>some .none:=fun A env out hid m B s ρ y E r S hf=>by
 cases hf;exact wpAny_Constant_none ⟨Kp.refl s,rfl⟩
theorem aU.load{env:Env}{out hid:List Addr}{m}{B s:Shared}{ρ}(S:aU P K env out hid m B s ρ){i:Nat}{x:Str}{k:NameKind}{b:Bool}(hi:K.vars[i]?=some (x,k,b)){y:V}(hy:ρ i=some y)
  (hd:(x==("__debug__":Str))=false) (hc:(x==("__classdict__":Str))=false) {A:Around} {E:Value->Shared->Prop} {M:Model} {Q:Value->Shared->Prop}
  (h:∀v,(if b then eP P env.locals s.heap out hid y v else Dn P s.heap hid y v)->At env m s.heap out hid x k (some v)->Q v s):wpAny M A (loadName env x) Q E s:=by
 obtain⟨ov,h1,h2⟩:=S.slot i x k b hi;rw[hy]at h2;obtain⟨v,rfl,h2⟩:=h2;have hk:=S.kind i x k b hi;have h0:=h v h2 h1;cases k<;>simp only[At]at h1
 ·exact kM S.fn hk S.ns h1 h0
 all_goals first
  |exact h1.elim
  |(obtain⟨c,e1,_,_,e2⟩:=h1
    first
     |exact wpAny_loadName_cell S.fn hk e1 e2 h0
     |exact wpAny_loadName_free S.fn hk e1 e2 h0 hc)
theorem eP.loose{L h out hid}{x:V}{v:Value}(e:eP P L h out hid x v)(oh:∀a∈out,a∈hid):Dn P h out x v:=by
 cases x with
 |list l=>
  obtain⟨a,vs,rfl,h1,h2,h3,h4,h5⟩:=e;exact⟨a,vs,rfl,h2,h4,bd.less (P:=P) h5 oh⟩
 |dict ks l=>
  obtain⟨a,vs,rfl,h1,h2,h3,h4,h5,h6,h7⟩:=e;exact⟨a,vs,rfl,h2,h5,h4,h6,bd.less (P:=P) h7 oh⟩
 |_=>exact e.elim
theorem ab(i:Nat){x:Str}{k:NameKind}{pos:Pos}(hi:K.vars[i]?=some (x,k,false))(hd:(x==("__debug__":Str))=false)(hc:(x==("__classdict__":Str))=false):
  eo P n K false (.Name x pos) fun ρ=>ρ i:=fun A env out hid m B s ρ y E r S hf=>
 fP (S.load hi hf hd hc fun v hv ø=>⟨Kp.refl s,hv⟩) hd
theorem dc(i:Nat){x:Str}{k:NameKind}{pos:Pos}(hi:K.vars[i]?=some (x,k,true))(hd:(x==("__debug__":Str))=false)(hc:(x==("__classdict__":Str))=false):
  eo P n K true (.Name x pos) fun ρ=>ρ i:=fun A env out hid m B s ρ y E r S hf=>
 fP (S.load hi hf hd hc fun v hv ø=>⟨Kp.refl s,eP.loose hv S.oh⟩) hd
noncomputable def t8(P:Pk)(op:Operator)(F:V->V->Option V):Prop:=
 ∀(A:Around) (s:Shared) (hid:List Addr) (x y z:V) (u v:Value) (E:Value->Shared->Prop),cJ 0 A->cD s.heap hid->Dn P s.heap hid x u->Dn P s.heap hid y v->F x y=some z->
  wpAny (model P.prog P.w) A (binaryOp op u v) (fun r s'=>Kp s s'/\Dn P s'.heap hid z r) E s
noncomputable def jl(P:Pk)(op:CmpOp)(F:V->V->Option Bool):Prop:=
 ∀(A:Around) (s:Shared) (hid:List Addr) (x y:V) (b:Bool) (u v:Value) (E:Value->Shared->Prop),cJ 0 A->P.G s.heap->cD s.heap hid->Dn P s.heap hid x u->Dn P s.heap hid y v->F x y=some b->
  wpAny (model P.prog P.w) A (compareOp op u v) (fun r s'=>Kp s s'/\r= .bool b) E s
noncomputable def iW(F:V->V->Option V)(f g:ao->Option V):ao->Option V:=fun ρ=>(f ρ).bind fun x=>(g ρ).bind fun y=>F x y
noncomputable def eU(F:V->V->Option Bool)(f g:ao->Option V):ao->Option Bool:=fun ρ=>(f ρ).bind fun x=>(g ρ).bind fun y=>F x y
theorem al{l r:Expr}{op:Operator}{pos:Pos}{F f g}(ho:t8 P op F)(hl:eo P n K lo l f)(hr:eo P n K lo r g):eo P n K lo (.BinOp l op r pos) (iW F f g):=fun A env out hid m B s ρ z E rm S hf=>by
 refine ak hf fun x hx gu=>?_
 clear hf;rename _=>hf
 refine ak hf fun y hy gu=>?_
 clear hf;rename _=>hf
 refine wpAny_BinOp (aD (hl A env out hid m B s ρ x E rm S hx) (fun u s₁ aj=>?_) fun ø ø q=>q);refine aD (hr A env out hid m B s₁ ρ y E rm (S.after aj.1) hy) (fun v s₂ aM=>?_) fun ø ø q=>q
 exact aD (ho A s₂ (av lo out hid) x y z u v E (rm.less (eK _)) (((S.after aj.1).after aM.1).Ep lo) (aj.2.kp aM.1) aM.2 hf) (fun w s₃ eu=>⟨aj.1.trans (aM.1.trans eu.1),eu.2⟩) fun ø ø q=>q
theorem i9{l r:Expr}{op:CmpOp}{pos:Pos}{F f g}(ho:jl P op F)(hl:eo P n K true l f)(hr:eo P n K true r g)(hm:behindInMarks op r=false):
  eo P n K lo (.Compare l [op] [r] pos) (fun ρ=>(eU F f g ρ).map .bool):=fun A env out hid m B s ρ z E rm S hf=>by
 refine cI hf ?_;clear hf;rintro b Sb rfl;replace hf:=Sb;refine ak hf fun x hx gu=>?_
 clear hf;rename _=>hf
 refine ak hf fun y hy gu=>?_
 clear hf;rename _=>hf
 refine wpAny_Compare1 (aD (hl A env out hid m B s ρ x E rm S hx) (fun u s₁ aj=>?_) fun ø ø q=>q) hm;refine aD (hr A env out hid m B s₁ ρ y E rm (S.after aj.1) hy) (fun v s₂ aM=>?_) fun ø ø q=>q
 exact aD (ho A s₂ out x y b u v E (rm.less (eK _)) ((S.after aj.1).after aM.1).G (((S.after aj.1).after aM.1).Ep true) (aj.2.kp aM.1) aM.2 hf) (fun w s₃ eu=>⟨aj.1.trans (aM.1.trans eu.1),eu.2⟩) fun ø ø q=>q
theorem ay{l r:Expr}{op:CmpOp}{pos:Pos}{F f g}(ho:jl P op F)(hl:eo P n K true l f)(hr:eo P n K true r g)(hm:behindInMarks op r=false):
  sh P n K (.Compare l [op] [r] pos) (eU F f g):=fun A env out hid m B s ρ b E rm S hf=>by
 refine ak hf fun x hx gu=>?_
 clear hf;rename _=>hf
 refine ak hf fun y hy gu=>?_
 clear hf;rename _=>hf
 refine tq (aD (hl A env out hid m B s ρ x E rm S hx) (fun u s₁ aj=>?_) fun ø ø q=>q) hm;refine aD (hr A env out hid m B s₁ ρ y E rm (S.after aj.1) hy) (fun v s₂ aM=>?_) fun ø ø q=>q
 refine aD (ho A s₂ out x y b u v E (rm.less (eK _)) ((S.after aj.1).after aM.1).G (((S.after aj.1).after aM.1).Ep true) (aj.2.kp aM.1) aM.2 hf) (fun w s₃ eu=>?_) fun ø ø q=>q
 rw[eu.2];exact mR ⟨aj.1.trans (aM.1.trans eu.1),rfl⟩
noncomputable def px:V->Option Bool
 | .bool b=>some b
 |_=>none
theorem ja{e:Expr}{f}(h:eo P n K true e f)(he:∀env whole,isTrue e env whole=(do let v <-whole;standAt e.pos;holding [v] (truthy v))):sh P n K e (fun ρ=>(f ρ).bind px):=fun A env out hid m B s ρ b E rm S hf=>by
 refine ak hf fun x hx gu=>?_
 clear hf;rename _=>hf
 refine tr (aD (h A env out hid m B s ρ x E rm S hx) (fun v s₁ aj=>?_) fun ø ø q=>q) (he _ _);cases x<;>simp only[px]at hf<;>try cases hf
 obtain rfl:v= .bool _:=aj.2;exact mR ⟨aj.1,rfl⟩
theorem wS{e:Expr}{pos:Pos}{f}(h:sh P n K e f):sh P n K (.UnaryOp .Not e pos) (fun ρ=>(f ρ).map (!·)):=fun A env out hid m B s ρ b E rm S hf=>by
 refine cI hf ?_;clear hf;rintro c Sb rfl;replace hf:=Sb;exact wpAny_isTrue_Not (aD (h A env out hid m B s ρ c E rm S hf) (fun c' s₁ aj=>⟨aj.1,by rw[aj.2]⟩) fun ø ø q=>q)
noncomputable def ou(f g:ao->Option Bool):ao->Option Bool:=fun ρ=>(f ρ).bind fun a=>if a then g ρ else some false
noncomputable def Rw(f g:ao->Option Bool):ao->Option Bool:=fun ρ=>(f ρ).bind fun a=>if a then some true else g ρ
theorem gk{a b:Expr}{pos:Pos}{f g}(ha:sh P n K a f)(hb:sh P n K b g):sh P n K (.BoolOp .And [a,b] pos) (ou f g):=fun A env out hid m B s ρ c E rm S hf=>by
 refine ak hf fun x hx gu=>?_
 clear hf;rename _=>hf
 refine Cm (Cn (aD (ha A env out hid m B s ρ x E rm S hx) (fun x' s₁ aj=>?_) fun ø ø q=>q));rw[aj.2];cases x
 ·simp only[kN,gZ]at hf ⊢
  exact⟨aj.1,(Option.some.inj hf)⟩
 ·simp only[jP]at hf ⊢
  refine Cn (aD (hb A env out hid m B s₁ ρ c E rm (S.after aj.1) hf) (fun y' s₂ aM=>?_) fun ø ø q=>q);rw[aM.2];cases c
  ·exact⟨aj.1.trans aM.1,rfl⟩
  ·exact wpAny_allTrue_And_nil ⟨aj.1.trans aM.1,rfl⟩
theorem sh.or{a b:Expr}{pos:Pos}{f g}(ha:sh P n K a f)(hb:sh P n K b g):sh P n K (.BoolOp .Or [a,b] pos) (Rw f g):=fun A env out hid m B s ρ c E rm S hf=>by
 refine ak hf fun x hx gu=>?_
 clear hf;rename _=>hf
 refine Cm (wpAny_allTrue_Or_cons (aD (ha A env out hid m B s ρ x E rm S hx) (fun x' s₁ aj=>?_) fun ø ø q=>q));rw[aj.2];cases x
 ·simp only[kN,gZ]at hf ⊢
  refine wpAny_allTrue_Or_cons (aD (hb A env out hid m B s₁ ρ c E rm (S.after aj.1) hf) (fun y' s₂ aM=>?_) fun ø ø q=>q);rw[aM.2];cases c
  ·exact wpAny_allTrue_Or_nil ⟨aj.1.trans aM.1,rfl⟩
  ·exact⟨aj.1.trans aM.1,rfl⟩
 ·simp only[jP]at hf ⊢
  exact⟨aj.1,(Option.some.inj hf)⟩
noncomputable def CO(t:ao->Option Bool)(f g:ao->Option V):ao->Option V:=fun ρ=>(t ρ).bind fun b=>if b then f ρ else g ρ
theorem jb{t a b:Expr}{pos:Pos}{c f g}(ht:sh P n K t c)(ha:eo P n K lo a f)(hb:eo P n K lo b g):eo P n K lo (.IfExp t a b pos) (CO c f g):=fun A env out hid m B s ρ z E rm S hf=>by
 refine ak hf fun x hx gu=>?_
 clear hf;rename _=>hf
 refine wpAny_IfExp (aD (ht A env out hid m B s ρ x E rm S hx) (fun x' s₁ aj=>?_) fun ø ø q=>q);rw[aj.2];cases x
 ·simp only[kN,gZ]at hf ⊢
  exact aD (hb A env out hid m B s₁ ρ z E rm (S.after aj.1) hf) (fun v s₂ aM=>⟨aj.1.trans aM.1,aM.2⟩) fun ø ø q=>q
 ·simp only[jP]at hf ⊢
  exact aD (ha A env out hid m B s₁ ρ z E rm (S.after aj.1) hf) (fun v s₂ aM=>⟨aj.1.trans aM.1,aM.2⟩) fun ø ø q=>q
theorem ag:kl P n K lo [] fun ø=>some []:=fun A env out hid m B s ρ x E pos rm S hf=>by
 cases hf;exact nA ⟨Kp.refl s,bq.nil⟩
noncomputable def cW(f:ao->Option V)(g:ao->Option (List V)):ao->Option (List V):=fun ρ=>(f ρ).bind fun x=>(g ρ).bind fun y=>some (x::y)
theorem aa{e:Expr}{es:List Expr}{f g}(h:eo P n K lo e f)(hs:kl P n K lo es g)(he:∀env,starEach (e::es) env=(false,eval e env)::starEach es env):kl P n K lo (e::es) (cW f g):=
 fun A env out hid m B s ρ x E pos rm S hf=>by
 refine ak hf fun y hy gu=>?_
 clear hf;rename _=>hf
 refine ak hf fun ys Ho gu=>?_
 clear hf;rename _=>hf
 cases hf;refine nq (aD (h A env out hid m B s ρ y E rm S hy) (fun v s₁ aj=>?_) fun ø ø q=>q) (he env);exact aD (hs A env out hid m B s₁ ρ ys E pos rm (S.after aj.1) Ho) (fun vs s₂ aM=>⟨aj.1.trans aM.1,.cons (aj.2.kp aM.1) aM.2⟩) fun ø ø q=>q
theorem sW{hid:List Addr}{s:Shared}(h:cD s.heap hid):s.heap.objs.size∉hid:=h.not (bE _)
theorem de{es:List Expr}{k:Nat}{pos:Pos}{f}(hs:kl P n K lo es f)(hl:es.length<=100)(hlen:∀ρ x,f ρ=some x->x.length=es.length):eo P n K lo (.Tuple es k pos) (fun ρ=>(f ρ).map .tup):=fun A env out hid m B s ρ x E rm S hf=>by
 refine cI hf ?_;clear hf;rintro y hy rfl;refine wpAny_Tuple (aD (hs A env out hid m B s ρ y E pos rm S hy) (fun vs s₁ aj=>⟨?_,aj.1.trans (Kp.push s₁ _ _),?_⟩) fun ø ø q=>q)
 ·rw[aj.2.length,hlen _ _ hy,jQ];omega
 ·exact⟨_,vs,rfl,sW ((S.after aj.1).Ep lo),⟨0,bJ _ rfl⟩,bd.kp (P:=P) aj.2 (Kp.push s₁ _ s₁.toks)⟩
theorem cQ{es:List Expr}{pos:Pos}{f}(hs:kl P n K lo es f)(hl:es.length<=100)(hlen:∀ρ x,f ρ=some x->x.length=es.length):eo P n K lo (.List es pos) (fun ρ=>(f ρ).map .list):=fun A env out hid m B s ρ x E rm S hf=>by
 refine cI hf ?_;clear hf;rintro y hy rfl;refine wpAny_List (aD (hs A env out hid m B s ρ y E pos rm S hy) (fun vs s₁ aj=>⟨?_,aj.1.trans (Kp.push s₁ _ _),?_⟩) fun ø ø q=>q)
 ·rw[aj.2.length,hlen _ _ hy,jQ];omega
 ·exact⟨_,vs,rfl,sW ((S.after aj.1).Ep lo),⟨0,bJ _ rfl⟩,bd.kp (P:=P) aj.2 (Kp.push s₁ _ s₁.toks)⟩
theorem ah{f g k}(hg:∀ρ x,g ρ=some x->x.length=k):∀ρ x,cW f g ρ=some x->x.length=k+1:=fun ρ x hf=>by
 refine ak hf fun y hy gu=>?_
 clear hf;rename _=>hf
 refine ak hf fun ys Ho gu=>?_
 clear hf;rename _=>hf
 cases hf;simp[hg _ _ Ho]
noncomputable def aZ(P:Pk)(n:Nat)(fv:Value)(F:List V->Option V):Prop:=
 ∀(A:Around) (s:Shared) (hid:List Addr) (xs:List V) (x:V) (vs:List Value) (E:Value->Shared->Prop),cJ n A->P.G s.heap->cD s.heap hid->bd P s.heap hid xs vs->F xs=some x->
  wpAny (model P.prog P.w) A (call fv vs) (fun v s'=>Kp s s'/\Dn P s'.heap hid x v) E s
theorem bH{env:Env}{out hid:List Addr}{m}{B s:Shared}{ρ}(S:aU P K env out hid m B s ρ){x:Str}{pos:Pos}{v:Value}(hx:K.aV.contains x=true)(hv:P.glob x=some v)
  (hd:(x==("__debug__":Str))=false) {A:Around} {E:Value->Shared->Prop} {M:Model} {Q:Value->Shared->Prop} (h:Q v s):wpAny M A (eval (.Name x pos) env) Q E s:=by
 obtain⟨mg,mb,h1,h2,h3⟩:=P.aV S.G;refine Name_function_global S.fn (S.oV x (List.contains_iff_mem.mp hx)) ?_ hd;rcases h3 x v hv with q|⟨q,q'⟩
 ·exact loadGlobal_global (S.gl▸h1) q h
 ·exact loadGlobal_builtin (S.gl▸h1) q (S.bl▸h2) q' h
noncomputable def jm(F:List V->Option V)(f:ao->Option (List V)):ao->Option V:=fun ρ=>(f ρ).bind F
theorem ct{es:List Expr}{pos:Pos}{env:Env}(h:∀env,starEach es env=es.map fun e=>(false,eval e env)):(backTo pos (starEach es env)).any (·.1)=false:=by
 rw[h];unfold backTo;simp
theorem aJ{id:Str}{p pos:Pos}{es:List Expr}{b:String}{F f}(hx:K.aV.contains id=true)(hv:P.glob id=some (.builtin b))(hd:(id==("__debug__":Str))=false)
  (hc:aZ P n (.builtin b) F) (hs:kl P n K lo es f) (iX:∀env,starEach es env=es.map fun e=>(false,eval e env)) (cZ:es≠[]):eo P n K lo (.Call (.Name id p) es [] pos) (jm F f):=
 fun A env out hid m B s ρ x E rm S hf=>by
 refine ak hf fun y hy gu=>?_
 clear hf;rename _=>hf
 refine kO (bH S hx hv hd ?_);refine tt (ct iX) ?_;obtain⟨t9,es',rfl⟩:=xE cZ;have key:=hs A env out hid m B s ρ y E pos rm S hy;have hb:backTo pos (starEach (t9::es') env)=(false,eval t9 env)::(backTo pos (starEach (t9::es') env)).tail:=by rw[iX];rfl
 rw[hb]at key ⊢;refine evalArgs_plain (aD key (fun vs s₁ aj=>?_) fun ø ø q=>q);exact aD (hc A s₁ (av lo out hid) y x vs E rm (S.after aj.1).G ((S.after aj.1).Ep lo) aj.2 hf) (fun v s₂ aM=>⟨aj.1.trans aM.1,aM.2⟩) fun ø ø q=>q
theorem bM{id:Str}{p pos:Pos}{es:List Expr}{a:Addr}{F f}(hx:K.aV.contains id=true)(hv:P.glob id=some (.ref a))(hd:(id==("__debug__":Str))=false)
  (Cg:∀h,P.G h->∃o fd,h.get? a=some o/\o.data= .func fd)
  (hc:aZ P n (.ref a) F) (hs:kl P n K lo es f) (iX:∀env,starEach es env=es.map fun e=>(false,eval e env)) (cZ:es≠[]):eo P n K lo (.Call (.Name id p) es [] pos) (jm F f):=
 fun A env out hid m B s ρ x E rm S hf=>by
 refine ak hf fun y hy gu=>?_
 clear hf;rename _=>hf
 obtain⟨o,fd,ho,OF⟩:=Cg _ S.G;refine kO (bH S hx hv hd ?_);refine callWith_function (o:=o) (fd:=fd) ?_;obtain⟨t9,es',rfl⟩:=xE cZ;have key:=hs A env out hid m B s ρ y E pos rm S hy;have hb:backTo pos (starEach (t9::es') env)=(false,eval t9 env)::(backTo pos (starEach (t9::es') env)).tail:=by rw[iX];rfl
 rw[hb]at key ⊢;refine evalArgs_plain (aD key (fun vs s₁ aj=>⟨⟨aj.1.keep _ _ ho,OF⟩,?_⟩) fun ø ø q=>q);exact aD (hc A s₁ (av lo out hid) y x vs E rm (S.after aj.1).G ((S.after aj.1).Ep lo) aj.2 hf) (fun v s₂ aM=>⟨aj.1.trans aM.1,aM.2⟩) fun ø ø q=>q
end
section
variable{P:Pk}{n:Nat}{K:Cx}{lo:Bool}
noncomputable def most:Nat:=1000000
theorem cR:most<=sizeLine:=by rw[jQ];decide
noncomputable def V.int?:V->Option Int
 | .int a=>some a
 |_=>Option.none
noncomputable def V.jO:V->Option (List Nat)
 | .str a=>some a
 |_=>Option.none
noncomputable def V.gm:V->Option (List V)
 | .list a=>some a
 |_=>Option.none
theorem V.nJ{x:V}{a}(h:x.int?=some a):x= .int a:=by
 cases x<;>first|exact congrArg _ (Option.some.inj h)|cases h
theorem V.kW{x:V}{a}(h:x.jO=some a):x= .str a:=by
 cases x<;>first|exact congrArg _ (Option.some.inj h)|cases h
theorem V.eO{x:V}{a}(h:x.gm=some a):x= .list a:=by
 cases x<;>first|exact congrArg _ (Option.some.inj h)|cases h
noncomputable def V.Sc:V->Option (List V)
 | .tup a=>some a
 |_=>Option.none
theorem V.Hp{x:V}{a}(h:x.Sc=some a):x= .tup a:=by
 cases x<;>first|exact congrArg _ (Option.some.inj h)|cases h
noncomputable def V.OG:V->Option (List V)
 | .obj a=>some a
 |_=>Option.none
theorem V.zY{x:V}{a}(h:x.OG=some a):x= .obj a:=by
 cases x<;>first|exact congrArg _ (Option.some.inj h)|cases h
noncomputable def qK{α β γ:Type}(p:V->Option α)(q:V->Option β)(F:α->β->Option γ)(x y:V):Option γ:=(p x).bind fun a=>(q y).bind (F a)
theorem bO{α β γ:Type}{p:V->Option α}{q:V->Option β}{F:α->β->Option γ}{x y:V}{z:γ}{G:Prop}(h:qK p q F x y=some z)(k:∀a b,p x=some a->q y=some b->F a b=some z->G):G:=by
 refine ak h fun a ha gu=>?_
 clear h;rename _=>h
 refine ak h fun b hb gu=>?_
 clear h;rename _=>h
 exact k a b ha hb h
theorem l0{γ:Type}{o o':Option γ}{z:γ}{G:Prop}(h:o.or o'=some z)(k:o=some z->G)(k':o'=some z->G):G:=by
 cases o with
 |none=>exact k' h
 |some a=>exact k h
@[elab_as_elim] theorem ite_inv {γ:Type} {c:Prop} [Decidable c] {a z:γ} {G:γ->Prop} (h:(if c then some a else none)=some z) (k:c->G a):G z:=by
 by_cases q:c
 ·rw[aw q]at h;cases h;exact k q
 ·rw[au q]at h;cases h
theorem eR{γ:Type}{c:Prop}[Decidable c]{a z:γ}{G:Prop}(h:(if c then some a else none)=some z)(k:c->a=z->G):G:=by
 by_cases q:c
 ·rw[aw q]at h;exact k q (Option.some.inj h)
 ·rw[au q]at h;cases h
@[elab_as_elim] theorem some_inv {γ:Type} {a z:γ} {G:γ->Prop} (h:some a=some z) (k:G a):G z:=Option.some.inj h▸k
noncomputable def ua(x y:V):Option V:=(qK V.int? V.int? (fun a b=>some (.int (a+b))) x y).or
 ((qK V.jO V.jO (fun a b=>if a.length+b.length<=most then some (.str (a++b))else none) x y).or
 (qK V.gm V.gm (fun a b=>if a.length+b.length<=most then some (.list (a++b))else none) x y))
noncomputable def Sd:V->V->Option V:=qK V.int? V.int? fun a b=>some (.int (a-b))
noncomputable def zZ(x y:V):Option V:=(qK V.int? V.int? (fun a b=>if-(2^64)<b/\b<2^64 then some (.int (a*b))else none) x y).or
 ((qK V.jO V.int? (fun a b=>if 0<=b/\a.length=1/\b<=1000000 then some (.str (List.replicate b.toNat a).flatten)else none) x y).or
 (qK V.gm V.int? (fun a b=>if 0<=b/\a.length=1/\b<=1000000 then some (.list (List.replicate b.toNat a).flatten)else none) x y))
noncomputable def CP:V->V->Option V:=qK V.int? V.int? fun a b=>if 0<b/\b<1073741824 then some (.int (a.fmod b))else none
noncomputable def Lv:V->V->Option V:=qK V.int? V.int? fun a b=>if 0<b/\b<1073741824 then some (.int (a.fdiv b))else none
noncomputable def OH:V->V->Option V:=qK V.int? V.int? fun a b=>if a=10/\0<=b/\b<=20 then some (.int (10^b.toNat))else none
theorem Lw(a:List Nat)(b:Int)(h:0<=b/\a.length=1/\b<=1000000):zZ (.str a) (.int b)=some (.str (List.replicate b.toNat a).flatten):=by
 show Option.or (if _ then _ else _) _=_;rw[aw h];rfl
theorem Lx(a:List V)(b:Int)(h:0<=b/\a.length=1/\b<=1000000):zZ (.list a) (.int b)=some (.list (List.replicate b.toNat a).flatten):=by
 show(if _ then _ else _)=_;rw[aw h]
theorem Dn.int_inv{h:Heap}{hid i v}(e:Dn P h hid (.int i) v):∃t,v= .int i t:=e
theorem Dn.str_inv{h:Heap}{hid i v}(e:Dn P h hid (.str i) v):∃t,v= .str (pyStr i) t:=e
theorem Dn.bool_inv{h:Heap}{hid i v}(e:Dn P h hid (.bool i) v):v= .bool i:=e
theorem Dn.none_inv{h:Heap}{hid v}(e:Dn P h hid .none v):v= .none:=e
theorem Dn.cK{h:Heap}{hid l v}(e:Dn P h hid (.list l) v):∃a vs,v= .ref a/\a∉hid/\h.PlainList a vs.toArray/\bd P h hid l vs:=e
theorem Dn.om{h:Heap}{hid l v}(e:Dn P h hid (.tup l) v):∃a vs,v= .ref a/\a∉hid/\x6 h a vs.toArray/\bd P h hid l vs:=e
theorem Dn.kX{h:Heap}{hid ks l v}(e:Dn P h hid (.dict ks l) v):∃a vs,v= .ref a/\a∉hid/\vs.length=ks.length/\(a==sysModules)=false/\h.DictOf (intKind P.prog P.w) a (ks.zip vs)/\bd P h hid l vs:=e
theorem Dn.ofInt{h:Heap}{hid}(i:Int)(t:Tok):Dn P h hid (.int i) (.int i t):=⟨t,rfl⟩
theorem Dn.ofStr{h:Heap}{hid}(i:List Nat)(t:Tok):Dn P h hid (.str i) (.str (pyStr i) t):=⟨t,rfl⟩
theorem Dn.ofBool{h:Heap}{hid}(b:Bool):Dn P h hid (.bool b) (.bool b):=rfl
theorem Dn.ub{h:Heap}{hid}:Dn P h hid .none .none:=rfl
theorem Dn.ofList{h:Heap}{hid l a vs}(h1:a∉hid)(h2:h.PlainList a vs.toArray)(h3:bd P h hid l vs):Dn P h hid (.list l) (.ref a):=⟨a,vs,rfl,h1,h2,h3⟩
theorem Dn.Hq{h:Heap}{hid l a vs}(h1:a∉hid)(h2:x6 h a vs.toArray)(h3:bd P h hid l vs):Dn P h hid (.tup l) (.ref a):=⟨a,vs,rfl,h1,h2,h3⟩
@[elab_as_elim] theorem Dn.int_k {h:Heap} {hid x a v} {C:Value->Prop} (e:Dn P h hid x v) (q:x.int?=some a) (k:∀t,C (.int a t)):C v:=by
 cases V.nJ q;obtain⟨t,rfl⟩:=e.int_inv;exact k t
@[elab_as_elim] theorem Dn.str_k {h:Heap} {hid x a v} {C:Value->Prop} (e:Dn P h hid x v) (q:x.jO=some a) (k:∀t,C (.str (pyStr a) t)):C v:=by
 cases V.kW q;obtain⟨t,rfl⟩:=e.str_inv;exact k t
@[elab_as_elim] theorem Dn.jn {h:Heap} {hid x l v} {C:Value->Prop} (e:Dn P h hid x v) (q:x.gm=some l) (k:∀a vs n,a∉hid->h.get? a=some {cls:=.type "list",data:=.seq vs.toArray n}->h.PlainList a vs.toArray->bd P h hid l vs->C (.ref a)):C v:=by
 cases V.eO q;obtain⟨a,vs,rfl,h1,⟨n,h2⟩,h3⟩:=e.cK;exact k a vs n h1 h2 ⟨n,h2⟩ h3
theorem Dn.newList{s:Shared}{hid l vs}(hh:cD s.heap hid)(h3:bd P s.heap hid l vs):
  Dn P (s.heap.push {cls:=.type "list",data:=.seq vs.toArray}) hid (.list l) (.ref s.heap.objs.size):=
 .ofList (sW hh) ⟨0,bJ _ rfl⟩ (bd.kp (P:=P) h3 (Kp.push s _ s.toks))
@[elab_as_elim] theorem bd.one_k {h:Heap} {hid x vs} {C:List Value->Prop} (e:bd P h hid [x] vs) (k:∀v,Dn P h hid x v->C [v]):C vs:=by
 obtain⟨v,r,rfl,h1,rfl⟩:=e;exact k v h1
@[elab_as_elim] theorem bd.two_k {h:Heap} {hid x y vs} {C:List Value->Prop} (e:bd P h hid [x,y] vs) (k:∀v w,Dn P h hid x v->Dn P h hid y w->C [v,w]):C vs:=by
 obtain⟨v,r,rfl,h1,w,r',rfl,h2,rfl⟩:=e;exact k v w h1 h2
@[elab_as_elim] theorem bd.three_k {h:Heap} {hid x y z vs} {C:List Value->Prop} (e:bd P h hid [x,y,z] vs) (k:∀v w u,Dn P h hid x v->Dn P h hid y w->Dn P h hid z u->C [v,w,u]):C vs:=by
 obtain⟨v,r,rfl,h1,w,r',rfl,h2,u,r'',rfl,h3,rfl⟩:=e;exact k v w u h1 h2 h3
theorem on(a b:List Nat):pyStr a++pyStr b=pyStr (a++b):=by
 show Str.append _ _=_;simp[Str.append,pyStr]
theorem ee(a:List Nat):(pyStr a).length=a.length:=by simp[Str.length,pyStr]
theorem cm:t8 P .Add ua:=fun A s hid x y z u v E rm hh hx hy hf=>l0 hf
 (fun hf=>bO hf fun a b ha hb hz=>some_inv hz <| hx.int_k ha fun t=>hy.int_k hb fun t'=>PyProof.Rows.add_int ⟨Kp.toks s _,.ofInt _ _⟩) fun hf=>l0 hf
 (fun hf=>bO hf fun a b ha hb hz=>ite_inv hz fun hc=>hx.str_k ha fun t=>hy.str_k hb fun t'=>
  PyProof.Rows.add_str (fun t' tk=>⟨Kp.toks s _,by rw[on];exact .ofStr _ _⟩) (by rw[ee,ee];exact az hc cR))
 (fun hf=>bO hf fun l l' ha hb hz=>ite_inv hz fun hc=>hx.jn ha fun a vs n₁ h1 h2 ø h3=>hy.jn hb fun a' we OI Hn OE ø Zz=>
  PySem.P.add_list (n:=n₁) (n2:=OI) h2 OE ⟨Kp.push s _ s.toks,by rw[Co];exact Dn.newList hh (h3.app Zz)⟩ (by rw[cb,cb,h3.length,Zz.length];exact az hc cR))
theorem Er:t8 P .Sub Sd:=fun A s hid x y z u v E rm hh hx hy hf=>bO hf fun a b ha hb hz=>some_inv hz <|
 hx.int_k ha fun t=>hy.int_k hb fun t'=>PyProof.Rows.sub_int ⟨Kp.toks s _,.ofInt _ _⟩
theorem jo:t8 P .Mod CP:=fun A s hid x y z u v E rm hh hx hy hf=>bO hf fun a b ha hb hz=>ite_inv hz fun hc=>
 hx.int_k ha fun t=>hy.int_k hb fun t'=>PyProof.Rows.mod_int (Int.ne_of_gt hc.1) ⟨Kp.toks s _,.ofInt _ _⟩
theorem nK:t8 P .FloorDiv Lv:=fun A s hid x y z u v E rm hh hx hy hf=>bO hf fun a b ha hb hz=>ite_inv hz fun hc=>
 hx.int_k ha fun t=>hy.int_k hb fun t'=>PyProof.Rows.floordiv_int (Int.ne_of_gt hc.1) ⟨Kp.toks s _,.ofInt _ _⟩ (.inl (PyProof.noPylong_small (by have:=hc.1;have:=hc.2;clear hx hy hz hf;omega)))
theorem NB:t8 P .Pow OH:=fun A s hid x y z u v E rm hh hx hy hf=>bO hf fun a b ha hb hz=>ite_inv hz fun hc=>
 hx.int_k ha fun t=>hy.int_k hb fun t'=>by
  obtain⟨rfl,h0,h1⟩:=hc;refine PyProof.Rows.pow_int h0 ?_ ⟨Kp.toks s _,.ofInt _ _⟩;have:(Builtin.Int.intBits 10:Int)=4:=by decide+kernel
  rw[this];clear hx hy hz hf;omega
theorem Hr(a:List Nat)(k:Nat):List.foldl (fun x1 x2=>x1++x2) #[] (List.replicate k a.toArray)=(List.replicate k a).flatten.toArray:=by
 have h:∀(k:Nat) (acc:List Nat),List.foldl (fun x1 x2=>x1++x2) acc.toArray (List.replicate k a.toArray)=(acc++(List.replicate k a).flatten).toArray:=by
  intro k
  induction k with
  |zero=>intro acc;simp
  |succ k ih=>intro acc;simp only[qO,dg,Co,ih,eQ,List.append_assoc]
 simpa using h k []
theorem bd.rep{h:Heap}{hid l vs}(e:bd P h hid l vs):∀k,bd P h hid (List.replicate k l).flatten (List.replicate k vs).flatten
 |0=>by simpa using bq.nil
 |k+1=>by simp only[qO,eQ];exact e.app (bd.rep e k)
set_option maxHeartbeats 1000000 in
set_option tactic.hygienic true in
theorem z8:t8 P .Mult zZ:=fun A s hid x y z u v E rm hh hx hy hf=>by
 refine l0 hf (fun hf=>bO hf fun a b ha hb hz=>ite_inv hz fun hc=>hx.int_k ha fun t=>hy.int_k hb fun t'=>PyProof.Rows.mul_int ⟨Kp.toks s _,.ofInt _ _⟩ (.of_right (intBits_le_64 hc.1 hc.2)))
  fun hf=>l0 hf (fun hf=>bO hf fun a b ha hb hz=>ite_inv hz fun hc=>hx.str_k ha fun t=>hy.int_k hb fun t'=>?_)
  (fun hf=>bO hf fun a b ha hb hz=>ite_inv hz fun hc=>hx.jn ha fun l vs k g1 g2 ø g3=>hy.int_k hb fun t'=>?_)
 ·clear hx hy hz hf ha hb
  obtain⟨h0,h1,h2⟩:=hc;refine PySem.P.mul_str ?_ ?_ ?_ ?_
  ·simp only[Bool.or_eq_false_iff,tu];omega
  ·intro _ _;rw[ee,h1]
   have:(1:Int)<=(2^63-1)/b:=by
    refine(Int.le_ediv_iff_mul_le (by omega)).mpr ?_;omega
   simp only[Int.natCast_one];omega
  ·intro _ _
   rw[ee,h1];unfold Builtin.Str.tooLong;rw[tu,jQ];omega
  ·split
   ·have:b=0:=by omega
    subst this;exact⟨eK _,Kp.toks s _,.ofStr [] _⟩
   ·split
    ·rename_i hq
     simp only[ee,h1,lG,jR]at hq;have:b=1:=by rcases hq with q|q;exact q;omega
     subst this;refine⟨Kp.toks s _,?_⟩;simpa using Dn.ofStr (P:=P) a t
    ·have e:=Hr a b.toNat
     have e1:(List.replicate b.toNat a).flatten.length=b.toNat:=by simp[h1]
     refine⟨?_,Kp.toks s _,?_⟩
     ·simp only[pyStr]at e ⊢
      rw[e];simp only[Str.length,cb,e1];rw[jQ];omega
     ·simp only[pyStr]
      rw[e];exact .ofStr _ _
 ·clear hx hy hz hf ha hb
  obtain⟨h0,h1,h2⟩:=hc;have hlen:vs.length=1:=by rw[g3.length,h1]
  refine wpAny_binaryOp_repeat_ref (T:="list") (U:="int") (by decide) ⟨_,g2,rfl⟩ (fun s'=>typeIs_int s' b t') noFill_list_mul F.fills_int_mul F.slot_int_rmul repeat_list F.slot_int_index.lookup
   (qP F.slot_int_rmul (typeIs_int s b t') F.entry_int_rmul (F.args_int_rmul_2 _ _) (lm_int_rmul_list_any b t' l vs.toArray k none #[]) ⟨g2,rfl,⟨_,g2,rfl⟩,?_⟩)
  refine qP F.slot_list_mul ⟨_,g2,rfl⟩ F.entry_list_mul (F.args_list_mul_2 _ _)
   (lm_list_mul_any l vs.toArray k none #[] b t' (by simp[Builtin.List.listFitsIndex];omega) (by rw[cb,hlen];omega) (by rw[cb,hlen];unfold Builtin.List.listTooLong;rw[mS,jQ];omega)) ⟨g2,Kp.push s _ _,?_⟩
  have e:=listMul_foldl_if vs.toArray b.toNat;rw[e];exact Dn.newList hh (bd.rep g3 b.toNat)
end
section
variable{P:Pk}{n:Nat}{K:Cx}{lo:Bool}
mutual
noncomputable def V.py:V->Option PyData
 | .none=>some .none
 | .bool b=>some (.bool b)
 | .int i=>some (.int i)
 | .tup l=>(V.Fz l).map .tuple
 | .list l=>(V.Fz l).map .list
 |_=>Option.none
noncomputable def V.Fz:List V->Option (List PyData)
 |[]=>some []
 |x::xs=>(V.py x).bind fun a=>(V.Fz xs).bind fun r=>some (a::r)
end
theorem V.wT:V.py .none=some .none:=rfl
theorem V.wU(b:Bool):V.py (.bool b)=some (.bool b):=rfl
theorem V.wV(i:Int):V.py (.int i)=some (.int i):=rfl
theorem V.wW(l:List V):V.py (.tup l)=(V.Fz l).map .tuple:=rfl
theorem V.wX(l:List V):V.py (.list l)=(V.Fz l).map .list:=rfl
theorem V.x8:V.Fz []=some []:=rfl
theorem V.CQ(x:V)(xs:List V):V.Fz (x::xs)=(V.py x).bind fun a=>(V.Fz xs).bind fun r=>some (a::r):=rfl
mutual
theorem nL{h:Heap}{hid:List Addr}:∀{x:V} {v:Value} {d:PyData},Dn P h hid x v->x.py=some d->(∃as,Reads h v d as)/\d.canLay0=true
 | .none,v,d,e,q=>by obtain rfl:=Option.some.inj q;rw[e.none_inv];exact⟨⟨_,.none⟩,rfl⟩
 | .bool b,v,d,e,q=>by obtain rfl:=Option.some.inj q;rw[e.bool_inv];exact⟨⟨_,.bool b⟩,rfl⟩
 | .int i,v,d,e,q=>by obtain rfl:=Option.some.inj q;obtain⟨t,rfl⟩:=e.int_inv;exact⟨⟨_,.int i t⟩,rfl⟩
 | .str s,v,d,e,q=>nomatch(q:(Option.none:Option PyData)=some d)
 | .dict ks l,v,d,e,q=>nomatch(q:(Option.none:Option PyData)=some d)
 | .obj l,v,d,e,q=>nomatch(q:(Option.none:Option PyData)=some d)
 | .tup l,v,d,e,q=>by
   obtain⟨ds,q1,rfl⟩:=nB.mp q;obtain⟨a,vs,rfl,_,⟨k,h1⟩,h2⟩:=e.om;obtain⟨⟨as,h3⟩,h4⟩:=rl h2 q1;exact⟨⟨_,.tuple h1 rfl rfl h3⟩,h4⟩
 | .list l,v,d,e,q=>by
   obtain⟨ds,q1,rfl⟩:=nB.mp q;obtain⟨a,vs,rfl,_,⟨k,h1⟩,h2⟩:=e.cK;obtain⟨⟨as,h3⟩,h4⟩:=rl h2 q1;exact⟨⟨_,.list h1 rfl rfl h3⟩,h4⟩
theorem rl{h:Heap}{hid:List Addr}:∀{x:List V} {v:List Value} {d:List PyData},bd P h hid x v->V.Fz x=some d->(∃as,ReadsAll h v d as)/\PyData.canLayAll0 d=true
 |[],v,d,e,q=>by obtain rfl:=Option.some.inj q;obtain rfl:v=[]:=e;exact⟨⟨_,.nil⟩,rfl⟩
 |x::xs,v,d,e,q=>by
  obtain⟨a,q1,q⟩:=kP.mp q;obtain⟨r,q2,q3⟩:=kP.mp q;obtain rfl:=Option.some.inj q3;obtain⟨u,vs,rfl,e1,e2⟩:=e;obtain⟨⟨as,h1⟩,h2⟩:=nL e1 q1;obtain⟨⟨bs,h3⟩,h4⟩:=rl e2 q2;exact⟨⟨_,.cons h1 h3⟩,by simp[PyData.canLayAll0,h2,h4]⟩
end
noncomputable def CR(x y:V):Option Bool:=x.py.bind fun a=>y.py.bind fun b=>if a.depth<=50 then some (PyData.eqv a b)else none
noncomputable def np(x y:V):Option Bool:=(qK V.jO V.jO (fun a b=>some (a==b)) x y).or (CR x y)
noncomputable def Hh(x y:V):Option Bool:=(np x y).map (!·)
noncomputable def ltV:V->V->Option Bool:=qK V.int? V.int? fun a b=>some (decide (a<b))
noncomputable def Vp(x y:V):Option Bool:=(qK V.int? V.int? (fun a b=>some (decide (a<=b))) x y).or (qK V.jO V.jO (fun a b=>some (!decide (b<a))) x y)
noncomputable def WM:V->V->Option Bool:=qK V.int? V.int? fun a b=>some (decide (b<a))
noncomputable def ZA:V->V->Option Bool:=qK V.int? V.int? fun a b=>some (decide (b<=a))
noncomputable def V.isNone:V->Bool
 | .none=>true
 |_=>false
noncomputable def V.bool?:V->Option Bool
 | .bool a=>some a
 |_=>Option.none
noncomputable def Se(x y:V):Option Bool:=if y.isNone=true then some x.isNone else qK V.bool? V.bool? (fun a b=>some (a==b)) x y
noncomputable def Hs(x y:V):Option Bool:=(Se x y).map (!·)
noncomputable def OJ(x:V)(l:List V):Option Bool:=x.py.bind fun a=>(V.Fz l).bind fun b=>if PyData.depthAll b<=50 then some (b.any fun y=>PyData.eqv y a)else none
noncomputable def OK(l:List Nat):Option Nat:=match l with
 |[c]=>some c
 |_=>none
noncomputable def Rx(x y:V):Option Bool:=(qK V.jO V.jO (fun a b=>(OK a).map fun c=>decide (c∈b)) x y).or (y.gm.bind (OJ x))
noncomputable def OL(x y:V):Option Bool:=(Rx x y).map (!·)
theorem V.CS{x:V}(h:x.isNone=true):x= .none:=by
 cases x<;>first|rfl|cases h
theorem V.FC{x:V}{a}(h:x.bool?=some a):x= .bool a:=by
 cases x<;>first|exact congrArg _ (Option.some.inj h)|cases h
theorem z9:∀{l:List Nat} {c},OK l=some c->l=[c]
 |[c],_,h=>congrArg (fun x=>[x]) (Option.some.inj h)
 |[],_,h|_::_::_,_,h=>nomatch h
@[elab_as_elim] theorem Dn.bool_k {h:Heap} {hid x a v} {C:Value->Prop} (e:Dn P h hid x v) (q:x.bool?=some a) (k:C (.bool a)):C v:=by
 cases V.FC q;exact e.bool_inv▸k
@[elab_as_elim] theorem map_inv {γ δ:Type} {f:γ->δ} {o:Option γ} {z:δ} {G:δ->Prop} (h:o.map f=some z) (k:∀b,o=some b->G (f b)):G z:=by
 cases o with
 |none=>cases h
 |some b=>exact Option.some.inj h▸k b rfl
theorem x9(x y:V)(h:x.jO=none):np x y=CR x y:=by
 unfold np qK;rw[h];rfl
theorem rn(a b:List Nat):(pyStr a==pyStr b)=(a==b):=by
 rw[lH];simp[pyStr]
theorem Ht{h:Heap}{hid x y u v b}{G:Prop}(hx:Dn P h hid x u)(hy:Dn P h hid y v)(hf:CR x y=some b)
  (k:∀a c as bs,Reads h u a as->Reads h v c bs->a.canLay0=true->c.canLay0=true->a.depth<=50->PyData.eqv a c=b->G):G:=by
 refine ak hf fun a ha gu=>?_
 clear hf;rename _=>hf
 refine ak hf fun c hc gu=>?_
 clear hf;rename _=>hf
 refine ite_inv (G:=fun b=>(∀a c as bs,Reads h u a as->Reads h v c bs->a.canLay0=true->c.canLay0=true->a.depth<=50->PyData.eqv a c=b->G)->G) hf (fun hd k=>?_) k;obtain⟨⟨as,r1⟩,c1⟩:=nL hx ha;obtain⟨⟨bs,r2⟩,c2⟩:=nL hy hc;exact k a c as bs r1 r2 c1 c2 hd rfl
theorem cJ.py{A:Around}(rm:cJ 0 A){d:Nat}(h:d<=50)(e:Nat):A.units+1+min d e<cLine:=by
 have:=rm.units;have:=Nat.min_le_left d e;rw[cLine_is];clear rm;omega
theorem fk:jl P .Eq np:=fun A s hid x y b u v E rm G hh hx hy hf=>l0 hf
 (fun hf=>bO hf fun a b ha hb hz=>some_inv hz <| hx.str_k ha fun t=>hy.str_k hb fun t'=>PyProof.Rows.eq_str ⟨Kp.refl s,by rw[rn]⟩)
 fun hf=>Ht hx hy hf fun a c as bs r1 r2 c1 c2 hd e=>SeqAt.compareEq_reads r1 r2 c1 c2 (eV (jS (jT _) _) (rm.py hd _)) ⟨Kp.refl s,congrArg Value.bool e⟩
theorem wk:jl P .NotEq Hh:=fun A s hid x y b u v E rm G hh hx hy hf=>map_inv hf fun b hf=>l0 hf
 (fun hf=>bO hf fun a b ha hb hz=>some_inv hz <| hx.str_k ha fun t=>hy.str_k hb fun t'=>PyProof.Rows.ne_str ⟨Kp.refl s,by simp only[bne,rn]⟩)
 fun hf=>Ht hx hy hf fun a c as bs r1 r2 c1 c2 hd e=>SeqAt.compareNe_reads r1 r2 c1 c2 (eV (jS (jT _) _) (rm.py hd _)) ⟨Kp.refl s,by rw[e]⟩
theorem OM:jl P .Lt ltV:=fun A s hid x y b u v E rm G hh hx hy hf=>bO hf fun a b ha hb hz=>some_inv hz <| hx.int_k ha fun t=>hy.int_k hb fun t'=>PyProof.Rows.lt_int ⟨Kp.refl s,rfl⟩
theorem Sf:jl P .Gt WM:=fun A s hid x y b u v E rm G hh hx hy hf=>bO hf fun a b ha hb hz=>some_inv hz <| hx.int_k ha fun t=>hy.int_k hb fun t'=>PyProof.Rows.gt_int ⟨Kp.refl s,rfl⟩
theorem Hu:jl P .GtE ZA:=fun A s hid x y b u v E rm G hh hx hy hf=>bO hf fun a b ha hb hz=>some_inv hz <| hx.int_k ha fun t=>hy.int_k hb fun t'=>PyProof.Rows.ge_int ⟨Kp.refl s,rfl⟩
theorem Hv:jl P .LtE Vp:=fun A s hid x y b u v E rm G hh hx hy hf=>l0 hf
 (fun hf=>bO hf fun a b ha hb hz=>some_inv hz <| hx.int_k ha fun t=>hy.int_k hb fun t'=>PyProof.Rows.le_int ⟨Kp.refl s,rfl⟩)
 fun hf=>bO hf fun a b ha hb hz=>some_inv hz <| hx.str_k ha fun t=>hy.str_k hb fun t'=>PySem.P.le_str ⟨Kp.refl s,by simp[pyStr]⟩
theorem Dn.isNone{h:Heap}{hid x v}(e:Dn P h hid x v):(v==Value.none)=x.isNone:=by
 cases x with
 |none=>rw[e.none_inv];rfl
 |bool b=>rw[e.bool_inv];rfl
 |int i=>obtain⟨t,rfl⟩:=e.int_inv;rfl
 |str i=>obtain⟨t,rfl⟩:=e.str_inv;rfl
 |tup l=>obtain⟨a,vs,rfl,_⟩:=e.om;rfl
 |list l=>obtain⟨a,vs,rfl,_⟩:=e.cK;rfl
 |dict ks l=>obtain⟨a,vs,rfl,_⟩:=e.kX;rfl
 |obj l=>obtain⟨a,vs,rfl,_⟩:=e;rfl
theorem NC{h:Heap}{hid x y u v b}{G:Value->Value->Bool->Prop}(hx:Dn P h hid x u)(hy:Dn P h hid y v)(hf:Se x y=some b)
  (k1:∀u,(u==Value.none)=b->G u .none b) (k2:∀a c,G (.bool a) (.bool c) (a==c)):G u v b:=by
 by_cases q:y.isNone=true
 ·cases V.CS q
  rw[Se,aw q]at hf;rw[hy.none_inv];exact k1 u (hx.isNone.trans (Option.some.inj hf))
 ·rw[Se,au q]at hf
  exact bO hf fun a c ha hc hz=>some_inv hz <| hx.bool_k ha <| hy.bool_k hc (k2 a c)
theorem WN:jl P .Is Se:=fun A s hid x y b u v E rm G hh hx hy hf=>NC (G:=fun u v b=>wpAny _ _ (compareOp .Is u v) (fun r s'=>Kp s s'/\r= .bool b) _ _) hx hy hf
 (fun u e=>is_none ⟨Kp.refl s,congrArg Value.bool e⟩) fun a c=>wpAny_is_plain rfl ⟨Kp.refl s,by cases a<;>cases c<;>rfl⟩
theorem ya:jl P .IsNot Hs:=fun A s hid x y b u v E rm G hh hx hy hf=>map_inv hf fun b hf=>NC (G:=fun u v b=>wpAny _ _ (compareOp .IsNot u v) (fun r s'=>Kp s s'/\r= .bool !b) _ _) hx hy hf
 (fun u e=>isNot_none ⟨Kp.refl s,by rw[<-e]⟩) fun a c=>wpAny_isNot_plain rfl ⟨Kp.refl s,by cases a<;>cases c<;>rfl⟩
theorem Es{A:Around}{s:Shared}{hid:List Addr}{x y:V}{b:Bool}{u v:Value}{E:Value->Shared->Prop}(rm:cJ 0 A)(hx:Dn P s.heap hid x u)(hy:Dn P s.heap hid y v)(hf:Rx x y=some b)(neg:Bool):
  wpAny (model P.prog P.w) A (compareOp (if neg then .NotIn else .In) u v) (fun r s'=>Kp s s'/\r= .bool (if neg then !b else b)) E s:=l0 hf
 (fun hf=>bO hf fun c l hc hl hz=>map_inv hz fun c' e=>by
  cases z9 e;refine hx.str_k hc fun t=>hy.str_k hl fun t'=>?_
  have e:=StrLaws.found_one (pyStr l) c';clear hx hy hz hf hc hl;cases neg
  ·refine PySem.P.in_str ⟨Kp.refl s,?_⟩
   simp only[pyStr]at e ⊢;rw[e];simp
  ·refine PySem.P.notIn_str ⟨Kp.refl s,?_⟩
   simp only[pyStr]at e ⊢;rw[e];simp)
 fun hf=>by
  refine ak hf fun l hl gu=>?_
  clear hf;rename _=>hf
  refine ak hf fun a ha gu=>?_
  clear hf;rename _=>hf
  refine ak hf fun ds hd gu=>?_
  clear hf;rename _=>hf
  refine ite_inv hf fun Ly=>?_
  cases V.eO hl;obtain⟨⟨as,r1⟩,c1⟩:=nL hx ha;obtain⟨⟨bs,r2⟩,c2⟩:=nL (d:=.list ds) hy (show(V.Fz l).map _=_ by rw[hd];rfl);cases neg
  ·exact SeqAt.in_list_reads r2 r1 c2 c1 (rm.py Ly _) ⟨Kp.refl s,rfl⟩
  ·exact SeqAt.notIn_list_reads r2 r1 c2 c1 (rm.py Ly _) ⟨Kp.refl s,rfl⟩
theorem Lz:jl P .NotIn OL:=fun A s hid x y b u v E rm G hh hx hy hf=>map_inv hf fun b hf=>Es rm hx hy hf true
end
section
variable{P:Pk}{n:Nat}{K:Cx}{lo:Bool}
structure Ks(out hid ar:List Addr)(s s':Shared):Prop where
 keep:∀b o,(b∉hid\/b∈out)->s.heap.get? b=some o->s'.heap.get? b=some o
 new:∀a∈ar,a∈hid\/s.heap.get? a=none
 sub:∀a∈hid,a∈ar
 gens:GX s.gens s'.gens
 os:s'.os=s.os
theorem Ks.iO{out hid s s'}(k:Kp s s'):Ks out hid hid s s':=⟨fun b o ø h=>k.keep b o h,fun a h=>.inl h,fun a h=>h,k.gens,k.os⟩
theorem Ks.refl(out hid s):Ks out hid hid s s:=.iO (.refl s)
theorem Ks.trans{out hid ar ND s s' hU}(x:Ks out hid ar s s')(y:Ks out ar ND s' hU):Ks out hid ND s hU where
 keep:=fun b o hb h=>y.keep b o (hb.imp (fun q hm=>(x.new b hm).elim q fun z=>by rw[h]at z;cases z) id) (x.keep b o hb h)
 new:=fun a h=>(y.new a h).elim (x.new a) fun z=>by
  by_cases q:a∈hid
  ·exact .inl q
  ·right
   cases e:s.heap.get? a with
   |none=>rfl
   |some o=>rw[x.keep a o (.inl q) e]at z;cases z
 sub:=fun a h=>y.sub a (x.sub a h)
 gens:=x.gens.trans y.gens
 os:=y.os.trans x.os
theorem Dn.ks{out hid ar}{s s':Shared}{x:V}{v:Value}(e:Dn P s.heap hid x v)(k:Ks out hid ar s s'):Dn P s'.heap ar x v:=e.grow (fun a o h q=>k.keep a o (.inl h) q) k.new
theorem bd.ks{out hid ar}{s s':Shared}{x:List V}{v:List Value}(e:bd P s.heap hid x v)(k:Ks out hid ar s s'):bd P s'.heap ar x v:=e.grow (fun a o h q=>k.keep a o (.inl h) q) k.new
noncomputable def upd(ρ:ao)(i:Nat)(y:V):ao:=fun j=>cond (j==i) (some y) (ρ j)
theorem kY(ρ:ao)(i:Nat)(y:V):upd ρ i y i=some y:=by unfold upd;rw[qQ];rfl
theorem iE(ρ:ao){i j:Nat}(y:V)(h:j≠i):upd ρ i y j=ρ j:=by unfold upd;rw[kQ.mpr h];rfl
noncomputable def mZ(h:Heap)(a:Addr):Prop:=∃o,h.get? a=some o/\((∃xs n,o.data= .seq xs n)\/∃es n,o.data= .dict es n)
theorem mZ.jY{h:Heap}{a:Addr}{v}(x:mZ h a)(y:h.IsCell a v):False:=by
 obtain⟨o,ho,hd⟩:=x;obtain⟨o',NA,lF⟩:=y;rw[ho]at NA;cases NA;rcases hd with⟨xs,n,hd⟩|⟨xs,n,hd⟩<;>rw[hd]at lF<;>cases lF
theorem PlainList.boxed{h:Heap}{a vs}(x:h.PlainList a vs):mZ h a:=let⟨n,e⟩:=x;⟨_,e,.inl ⟨_,_,rfl⟩⟩
theorem DictOf.boxed{h:Heap}{a oW}(x:h.DictOf (intKind P.prog P.w) a oW):mZ h a:=by
 obtain⟨o,es,ep,ho,_,hd,_⟩:=x;exact⟨o,ho,.inr ⟨es,ep,hd⟩⟩
theorem Ns.jY{h:Heap}{a:Addr}{m v}(x:h.Ns a m)(y:h.IsCell a v):False:=by
 obtain⟨o,es,ep,ho,hd,_⟩:=x;obtain⟨o',NA,lF⟩:=y;rw[ho]at NA;cases NA;rw[hd]at lF;cases lF
theorem eP.addr{L h out hid}{x:V}{v:Value}(e:eP P L h out hid x v):∃a,v= .ref a/\a∈hid/\a∉out/\a≠L/\mZ h a:=by
 cases x with
 |list l=>
  obtain⟨a,vs,rfl,h1,h2,h3,h4,h5⟩:=e;exact⟨a,rfl,h1,h2,h3,PlainList.boxed h4⟩
 |dict ks l=>
  obtain⟨a,vs,rfl,h1,h2,h3,h4,h5,h6,h7⟩:=e;exact⟨a,rfl,h1,h2,h3,DictOf.boxed h6⟩
 |_=>exact e.elim
theorem eP.keep{L:Addr}{h h':Heap}{out hid ar:List Addr}{x:V}{a:Addr}(e:eP P L h out hid x (.ref a))(ha:∀o,h.get? a=some o->h'.get? a=some o)(hk:∀a o,a∉hid->h.get? a=some o->h'.get? a=some o)
  (hh:∀a∈hid,a∈ar) (hn:∀a∈ar,a∈hid\/h.get? a=none):eP P L h' out ar x (.ref a):=
 e.map (fun b q h1 h2 h3=>⟨hh _ h1,h2,h3,fun o=>by cases q;exact ha o⟩) fun d=>d.grow hk hn
theorem kZ{l l':List (Str×NameKind×Bool)}{i:Nat}{x:Str}{k:NameKind}{b:Bool}(hi:l[i]?=some (x,k,b))(hv:l'=l.set i (x,k,false)){j:Nat}{z kd c}(h:l'[j]?=some (z,kd,c)):(j=i/\z=x/\kd=k/\c=false)\/(j≠i/\l[j]?=some (z,kd,c)):=by
 rw[hv,List.getElem?_set]at h;by_cases e:i=j
 ·rw[aw e,aw (gH.mp hi).1]at h
  cases h;exact .inl ⟨e.symm,rfl,rfl,rfl⟩
 ·rw[au e]at h
  exact .inr ⟨fun z=>e z.symm,h⟩
theorem aU.unbox{K':Cx}{env:Env}{out hid out' ar:List Addr}{m}{B s:Shared}{ρ aQ:ao}(S:aU P K env out hid m B s ρ){i:Nat}{x:Str}{k:NameKind}(hi:K.vars[i]?=some (x,k,true))(hv:K'.vars=K.vars.set i (x,k,false))(hg:K'.aV=K.aV){y y':V}(hy:ρ i=some y)
  {a:Addr} (Vq:At env m s.heap out hid x k (some (.ref a))) (bx:mZ s.heap a) (oh:∀b∈out',b∈ar) (own:∀b∈ar,b∉out'->B.heap.get? b=none) (mv:∀b,b∈hid->b∉out->b≠a->b∈ar/\b∉out') (ha:a≠env.locals) (sub:∀b∈ar,b∈hid)
  (si:∀{kd z u},At env m s.heap out hid z kd u->At env m s.heap out' ar z kd u) (WO:∀j,j≠i->aQ j=ρ j) (Sg:aQ i=some y') (d:Dn P s.heap ar y' (.ref a)):aU P K' env out' ar m B s aQ where
 fn:=S.fn
 gl:=S.gl
 bl:=S.bl
 kind:=fun j z kd b h=>(kZ hi hv h).elim (fun q=>by obtain⟨_,rfl,rfl,_⟩:=q;exact S.kind i _ _ _ hi) fun q=>S.kind j z kd b q.2
 oV:=fun z h=>S.oV z (hg▸h)
 nodup:=fun j l z kd b Lg b' h1 h2=>by
  have n1:∃b,K.vars[j]?=some (z,kd,b):=(kZ hi hv h1).elim (fun q=>by obtain⟨rfl,rfl,rfl,_⟩:=q;exact⟨_,hi⟩) fun q=>⟨_,q.2⟩
  have n2:∃b,K.vars[l]?=some (z,Lg,b):=(kZ hi hv h2).elim (fun q=>by obtain⟨rfl,rfl,rfl,_⟩:=q;exact⟨_,hi⟩) fun q=>⟨_,q.2⟩
  exact n1.elim fun ø n1=>n2.elim fun ø n2=>S.nodup _ _ _ _ _ _ _ n1 n2
 iD:=S.iD
 live:=fun b h=>S.live b (sub b h)
 oh:=oh
 Lh:=(mv _ S.Lh S.Lo (fu ha)).1
 Lo:=(mv _ S.Lh S.Lo (fu ha)).2
 ns:=S.ns
 gb:=S.gb
 kp:=S.kp
 own:=own
 slot:=fun j z kd b h=>(kZ hi hv h).elim (fun q=>by
  obtain⟨rfl,rfl,rfl,rfl⟩:=q;exact⟨_,si Vq,by rw[Sg];exact⟨_,rfl,d⟩⟩) fun q=>(S.slot j z kd b q.2).elim fun ov w=>⟨ov,si w.1,by
  rw[WO j q.1]
  cases e:ρ j with
  |none=>trivial
  |some t=>
   refine oU.map (e▸w.2) (fun hb a' e' h1 h2 h3=>?_) (fun e=>Dn.less (P:=P) e sub) fun e=>bd.less (P:=P) e sub
   have cZ:a'≠a:=fun z'=>by
    subst hb;subst e';subst z';rcases S.apart i j x z k kd a' (fu q.1) hi q.2 Vq w.1 with r|r
    ·rw[hy]at r;cases r
    ·rw[e]at r;cases r
   exact⟨(mv a' h1 h2 cZ).1,(mv a' h1 h2 cZ).2,h3,fun ø e=>e⟩⟩
 apart:=fun j l z w kd Lg b LA h1 h2 a1 a2=>by
  have q1:=(kZ hi hv h1).resolve_left fun q=>nomatch q.2.2.2
  have q2:=(kZ hi hv h2).resolve_left fun q=>nomatch q.2.2.2
  obtain⟨ov,p1,_⟩:=S.slot j z kd true q1.2;obtain⟨WK,p2,_⟩:=S.slot l w Lg true q2.2;have e1:=At.fun (si p1) a1
  have e2:=At.fun (si p2) a2
  subst e1;subst e2;rw[WO j q1.1,WO l q2.1];exact S.apart j l z w kd Lg b LA q1.2 q2.2 p1 p2
theorem aU.fill{env:Env}{out hid ar:List Addr}{m m':Str->Option Value}{B s s':Shared}{ρ:ao}(S:aU P K env out hid m B s ρ){i:Nat}{x:Str}{k:NameKind}{b:Bool}(hi:K.vars[i]?=some (x,k,b)){y:V}{v:Value}{c:Addr}
  (ch:c∈hid) (co:c∉out) (hs:∀a o,a≠c->s.heap.get? a=some o->s'.heap.get? a=some o) (hg:GX s.gens s'.gens) (NE:s'.os=s.os)
  (sub:∀a∈hid,a∈ar) (new:∀a∈ar,a∈hid\/s.heap.get? a=none) (live:cD s'.heap ar)
  (ns:s'.heap.Ns env.locals m') (WP:∀(j:Nat) x' k' z a,j≠i->K.vars[j]?=some (x',k',true)->ρ j=some z->At env m s.heap out hid x' k' (some (.ref a))->eP P env.locals s.heap out hid z (.ref a)->a≠c)
  (la:At env m' s'.heap out ar x k (some v)) (Hw:∀(j:Nat) x' k' b' u,j≠i->K.vars[j]?=some (x',k',b')->At env m s.heap out hid x' k' u->At env m' s'.heap out ar x' k' u)
  (hv:if b then eP P env.locals s'.heap out ar y v else Dn P s'.heap ar y v)
  (Ch:b=true->∀(j:Nat) x' k' a,j≠i->K.vars[j]?=some (x',k',true)->v= .ref a->At env m s.heap out hid x' k' (some (.ref a))->ρ j=none):
  aU P K env out ar m' B s' (upd ρ i y)/\Ks out hid ar s s':=by
 have keep:∀a o,a∉hid->s.heap.get? a=some o->s'.heap.get? a=some o:=fun a o h=>hs a o fun e=>h (e▸ch)
 have K1:Ks out hid ar s s':=⟨fun a o h=>hs a o (by rintro rfl;exact h.elim (fun z=>z ch) co),new,sub,hg,NE⟩;have Vr:∀(j:Nat) x' k' b' u,j≠i->K.vars[j]?=some (x',k',b')->At env m' s'.heap out ar x' k' u->At env m s.heap out hid x' k' u:=fun j x' k' b' u hj qM h=>by
  obtain⟨ov,q1,_⟩:=S.slot j x' k' b' qM;have:=At.fun (Hw j x' k' b' ov hj qM q1) h
  subst this;exact q1
 refine⟨{fn:=S.fn,gl:=S.gl,bl:=S.bl,kind:=S.kind,oV:=S.oV,nodup:=S.nodup,iD:=S.iD,live:=live,oh:=fun a h=>sub a (S.oh a h),Lh:=sub _ S.Lh,Lo:=S.Lo,ns:=ns,slot:=?_,apart:=?_,gb:=S.gb,kp:=?_,own:=?_},K1⟩
 ·intro j x' k' b' hj
  by_cases CU:j=i
  ·subst CU
   rw[hi]at hj;cases hj;exact⟨some v,la,by rw[kY];exact⟨v,rfl,hv⟩⟩
  ·obtain⟨ov,q1,q2⟩:=S.slot j x' k' b' hj
   refine⟨ov,Hw j x' k' b' ov CU hj q1,?_⟩;rw[iE _ _ CU]
   cases e:ρ j with
   |none=>trivial
   |some z=>
    rw[e]at q2;obtain⟨u,rfl,q2⟩:=q2;refine⟨u,rfl,?_⟩;cases b'
    ·exact Dn.ks (P:=P) q2 K1
    ·obtain⟨a,rfl,h1,h2,h3,h4⟩:=eP.addr (P:=P) q2
     exact eP.keep (P:=P) q2 (fun o h=>hs a o (WP j x' k' z a CU hj e q1 q2) h) keep sub new
 ·intro j l x' y' k' Vs a LA hj hl h1 h2
  by_cases CU:j=i
  ·subst CU
   rw[hi]at hj;cases hj;right;have e:=At.fun la h1
   cases e;rw[iE _ _ (fu LA)];exact Ch rfl l y' Vs a (fu LA) hl rfl (Vr l y' Vs true _ (fu LA) hl h2)
  ·by_cases WQ:l=i
   ·subst WQ
    rw[hi]at hl;cases hl;left;have e:=At.fun la h2
    cases e;rw[iE _ _ CU];exact Ch rfl j x' k' a CU hj rfl (Vr j x' k' true _ CU hj h1)
   ·rw[iE _ _ CU,iE _ _ WQ]
    exact S.apart j l x' y' k' Vs a LA hj hl (Vr j x' k' true _ CU hj h1) (Vr l y' Vs true _ WQ hl h2)
 ·exact⟨fun a o h=>hs a o (by rintro rfl;rw[S.own a ch co]at h;cases h) (S.kp.keep a o h),S.kp.gens.trans hg,NE.trans S.kp.os⟩
 ·intro a h ho
  rcases new a h with q|q
  ·exact S.own a q ho
  ·cases e:B.heap.get? a with
   |none=>rfl
   |some o=>rw[S.kp.keep a o e]at q;cases q
theorem cD.extBut{h h':Heap}{c:Addr}{hid}(l:cD h hid)(hs:∀a o,a≠c->h.get? a=some o->h'.get? a=some o)(hc:∃o,h'.get? c=some o):cD h' hid:=fun a ha=>by
 by_cases e:a=c
 ·subst e;exact hc
 ·obtain⟨o,ho⟩:=l a ha
  exact⟨o,hs a o e ho⟩
theorem aU.store{env:Env}{out hid:List Addr}{m:Str->Option Value}{B s:Shared}{ρ:ao}(S:aU P K env out hid m B s ρ){i:Nat}{x:Str}{k:NameKind}{b:Bool}(hi:K.vars[i]?=some (x,k,b)){y:V}{v:Value}
  (hv:if b then eP P env.locals s.heap out hid y v else Dn P s.heap hid y v)
  (Ch:b=true->∀(j:Nat) x' k' a,j≠i->K.vars[j]?=some (x',k',true)->v= .ref a->At env m s.heap out hid x' k' (some (.ref a))->ρ j=none) (nM:k≠ .free)
  {A:Around} {E:Value->Shared->Prop} {M:Model} {Q:Unit->Shared->Prop} (h:∀m' s',aU P K env out hid m' B s' (upd ρ i y)->Ks out hid hid s s'->((k= .local->∀a o,a≠env.locals->s.heap.get? a=some o->s'.heap.get? a=some o)/\(∀(j:Nat) x' k' b' u,j≠i->K.vars[j]?=some (x',k',b')->At env m' s'.heap out hid x' k' u->At env m s.heap out hid x' k' u)/\(∀a o,mZ s.heap a->a≠env.locals->s.heap.get? a=some o->s'.heap.get? a=some o)/\At env m' s'.heap out hid x k (some v))->Q () s'):
  wpAny M A (storeName env x v) Q E s:=by
 obtain⟨ov,la,_⟩:=S.slot i x k b hi;have hk:=S.kind i x k b hi;obtain⟨oL,_,_,hL,_⟩:=id S.ns;have fin:∀(c:Addr) (m':Str->Option Value) (s':Shared),(k= .local->c=env.locals)->c∈hid->c∉out->(∀a o,a≠c->s.heap.get? a=some o->s'.heap.get? a=some o)->(∃o,s'.heap.get? c=some o)->s'.gens=s.gens->s'.os=s.os->s'.heap.Ns env.locals m'->
   (∀a,mZ s.heap a->a≠env.locals->a≠c)->At env m' s'.heap out hid x k (some v)->(∀(j:Nat) x' k' b' u,j≠i->K.vars[j]?=some (x',k',b')->At env m s.heap out hid x' k' u->At env m' s'.heap out hid x' k' u)->Q () s':=by
  intro c m' s' WR ch co hs hc hg NE ns Vt FD Hw;have FF:if b then eP P env.locals s'.heap out hid y v else Dn P s'.heap hid y v:=by
   cases b
   ·exact Dn.grow (P:=P) hv (fun a o ha q=>hs a o (fun e=>ha (e▸ch)) q) fun a q=>.inl q
   ·obtain⟨a,rfl,h1,h2,h3,h4⟩:=eP.addr (P:=P) hv
    exact eP.keep (P:=P) hv (fun o q=>hs a o (Vt a h4 h3) q) (fun a o ha q=>hs a o (fun e=>ha (e▸ch)) q) (fun ø q=>q) fun a q=>.inl q
  obtain⟨r1,r2⟩:=aU.fill (m':=m') (s':=s') S hi ch co hs (by rw[hg];exact .refl _) NE (fun ø q=>q) (fun ø q=>.inl q) (S.live.extBut hs hc) ns (fun j x' k' z a ø ø ø ø q=>by
   obtain⟨a',e,h1,h2,h3,h4⟩:=eP.addr (P:=P) q;cases e;exact Vt a h4 h3) FD Hw FF Ch
  exact h m' s' r1 r2 ⟨fun hk a o ha q=>hs a o (fun e=>ha (e.trans (WR hk))) q,fun j x' k' b' u hj qM hu=>by
   obtain⟨ov,q1,_⟩:=S.slot j x' k' b' qM;have:=At.fun (Hw j x' k' b' ov hj qM q1) hu
   subst this;exact q1,fun a o ha cZ q=>hs a o (Vt a ha cZ) q,FD⟩
 cases k
 case «local» =>
  refine qR hk S.ns (fun h' zT wf=>?_) (by simp[S.fn]);have hs:∀a o,a≠env.locals->s.heap.get? a=some o->h'.get? a=some o:=fun a o ha q=>(wf.2 a ha).trans q
  refine fin env.locals _ {s with heap:=h',toks:=s.toks+1} (fun ø=>rfl) S.Lh S.Lo hs ?_ rfl rfl zT (fun a ø ha=>ha) (by simp[At]) ?_
  ·obtain⟨o,_,_,ho,_⟩:=zT;exact⟨o,ho⟩
  ·intro j x' k' b' u hj qM hu
   have cZ:x'≠x:=by
    rintro rfl
    exact hj (S.nodup j i x' k' b' _ _ qM hi)
   exact hu.map (fun e=>(au cZ).trans e) fun c ø q2 q3 q4=>⟨q2,q3,q4.sameBut wf fun e=>Ns.jY (e▸S.ns) q4⟩
 case cell=>
  obtain⟨c,q1,q2,q3,q4⟩:=la;refine wpAny_storeName_cell S.fn hk q1 q4 (fun h' Ci wf=>?_);have hs:∀a o,a≠c->s.heap.get? a=some o->h'.get? a=some o:=fun a o ha q=>(wf.2 a ha).trans q
  refine fin c m {s with heap:=h'} (fun e=>by cases e) q2 q3 hs ?_ rfl rfl (S.ns.sameBut wf fun e=>Ns.jY S.ns (e▸q4)) (fun a ha ø e=>mZ.jY ha (e▸q4)) (by simp only[At];exact⟨c,q1,q2,q3,Ci⟩) ?_
  ·obtain⟨o,ho,_⟩:=Ci;exact⟨o,ho⟩
  ·intro j x' k' b' u hj qM hu
   have cZ:x'≠x:=by
    rintro rfl
    exact hj (S.nodup j i x' k' b' _ _ qM hi)
   exact hu.map id fun c' z1 z2 z3 z4=>⟨z2,z3,z4.sameBut wf fun e=>cZ (S.iD x' x c (e▸z1) q1)⟩
 case free=>exact absurd rfl nM
 all_goals exact la.elim
noncomputable def Hx(P:Pk)(s s':Shared)(hid:List Addr):V->Value->Prop
 | .list l,v=>∃a vs,v= .ref a/\s.heap.get? a=none/\s'.heap.PlainList a vs.toArray/\bd P s'.heap (a::hid) l vs
 | .dict ks l,v=>∃a vs,v= .ref a/\s.heap.get? a=none/\(a==sysModules)=false/\vs.length=ks.length/\s'.heap.DictOf (intKind P.prog P.w) a (ks.zip vs)/\bd P s'.heap (a::hid) l vs
 |_,_=>False
theorem Hx.box{s s':Shared}{hid out:List Addr}{x:V}{v:Value}{L:Addr}(e:Hx P s s' hid x v)(live:cD s.heap hid)(oh:∀a∈out,a∈hid)(Lh:L∈hid):∃a,v= .ref a/\s.heap.get? a=none/\a∉hid/\eP P L s'.heap out (a::hid) x v/\∃o,s'.heap.get? a=some o:=by
 cases x with
 |list l=>
  obtain⟨a,vs,rfl,h1,h2,h3⟩:=e;have hn:=live.not h1;refine⟨a,rfl,h1,hn,?_,?_⟩
  ·exact⟨a,vs,rfl,by simp,fun q=>hn (oh a q),fun q=>hn (q▸Lh),h2,h3⟩
  ·obtain⟨o,ho⟩:=h2;exact⟨_,ho⟩
 |dict ks l=>
  obtain⟨a,vs,rfl,h1,h2,h3,h4,h5⟩:=e;have hn:=live.not h1;refine⟨a,rfl,h1,hn,?_,?_⟩
  ·exact⟨a,vs,rfl,by simp,fun q=>hn (oh a q),fun q=>hn (q▸Lh),h2,h3,h4,h5⟩
  ·obtain⟨o,es,ep,ho,_⟩:=h4;exact⟨_,ho⟩
 |_=>exact e.elim
theorem Hx.dn{s s':Shared}{hid:List Addr}{x:V}{v:Value}(e:Hx P s s' hid x v)(live:cD s.heap hid):Dn P s'.heap hid x v:=by
 cases x with
 |list l=>
  obtain⟨a,vs,rfl,h1,h2,h3⟩:=e;exact .ofList (live.not h1) h2 (bd.less (P:=P) h3 fun a q=>ge _ q)
 |dict ks l=>
  obtain⟨a,vs,rfl,h1,h2,h3,h4,h5⟩:=e;exact⟨a,vs,rfl,live.not h1,h3,h2,h4,bd.less (P:=P) h5 fun a q=>ge _ q⟩
 |_=>exact e.elim
noncomputable def Hy(P:Pk)(n:Nat)(K:Cx)(e:Expr)(f:ao->Option V):Prop:=
 ∀(A:Around) (env:Env) (out hid:List Addr) (m:Str->Option Value) (B s:Shared) (ρ:ao) (x:V) (E:Value->Shared->Prop),cJ n A->aU P K env out hid m B s ρ->f ρ=some x->
  wpAny (model P.prog P.w) A (eval e env) (fun v s'=>Kp s s'/\Hx P s s' hid x v) E s
theorem fQ{e f}(h:Hy P n K e f):eo P n K lo e f:=fun A env out hid m B s ρ x E r S hf=>
 aD (h A env out hid m B s ρ x E r S hf) (fun v s' q=>⟨q.1,by
  have:=Hx.dn (P:=P) q.2 S.live;cases lo
  ·exact this
  ·exact this.less S.oh⟩) fun ø ø q=>q
inductive Fl where
 |next|brk|cont
 |ret (x:V)
noncomputable def Ry(P:Pk)(h:Heap)(out:List Addr):Fl->Flow->Prop
 | .next,f=>f= .next
 | .brk,f=>f= .brk
 | .cont,f=>f= .cont
 | .ret x,f=>∃v,f= .ret v/\Dn P h out x v
inductive Hi(P:Pk)(K:Cx)(env:Env)(out hid:List Addr)(B s s':Shared)(aQ:ao)(fl:Fl)(dG:Flow):Prop
 |mk (ar:List Addr) (m':Str->Option Value) (S:aU P K env out ar m' B s' aQ) (k:Ks out hid ar s s') (f:Ry P s'.heap out fl dG):Hi P K env out hid B s s' aQ fl dG
theorem Hi.pre{env:Env}{out hid du:List Addr}{B s s₁ s':Shared}{aQ:ao}{fl:Fl}{dG:Flow}(q:Hi P K env out du B s₁ s' aQ fl dG)(k:Ks out hid du s s₁):Hi P K env out hid B s s' aQ fl dG:=by
 obtain⟨a,b,c,d,e⟩:=q;exact⟨a,b,c,k.trans d,e⟩
noncomputable def zU(P:Pk)(n:Nat)(K:Cx)(st:Stmt)(f:ao->Option (ao×Fl)):Prop:=
 ∀(A:Around) (env:Env) (out hid:List Addr) (m:Str->Option Value) (B s:Shared) (ρ aQ:ao) (fl:Fl) (E:Value->Shared->Prop),cJ n A->aU P K env out hid m B s ρ->f ρ=some (aQ,fl)->
  wpAny (model P.prog P.w) A (exec st env) (fun dG s'=>Hi P K env out hid B s s' aQ fl dG) E s
noncomputable def ow(P:Pk)(n:Nat)(K:Cx)(st:List Stmt)(f:ao->Option (ao×Fl)):Prop:=
 ∀(A:Around) (env:Env) (out hid:List Addr) (m:Str->Option Value) (B s:Shared) (ρ aQ:ao) (fl:Fl) (E:Value->Shared->Prop),cJ n A->aU P K env out hid m B s ρ->f ρ=some (aQ,fl)->
  wpAny (model P.prog P.w) A (execs st env) (fun dG s'=>Hi P K env out hid B s s' aQ fl dG) E s
theorem ai:ow P n K [] fun ρ=>some (ρ,.next):=fun A env out hid m B s ρ aQ fl E r S hf=>by
 cases hf;exact wpAny_execs_nil ⟨hid,m,S,.refl ..,rfl⟩
noncomputable def eY(f g:ao->Option (ao×Fl)):ao->Option (ao×Fl):=fun ρ=>(f ρ).bind fun r=>match r.2 with
 | .next=>g r.1
 |fl=>some (r.1,fl)
theorem af{st:Stmt}{rest:List Stmt}{f g}(h:zU P n K st f)(hr:ow P n K rest g):ow P n K (st::rest) (eY f g):=fun A env out hid m B s ρ aQ fl E r S hf=>by
 refine ak hf ?_;clear hf;rintro⟨am,NF⟩ h1 hf;refine tw (aD (h A env out hid m B s ρ am NF E r S h1) (fun dG s₁ q=>?_) fun ø ø q=>q);obtain⟨du,m₁,bC,jp,pV⟩:=q;cases NF<;>dsimp only at hf
 ·obtain rfl:=pV
  exact aD (hr A env out du m₁ B s₁ am aQ fl E r bC hf) (fun dG s₂ q=>q.pre jp) fun ø ø q=>q
 ·cases hf;obtain rfl:=pV;exact⟨du,m₁,bC,jp,rfl⟩
 ·cases hf;obtain rfl:=pV;exact⟨du,m₁,bC,jp,rfl⟩
 ·cases hf;obtain⟨v,rfl,hv⟩:=pV;exact⟨du,m₁,bC,jp,v,rfl,hv⟩
theorem wY{pos}:zU P n K (.Break pos) fun ρ=>some (ρ,.brk):=fun A env out hid m B s ρ aQ fl E r S hf=>by
 cases hf;exact wpAny_Break ⟨hid,m,S,.refl ..,rfl⟩
theorem aW{e pos f}(h:eo P n K true e f):zU P n K (.Return (some e) pos) fun ρ=>(f ρ).map fun x=>(ρ,.ret x):=fun A env out hid m B s ρ aQ fl E r S hf=>by
 refine cI hf fun x hx e=>?_
 clear hf
 first|refine pair_inv e ?_;clear e|cases e
 exact wpAny_Return_some (aD (h A env out hid m B s ρ x E r S hx) (fun v s₁ q=>⟨hid,m,S.after q.1,.iO q.1,v,rfl,q.2⟩) fun ø ø q=>q)
theorem aN{t a b pos c f g}(ht:sh P n K t c)(ha:ow P n K a f)(hb:ow P n K b g):zU P n K (.If t a b pos) (fun ρ=>(c ρ).bind fun z=>if z then f ρ else g ρ):=fun A env out hid m B s ρ aQ fl E r S hf=>by
 refine ak hf fun z hz gu=>?_
 clear hf;rename _=>hf
 refine wpAny_If (aD (ht A env out hid m B s ρ z E r S hz) (fun z' s₁ aj=>?_) fun ø ø q=>q);rw[aj.2];have bC:=S.after aj.1;cases z
 ·simp only[kN,gZ]at hf ⊢
  exact aD (hb A env out hid m B s₁ ρ aQ fl E r bC hf) (fun dG s₂ q=>q.pre (Ks.iO aj.1)) fun ø ø q=>q
 ·simp only[jP]at hf ⊢
  exact aD (ha A env out hid m B s₁ ρ aQ fl E r bC hf) (fun dG s₂ q=>q.pre (Ks.iO aj.1)) fun ø ø q=>q
theorem aI(i:Nat){x:Str}{k:NameKind}{p pos:Pos}{e:Expr}{f}(hi:K.vars[i]?=some (x,k,false))(nM:k≠ .free)(h:eo P n K false e f)(hs:∀env,env.kindOf x=some k->swapsWith e (some (.Name x p)) pos.line env=pure false):
  zU P n K (.Assign [.Name x p] e pos) fun ρ=>(f ρ).map fun y=>(upd ρ i y,.next):=fun A env out hid m B s ρ aQ fl E r S hf=>by
 refine cI hf fun y hy e=>?_
 clear hf
 first|refine pair_inv e ?_;clear e|cases e
 refine qS (aD (h A env out hid m B s ρ y E r S hy) (fun v s₁ aj=>?_) fun ø ø q=>q) (hs env (S.kind i x k _ hi));exact(S.after aj.1).store hi aj.2 (fun q=>by cases q) nM fun m' s' S' K' ø=>⟨hid,m',S',(Ks.iO aj.1).trans K',rfl⟩
theorem fV(i:Nat){x:Str}{k:NameKind}{p pos:Pos}{e:Expr}{f}(hi:K.vars[i]?=some (x,k,true))(nM:k≠ .free)(h:Hy P n K e f)(hs:∀env,env.kindOf x=some k->swapsWith e (some (.Name x p)) pos.line env=pure false):
  zU P n K (.Assign [.Name x p] e pos) fun ρ=>(f ρ).map fun y=>(upd ρ i y,.next):=fun A env out hid m B s ρ aQ fl E r S hf=>by
 refine cI hf fun y hy e=>?_
 clear hf
 first|refine pair_inv e ?_;clear e|cases e
 refine qS (aD (h A env out hid m B s ρ y E r S hy) (fun v s₁ aj=>?_) fun ø ø q=>q) (hs env (S.kind i x k _ hi));obtain⟨a,rfl,ha,hah,ON,Li⟩:=Hx.box (P:=P) (out:=out) (L:=env.locals) aj.2 S.live S.oh S.Lh;have new:∀b∈a::hid,b∈hid\/s.heap.get? b=none:=fun b hb=>(bI.mp hb).elim (fun q=>.inr (q▸ha)) .inl
 have live:cD s₁.heap (a::hid):=fun b hb=>(bI.mp hb).elim (fun q=>q▸Li) (S.live.kp aj.1 b)
 have bC:=S.grow aj.1 (fun b q=>ge _ q) new live;refine bC.store hi ON (fun ø j x' k' a' hj qM e la=>?_) nM fun m' s' S' K' ø=>⟨a::hid,m',S',?_,rfl⟩
 ·cases e
  obtain⟨ov,q1,q2⟩:=S.slot j x' k' true qM;have:=At.back la q1 fun c v q=>q.keeps aj.1.keep
  subst this
  cases er:ρ j with
  |none=>rfl
  |some z=>
   rw[er]at q2;obtain⟨u,e,q2⟩:=q2;cases e;obtain⟨ZB,e,z1,_⟩:=eP.addr (P:=P) q2;cases e;exact absurd z1 hah
 ·exact⟨fun b o hb q=>K'.keep b o (hb.imp (fun z hm=>(bI.mp hm).elim (fun w=>by rw[w,ha]at q;cases q) z) id) (aj.1.keep b o q),new,fun b q=>ge _ q,aj.1.gens.trans K'.gens,K'.os.trans aj.1.os⟩
end
section
variable{P:Pk}{n:Nat}{K:Cx}{lo:Bool}
theorem bW{M:Model}{A:Around}{E:Value->Shared->Prop}{s:Shared}{f:Value}{l:List (Bool×Sem Value)}{Q:Args->Shared->Prop}(hp:l.any (·.1)=false)
  (h:wpAny M A (spliced l) (fun vs s'=>Q ⟨vs,[]⟩ s') E s):wpAny M A (evalArgs f true l []) Q E s:=by
 cases l with
 |cons a l=>
  obtain⟨b,x⟩:=a;cases b
  ·exact Calls.evalArgs_plain h
  ·simp at hp
 |nil=>
  unfold evalArgs;show wpAny M A (spliced []>>= _) Q E s;refine aA (aD h (fun vs s' h'=>?_) fun ø ø x=>x);refine gI ?_;exact aA (bK (aA (bK (bK h'))))
theorem aU.mut{env:Env}{out hid:List Addr}{m:Str->Option Value}{B s s':Shared}{ρ:ao}(S:aU P K env out hid m B s ρ){i:Nat}{x:Str}{k:NameKind}(hi:K.vars[i]?=some (x,k,true)){y y':V}{a:Addr}
  (la:At env m s.heap out hid x k (some (.ref a))) (hy:ρ i=some y) (hb:eP P env.locals s.heap out hid y (.ref a)) (hs:∀b o,b≠a->s.heap.get? b=some o->s'.heap.get? b=some o) (hg:GX s.gens s'.gens) (NE:s'.os=s.os)
  (Vu:eP P env.locals s'.heap out hid y' (.ref a)):aU P K env out hid m B s' (upd ρ i y')/\Ks out hid hid s s':=by
 obtain⟨WS,e,h1,h2,h3,h4⟩:=eP.addr (P:=P) hb;cases e;obtain⟨WS,e,_,_,_,h4'⟩:=eP.addr (P:=P) Vu;cases e;have si:∀c v,s.heap.IsCell c v->s'.heap.IsCell c v:=fun c v q=>by
  obtain⟨o,ho,hd⟩:=id q;exact⟨o,hs c o (fun e=>mZ.jY h4 (e▸q)) ho,hd⟩
 have zT:s'.heap.Ns env.locals m:=by
  obtain⟨o,es,ep,ho,hr⟩:=S.ns;exact⟨o,es,ep,hs _ o (fu h3) ho,hr⟩
 have Rv:∀x' k' u,At env m s.heap out hid x' k' u->At env m s'.heap out hid x' k' u:=fun x' k' u q=>q.grow si fun ø z=>z
 refine S.fill (m':=m) (s':=s') hi (v:=.ref a) h1 h2 hs hg NE (fun ø q=>q) (fun ø q=>.inl q) (S.live.extBut hs ?_) zT ?_ (Rv _ _ _ la) (fun j x' k' b' u ø ø q=>Rv _ _ _ q) Vu ?_
 ·obtain⟨o,ho,_⟩:=h4';exact⟨o,ho⟩
 ·intro j x' k' z a' hj qM hz FD Vt e
  subst e;rcases S.apart j i x' x k' k a' hj qM hi FD la with q|q
  ·rw[hz]at q;cases q
  ·rw[hy]at q;cases q
 ·intro _ j x' k' a' hj qM e FD
  cases e;rcases S.apart j i x' x k' k a hj qM hi FD la with q|q
  ·exact q
  ·rw[hy]at q;cases q
inductive Vv(P:Pk)(K:Cx)(env:Env)(out hid:List Addr)(B s s':Shared)(aQ:ao)(x:V)(v:Value):Prop
 |mk (ar:List Addr) (m':Str->Option Value) (S:aU P K env out ar m' B s' aQ) (k:Ks out hid ar s s') (f:Dn P s'.heap ar x v):Vv P K env out hid B s s' aQ x v
noncomputable def Sh(P:Pk)(n:Nat)(K:Cx)(e:Expr)(f:ao->Option (ao×V)):Prop:=
 ∀(A:Around) (env:Env) (out hid:List Addr) (m:Str->Option Value) (B s:Shared) (ρ aQ:ao) (x:V) (E:Value->Shared->Prop),cJ n A->aU P K env out hid m B s ρ->f ρ=some (aQ,x)->
  wpAny (model P.prog P.w) A (eval e env) (fun v s'=>Vv P K env out hid B s s' aQ x v) E s
inductive ZC(P:Pk)(name:Str)(s:Shared)(L:Addr)(out hid:List Addr)(y:V)(v:Value)(xs:List V)(y' r:V):Prop
 |mk (T id:String) (p:PlainAttrs T) (sl:Slot T name id) (t:typeOf (.builtin id)=pure (.type "method_descriptor")) (ty:s.TypeIs v T) (nd:∀a,v= .ref a->∃ob,s.heap.get? a=some ob/\ob.dict=none)
  (h:∀(A:Around) (s₁:Shared) (vs:List Value) (E:Value->Shared->Prop),cJ 0 A->P.G s₁.heap->cD s₁.heap hid->eP P L s₁.heap out hid y v->bd P s₁.heap hid xs vs->
   wpAny (model P.prog P.w) A (call (.builtin id) (v::vs)) (fun u s'=>(∀a,v= .ref a->∀b o,b≠a->s₁.heap.get? b=some o->s'.heap.get? b=some o)/\GX s₁.gens s'.gens/\s'.os=s₁.os/\eP P L s'.heap out hid y' v/\Dn P s'.heap hid r u) E s₁):ZC P name s L out hid y v xs y' r
noncomputable def Hz(P:Pk)(name:Str)(F:V->List V->Option (V×V)):Prop:=
 ∀(s:Shared) (L:Addr) (out hid:List Addr) (y:V) (v:Value) (xs:List V) (y' r:V),eP P L s.heap out hid y v->F y xs=some (y',r)->ZC P name s L out hid y v xs y' r
noncomputable def oX(F:V->List V->Option (V×V))(i:Nat)(g:ao->Option (List V)):ao->Option (ao×V):=fun ρ=>(ρ i).bind fun y=>(g ρ).bind fun xs=>(F y xs).map fun r=>(upd ρ i r.1,r.2)
theorem nN{args:List Expr}{pos:Pos}{env:Env}(eg:(backTo pos (starEach args env)).any (·.1)=false)(cZ:args.length<20):((backTo pos (starEach args env)).all (fun x=>!x.1)&&(backToKw pos (keywordEach [] env)).all (fun x=>x.1.isSome)
  &&decide (args.length+([]:List Keyword).length+(if([]:List Keyword).isEmpty then 0 else 1)<30))=true:=by
 have h1:(backTo pos (starEach args env)).all (fun x=>!x.1)=true:=by
  rw[cH];intro q hq;have:=List.any_eq_false.mp eg q hq;simpa using this
 rw[h1];show(true&&true&&decide (args.length+0+0<30))=true;exact bo (show args.length+0+0<30 from Nat.lt_trans cZ (by decide))
theorem eF(i:Nat){x:Str}{k:NameKind}{p apos pos:Pos}{name:Str}{args:List Expr}{F g}(hi:K.vars[i]?=some (x,k,true))(hd:(x==("__debug__":Str))=false)(hc:(x==("__classdict__":Str))=false)
  (hm:Hz P name F) (ha:kl P n K false args g) (iX:∀env,starEach args env=args.map fun e=>(false,eval e env)) (cZ:args.length<20) (pW:(apos.endLine==pos.line)=true) (pX:∀env,attributeBase (.Name x p) name env (eval (.Name x p) env)=eval (.Name x p) env):
  Sh P n K (.Call (.Attribute (.Name x p) name apos) args [] pos) (oX F i g):=fun A env out hid m B s ρ aQ z E r S hf=>by
 refine ak hf fun y hy gu=>?_
 clear hf;rename _=>hf
 refine ak hf fun xs yb gu=>?_
 clear hf;rename _=>hf
 refine cI hf ?_;clear hf;rintro⟨y',r'⟩ hF hf;cases hf;have eg:(backTo pos (starEach args env)).any (·.1)=false:=ct iX;refine xF (pX env) (nN eg cZ) pW ?_;refine fP (S.load hi hy hd hc fun v hv la=>?_) hd;rw[aw rfl]at hv;obtain⟨T,id,c1,c2,c3,c4,c5,c6⟩:=hm s env.locals out hid y v xs y' r' hv hF;refine⟨T,id,c1,c2,c3,c4,c5,tt eg ?_⟩;obtain⟨a,rfl,h1,h2,h3,h4⟩:=eP.addr (P:=P) hv;have key:=ha A env out hid m B s ρ xs E pos r S yb;have fin:∀vs s₁,(Kp s s₁/\bd P s₁.heap hid xs vs)->wpAny (model P.prog P.w) A (call (.builtin id) ([Value.ref a]++vs) []) (fun v s'=>Vv P K env out hid B s s' (upd ρ i y') r' v) E s₁:=by
  intro vs s₁ aj;have bC:=S.after aj.1;have uc:eP P env.locals s₁.heap out hid y (.ref a):=eP.grow (P:=P) hv aj.1.keep (fun ø q=>q) fun ø q=>.inl q
  have OO:At env m s₁.heap out hid x k (some (.ref a)):=la.grow (fun c v q=>q.keeps aj.1.keep) fun ø q=>q
  refine aD (c6 A s₁ vs E (r.less (eK _)) bC.G bC.live uc aj.2) (fun u s' q=>?_) fun ø ø q=>q
  obtain⟨q1,q2,q3,q4,q5⟩:=q;obtain⟨z1,z2⟩:=bC.mut hi OO hy uc (q1 a rfl) q2 q3 q4;exact⟨hid,m,z1,(Ks.iO aj.1).trans z2,q5⟩
 exact bW eg (aD key fin fun ø ø q=>q)
theorem eG{e:Expr}{pos:Pos}{f}(h:Sh P n K e f)(hi:∀ρ r,f ρ=some r->r.2= .none)(hs:∀env,swapsWith e none pos.line env=pure false):zU P n K (.Expr e pos) (fun ρ=>(f ρ).map fun r=>(r.1,.next)):=fun A env out hid m B s ρ aQ fl E r S hf=>by
 refine cI hf ?_;clear hf;rintro⟨am,x⟩ hx e;cases e;have hn:x= .none:=hi _ _ hx;subst hn;refine wpAny_Expr (aD (h A env out hid m B s ρ am .none E r S hx) (fun v s₁ q=>?_) fun ø ø q=>q) ?_ (hs env)
 ·obtain⟨ar,m',S',K',hv⟩:=q
  obtain rfl:=hv.none_inv;exact⟨ar,m',S',K',rfl⟩
 ·unfold interactive;simp[S.fn]
end
section
variable{P:Pk}{n:Nat}{K:Cx}{lo:Bool}
theorem eP.cK{L h out hid l v}(e:eP P L h out hid (.list l) v):∃a vs,v= .ref a/\a∈hid/\a∉out/\a≠L/\h.PlainList a vs.toArray/\bd P h hid l vs:=e
theorem eP.ofList{L h out hid l a vs}(h1:a∈hid)(h2:a∉out)(h3:a≠L)(h4:h.PlainList a vs.toArray)(h5:bd P h hid l vs):eP P L h out hid (.list l) (.ref a):=⟨a,vs,rfl,h1,h2,h3,h4,h5⟩
theorem eP.kX{L h out hid ks l v}(e:eP P L h out hid (.dict ks l) v):∃a vs,v= .ref a/\a∈hid/\a∉out/\a≠L/\(a==sysModules)=false/\vs.length=ks.length/\h.DictOf (intKind P.prog P.w) a (ks.zip vs)/\bd P h hid l vs:=e
theorem bd.cons_inv{h:Heap}{hid x xs vs}(e:bd P h hid (x::xs) vs):∃v r,vs=v::r/\Dn P h hid x v/\bd P h hid xs r:=e
theorem bd.nil_inv{h:Heap}{hid vs}(e:bd P h hid [] vs):vs=[]:=e
theorem bd.but{h h':Heap}{hid l vs}{a:Addr}(e:bd P h hid l vs)(ha:a∈hid)(hs:Heap.SameBut a h h'):bd P h' hid l vs:=e.grow (fun b o hb q=>(hs.2 b fun z=>hb (z▸ha)).trans q) fun ø q=>.inl q
theorem Dn.but{h h':Heap}{hid l vs}{a:Addr}(e:Dn P h hid l vs)(ha:a∈hid)(hs:Heap.SameBut a h h'):Dn P h' hid l vs:=e.grow (fun b o hb q=>(hs.2 b fun z=>hb (z▸ha)).trans q) fun ø q=>.inl q
theorem l6{h:Heap}{a:Addr}{xs ys:Array Value}{k:Nat}{f:Array Value->Array Value}(e:h.get? a=some {cls:=.type "list",data:=.seq xs k})(hf:f xs=ys):(h.update a (Obj.mapSeq f)).PlainList a ys:=by
 subst hf;refine⟨if(f xs).size==xs.size then k else k+1,?_⟩;have:Obj.mapSeq f {cls:=.type "list",data:=.seq xs k}={cls:=.type "list",data:=.seq (f xs) (if(f xs).size==xs.size then k else k+1)}:=rfl;rw[kR _ e (by rw[this];rfl),this]
theorem CV{name:Str}{id:String}{F:V->List V->Option (V×V)}(hF0:∀y xs r,F y xs=some r->∃l,y= .list l)(slot:Slot "list" name id)(Vw:typeOf (.builtin id)=pure (.type "method_descriptor"))
  (h:∀(A:Around) (s:Shared) (hid:List Addr) (a:Addr) (l:List V) (ws vs:List Value) (xs:List V) (l' r:V) (E:Value->Shared->Prop),cJ 0 A->a∈hid->s.heap.PlainList a ws.toArray->bd P s.heap hid l ws->bd P s.heap hid xs vs->F (.list l) xs=some (l',r)->
   wpAny (model P.prog P.w) A (call (.builtin id) (.ref a::vs)) (fun u s'=>Heap.SameBut a s.heap s'.heap/\GX s.gens s'.gens/\s'.os=s.os/\(∃l₂ OP,l'= .list l₂/\s'.heap.PlainList a OP.toArray/\bd P s'.heap hid l₂ OP)/\Dn P s'.heap hid r u) E s):Hz P name F:=
 fun s L out hid y v xs y' r hb hF=>by
 obtain⟨l,rfl⟩:=hF0 _ _ _ hF;obtain⟨a,vs,rfl,h1,h2,h3,h4,h5⟩:=eP.cK hb;refine⟨"list",id,Cp,slot,Vw,h4.isList.typeIs,fun b e=>?_,fun A s₁ we E rm G live hb hx=>?_⟩
 ·cases e;obtain⟨k,e⟩:=h4;exact⟨_,e,rfl⟩
 ·obtain⟨a',ws,e,c1,c2,c3,c4,c5⟩:=eP.cK hb
  cases e;refine aD (h A s₁ hid a l ws we xs y' r E rm c1 c4 c5 hx hF) (fun u s' q=>?_) fun ø ø q=>q
  obtain⟨q1,q2,q3,⟨l₂,OP,rfl,q4,q5⟩,q6⟩:=q;exact⟨fun b e c o cZ z=>by cases e;exact(q1.2 c cZ).trans z,q2,q3,eP.ofList c1 c2 c3 q4 q5,q6⟩
theorem ud{y:V}{γ:Type}{f:List V->Option γ}{r:γ}(h:y.gm.bind f=some r):∃l,y= .list l:=ak h fun l hl ø=>⟨l,V.eO hl⟩
noncomputable def V.one?:List V->Option V
 |[x]=>some x
 |_=>Option.none
theorem V.jq:∀{xs:List V} {x},V.one? xs=some x->xs=[x]
 |[_],_,h=>congrArg (fun x=>[x]) (Option.some.inj h)
 |[],_,h|_::_::_,_,h=>nomatch h
noncomputable def FH(y:V)(xs:List V):Option (V×V):=y.gm.bind fun l=>(V.one? xs).bind fun x=>if l.length<most then some (.list (l++[x]),.none)else none
theorem LB(l:List V)(x:V):FH (.list l) [x]=if l.length<most then some (.list (l++[x]),.none)else none:=id rfl
theorem ue:Hz P "append" FH:=CV (id:="list.append") (fun y xs r h=>ud h) PySem.F.slot_list_append PySem.F.type_list_append fun A s hid a l ws vs xs l' r E rm ha hl hd hx hF=>
 ak (o:=V.one? xs) hF fun x Si hF=>eR hF fun hlen e=>by
 cases V.jq Si;obtain⟨rfl,rfl⟩:=mQ e;refine hx.one_k fun u hu=>?_
 refine wpAny_list_append_plain hl (fun h' l7 hs=>⟨hs,.refl _,rfl,⟨_,ws++[u],rfl,by simpa using l7,(bd.but hd ha hs).app (.one (Dn.but hu ha hs))⟩,.ub⟩) ?_;rw[cb,hd.length];exact az (dU hlen) cR
theorem bd.erase{h:Heap}{hid}:∀{l:List V} {ws:List Value} (k:Nat),bd P h hid l ws->bd P h hid (l.eraseIdx k) (ws.eraseIdx k)
 |[],ws,k,e=>by obtain rfl:=bd.nil_inv e;simpa using e
 |x::l,ws,0,e=>by
  obtain⟨v,r,rfl,h1,h2⟩:=bd.cons_inv e;simpa using h2
 |x::l,ws,k+1,e=>by
  obtain⟨v,r,rfl,h1,h2⟩:=bd.cons_inv e;simp only[List.eraseIdx_cons_succ];exact .cons h1 (bd.erase k h2)
theorem wZ(ws:List Value)(k:Nat):ws.toArray.eraseIdxIfInBounds k=(ws.eraseIdx k).toArray:=by
 simp
noncomputable def hV(i:Int)(n:Nat):Option Nat:=if 0<=i then(if i<n then some i.toNat else none)else if 0<=i+n then some (i+n).toNat else none
noncomputable def Sj(l:List V):List V->Option (V×V)
 |[]=>l.getLast?.bind fun x=>if l.length<=most then some (.list l.dropLast,x)else none
 |[y]=>y.int?.bind fun i=>(hV i l.length).bind fun k=>l[k]?.bind fun x=>if l.length<=most then some (.list (l.eraseIdx k),x)else none
 |_=>none
noncomputable def OQ(y:V)(xs:List V):Option (V×V):=y.gm.bind fun l=>Sj l xs
theorem OR(l:List V):OQ (.list l) []=l.getLast?.bind fun x=>if l.length<=most then some (.list l.dropLast,x)else none:=id rfl
theorem Aa{i:Int}{n k:Nat}(h:hV i n=some k)(hn:n<=1000000):seqIndex? i n=some k/\Builtin.List.listFitsIndex i=true:=by
 unfold hV at h;unfold seqIndex? Builtin.List.listFitsIndex;by_cases h0:0<=i
 ·rw[aw h0]at h
  refine eR h fun h1 e=>?_
  subst e;clear h;simp[show ¬i<0 by omega];omega
 ·rw[au h0]at h
  refine eR h fun h1 e=>?_
  subst e;clear h;simp[show i<0 by omega];omega
theorem Sk:Hz P "pop" OQ:=CV (id:="list.pop") (fun y xs r h=>ud h) Cq PySem.F.type_list_pop fun A s hid a l ws vs xs l' r E rm ha hl hd hx hF=>by
 obtain⟨e0,NG⟩:=id hl;have hlen:=hd.length;replace hF:Sj l xs=some (l',r):=hF
 cases xs with
 |nil=>
  obtain rfl:=bd.nil_inv hx;refine ak hF fun x hg hF=>eR hF fun hle e=>?_
  obtain⟨rfl,rfl⟩:=mQ e;clear hF hx;have cZ:l≠[]:=by rintro rfl;simp at hg
  have CW:l[l.length-1]?=some x:=by rw[<-List.getLast?_eq_getElem?];exact hg
  obtain⟨v,hv,OS⟩:=bq.get hd CW;have HA:0<l.length:=tz.mpr cZ;refine qP Cq hl.isList.typeIs PySem.F.entry_list_pop (PySem.F.args_list_pop_1 _) (PySem.MeetsSeq.list_pop_last a ws.toArray e0 v (by simpa[hlen]using hv) (by rw[cb,hlen];exact az hle cR)) ⟨NG,?_⟩;have hs:Heap.SameBut a s.heap (s.heap.update a (Obj.mapSeq fun xs=>xs.eraseIdxIfInBounds (ws.toArray.size-1))):=oQ ..;refine⟨hs,.refl _,rfl,⟨_,ws.eraseIdx (ws.length-1),rfl,l6 NG (by rw[cb,wZ]),?_⟩,Dn.but OS ha hs⟩;have:=bd.but (bd.erase (ws.length-1) hd) ha hs;rw[hlen]at this ⊢;rwa[List.eraseIdx_eq_dropLast (xG HA)]at this
 |cons y xs=>cases xs with
  |cons _ _=>cases hF
  |nil=>
   refine ak hF fun i hi hF=>ak hF fun k hp hF=>ak hF fun x hg hF=>eR hF fun hle e=>?_
   obtain⟨rfl,rfl⟩:=mQ e;refine hx.one_k fun u hu=>hu.int_k hi fun t=>?_
   obtain⟨v,hv,OS⟩:=bq.get hd hg;have ZD:=Aa hp (az hle (bL 1000000));refine qP Cq hl.isList.typeIs PySem.F.entry_list_pop (PySem.F.args_list_pop_2 _ _) (PySem.MeetsSeq.list_pop_at a ws.toArray e0 i t k v ZD.2 (by rw[cb,hlen];exact ZD.1) (by simpa using hv) (by rw[cb,hlen];exact az hle cR)) ⟨NG,?_⟩;have hs:Heap.SameBut a s.heap (s.heap.update a (Obj.mapSeq fun xs=>xs.eraseIdxIfInBounds k)):=oQ ..;exact⟨hs,.refl _,rfl,⟨_,ws.eraseIdx k,rfl,l6 NG (wZ ..),bd.but (bd.erase k hd) ha hs⟩,Dn.but OS ha hs⟩
noncomputable def V.OT:List V->Option (V×V)
 |[x,y]=>some (x,y)
 |_=>Option.none
theorem V.HB:∀{xs:List V} {x},V.OT xs=some x->xs=[x.1,x.2]
 |[_,_],_,h=>congrArg (fun x=>[x.1,x.2]) (Option.some.inj h)
 |[],_,h|[_],_,h|_::_::_::_,_,h=>nomatch h
noncomputable def LC(y:V)(xs:List V):Option (V×V):=y.gm.bind fun l=>(V.OT xs).bind fun p=>p.1.int?.bind fun i=>if 0<=i/\i<=1000/\l.length<most then some (.list (l.insertIdx (min i.toNat l.length) p.2),.none)else none
theorem OU(l:List V)(i:Int)(x:V):LC (.list l) [.int i,x]=if 0<=i/\i<=1000/\l.length<most then some (.list (l.insertIdx (min i.toNat l.length) x),.none)else none:=id rfl
theorem bd.insert{h:Heap}{hid}{x:V}{v:Value}(hx:Dn P h hid x v):∀{l:List V} {ws:List Value} (k:Nat),k<=l.length->bd P h hid l ws->bd P h hid (l.insertIdx k x) (ws.take k++v::ws.drop k)
 |l,ws,0,_,e=>by simpa using bq.cons hx e
 |[],ws,k+1,hk,e=>by simp at hk
 |y::l,ws,k+1,hk,e=>by
  obtain⟨u,r,rfl,h1,h2⟩:=bd.cons_inv e;simp only[List.insertIdx_succ_cons,List.take_succ_cons,List.drop_succ_cons,List.cons_append];exact .cons h1 (bd.insert hx k (by simpa using hk) h2)
theorem Sl:Hz P "insert" LC:=CV (id:="list.insert") (fun y xs r h=>ud h) PySem.F.slot_list_insert PySem.F.type_list_insert fun A s hid a l ws vs xs l' r E rm ha hl hd hx hF=>
 ak (o:=V.OT xs) hF fun p hp hF=>ak hF fun i hi hF=>eR hF fun hc e=>by
 cases V.HB hp;obtain⟨rfl,rfl⟩:=mQ e;obtain⟨e0,NG⟩:=id hl;have hlen:=hd.length;refine hx.two_k fun u u' hu hu'=>hu.int_k hi fun t=>?_
 clear hx hF hp hu;refine qP PySem.F.slot_list_insert hl.isList.typeIs PySem.F.entry_list_insert (PySem.F.args_list_insert_3 _ _ _) (AutoSeq1.list_insert_list_int_val_1 a ws.toArray e0 i t u' (by unfold Builtin.List.listFitsIndex;have:=hc.1;have:=hc.2.1;clear hd NG hl;simp;omega) (by rw[cb,hlen];exact az (dU hc.2.2) cR)) ⟨NG,?_⟩;have hs:∀f,Heap.SameBut a s.heap (s.heap.update a (Obj.mapSeq f)):=fun f=>oQ ..
 refine⟨hs _,.refl _,rfl,⟨_,ws.take (min i.toNat l.length)++u'::ws.drop (min i.toNat l.length),rfl,l6 NG ?_,?_⟩,.ub⟩
 ·dsimp only
  rw[au (Int.not_lt.mpr hc.1),cb,hlen];apply Array.toList_inj.mp;simp;rw[qU (by simp[hlen])]
 ·exact bd.but (bd.insert hu' _ (Nat.min_le_right _ _) hd) ha (hs _)
end
section
variable{P:Pk}{n:Nat}{K:Cx}{lo:Bool}
structure Mv0(W:List Addr)(gi:Option Nat)(s s':Shared):Prop where
 keep:∀b o,b∉W->s.heap.get? b=some o->s'.heap.get? b=some o
 gens:∀(i:Nat) x,gi≠some i->s.gens[i]?=some x->s'.gens[i]?=some x
 bare:AllBare s.gens->AllBare s'.gens
 os:s'.os=s.os
structure Mv(W:List Addr)(gi:Option Nat)(s s':Shared):Prop extends Mv0 W gi s s' where
 live:cD s'.heap W
noncomputable def owners:List String:=["enumerate","zip","dict_itemiterator","dict_reverseitemiterator","odict_iterator","itertools.zip_longest","itertools.pairwise"]
noncomputable def Quiet(s:Shared)(I:Addr):Prop:=∃o T,s.heap.get? I=some o/\o.cls= .type T/\owners.contains T=false
inductive Sm(P:Pk)(hid:List Addr)(x:V)(St:List Addr->Nat->Shared->Prop)(i:Nat)(I:Addr)(W:List Addr)(gi:Option Nat)(s s':Shared)(r:Option Value):Prop
 |mk (v:Value) (e:r=some v) (d:Dn P s'.heap hid x v) (st:St hid i s') (q:Quiet s' I) (mv:Mv W gi s s'):Sm P hid x St i I W gi s s' r
structure ro(P:Pk)(A:Around)(I:Addr)(W:List Addr)(gi:Option Nat)(xs:List V)(St:List Addr->Nat->Shared->Prop):Prop where
 frame:∀hid ar i s s',(∀a∈W,a∈hid)->St hid i s->Ks W hid ar s s'->St ar i s'
 self:∀hid i s (Q:Value->Shared->Prop) (E:Value->Shared->Prop),St hid i s->Q (.ref I) s->wpAny (model P.prog P.w) A (pyIter (.ref I)) Q E s
 item:∀hid i s x (E:Value->Shared->Prop),xs[i]?=some x->(∀a∈W,a∈hid)->P.G s.heap->cD s.heap hid->St hid i s->
  wpAny (model P.prog P.w) A (pyNext (.ref I)) (fun r s'=>Sm P hid x St (i+1) I W gi s s' r) E s
 done:∀hid s (E:Value->Shared->Prop),(∀a∈W,a∈hid)->P.G s.heap->cD s.heap hid->St hid xs.length s->wpAny (model P.prog P.w) A (pyNext (.ref I)) (fun r s'=>r=none/\Mv0 W gi s s') E s
theorem Ab{M:Model}{A:Around}{E:Value->Shared->Prop}{s:Shared}{target:Expr}{I:Addr}{v:Value}{Q:Unit->Shared->Prop}(h:Quiet s I)(hQ:Q () s):wpAny M A (letOwnedTupleGo target (.ref I) v) Q E s:=by
 obtain⟨o,T,ho,hc,hT⟩:=h;unfold letOwnedTupleGo;have aux:wpAny M A (do
   let(.ref r,.ref a):=(Value.ref I,v)|return
   let o <-load r
   match o.cls,o.data with
   | .type n,.fields vs=>
     if owners.contains n&&vs[0]?==some (rawInt a)then
      rule "for.unpacks-the-owned-tuple"
      updateField r 0 .none
   |_,_=>pure ():Sem Unit) Q E s:=by
  cases v<;>try exact bK hQ
  refine aA (wpAny_load ho ?_);rw[hc];cases hd:o.data<;>try exact bK hQ
  dsimp only;rw[hT];exact bK hQ
 cases target<;>first|exact aux|exact bK hQ
inductive Rz(P:Pk)(K:Cx)(lc:Bool)(env:Env)(out hid:List Addr)(B s s':Shared)(aQ:ao):Prop
 |mk (ar:List Addr) (m':Str->Option Value) (S:aU P K env out ar m' B s' aQ) (k:Ks out hid ar s s') (l:lc=true->∀b o,b≠env.locals->s.heap.get? b=some o->s'.heap.get? b=some o):Rz P K lc env out hid B s s' aQ
theorem Rz.pre{lc:Bool}{env:Env}{out hid du:List Addr}{B s s₁ s':Shared}{aQ:ao}(q:Rz P K lc env out du B s₁ s' aQ)(k:Ks out hid du s s₁)(l:lc=true->∀b o,b≠env.locals->s.heap.get? b=some o->s₁.heap.get? b=some o):Rz P K lc env out hid B s s' aQ:=by
 obtain⟨a,b,c,d,e⟩:=q;exact⟨a,b,c,k.trans d,fun h b o hb q=>e h b o hb (l h b o hb q)⟩
noncomputable def Et(P:Pk)(K:Cx)(lc:Bool)(t:Expr)(a:ao->V->Option ao):Prop:=
 ∀(A:Around) (env:Env) (out hid:List Addr) (m:Str->Option Value) (B s:Shared) (ρ aQ:ao) (x:V) (v:Value) (E:Value->Shared->Prop),A.handled=none->aU P K env out hid m B s ρ->a ρ x=some aQ->Dn P s.heap hid x v->
  wpAny (model P.prog P.w) A (assign t env v) (fun ø s'=>Rz P K lc env out hid B s s' aQ) E s
theorem aB{lc:Bool}(i:Nat){x:Str}{k:NameKind}{p:Pos}(hi:K.vars[i]?=some (x,k,false))(nM:k≠ .free)(WT:lc=true->k= .local):Et P K lc (.Name x p) fun ρ y=>some (upd ρ i y):=fun A env out hid m B s ρ aQ y v E hh S hf hv=>by
 cases hf;exact lI (S.store hi hv (fun q=>by cases q) nM fun m' s' S' K' hl=>⟨hid,m',S',K',fun e=>hl.1 (WT e)⟩)
noncomputable def HC(P:Pk)(K:Cx)(lc:Bool)(ts:List Expr)(a:ao->List V->Option ao):Prop:=
 ∀(A:Around) (env:Env) (out hid:List Addr) (m:Str->Option Value) (B s:Shared) (ρ aQ:ao) (xs:List V) (vs:List Value) (E:Value->Shared->Prop),A.handled=none->aU P K env out hid m B s ρ->a ρ xs=some aQ->bd P s.heap hid xs vs->
  wpAny (model P.prog P.w) A (assignInOrder (ts.map fun t=>assign t env) vs) (fun ø s'=>Rz P K lc env out hid B s s' aQ) E s
noncomputable def NH:ao->List V->Option ao:=fun ρ xs=>match xs with|[]=>some ρ|_=>none
noncomputable def HD(a:ao->V->Option ao)(b:ao->List V->Option ao):ao->List V->Option ao:=fun ρ xs=>match xs with|x::xs=>(a ρ x).bind fun aQ=>b aQ xs|[]=>none
theorem eH{lc:Bool}:HC P K lc [] NH:=fun A env out hid m B s ρ aQ xs vs E hh S hf hv=>by
 cases xs with
 |nil=>
  cases hf;obtain rfl:=bd.nil_inv hv;exact wpAny_assignInOrder_none ⟨hid,m,S,.refl ..,fun ø ø ø ø h=>h⟩
 |cons=>cases hf
theorem bh{lc:Bool}{t:Expr}{ts:List Expr}{a b}(h:Et P K lc t a)(hs:HC P K lc ts b):HC P K lc (t::ts) (HD a b):=fun A env out hid m B s ρ aQ xs vs E hh S hf hv=>by
 cases xs with
 |nil=>cases hf
 |cons x xs=>
  refine ak hf ?_;rintro am h1 h2;obtain⟨v,r,rfl,hv1,WU⟩:=bd.cons_inv hv;refine wpAny_assignInOrder_more (aD (h A env out hid m B s ρ am x v E hh S h1 hv1) (fun ø s₁ q=>?_) fun ø ø q=>q);obtain⟨du,m₁,bC,jp,WV⟩:=q;exact aD (hs A env out du m₁ B s₁ am aQ xs r E hh bC h2 (WU.ks jp)) (fun ø s₂ q=>q.pre jp WV) fun ø ø q=>q
theorem fm:∀ρ xs aQ,NH ρ xs=some aQ->xs.length=0:=fun ρ xs aQ h=>by cases xs<;>first|rfl|cases h
theorem bA{a b k}(hb:∀ρ xs aQ,b ρ xs=some aQ->xs.length=k):∀ρ xs aQ,HD a b ρ xs=some aQ->xs.length=k+1:=fun ρ xs aQ h=>by
 cases xs with
 |nil=>cases h
 |cons x xs=>
  refine ak h ?_;rintro am _ h2;simp[hb _ _ _ h2]
noncomputable def Sn(b:ao->List V->Option ao):ao->V->Option ao:=fun ρ x=>x.Sc.bind (b ρ)
theorem fo{lc:Bool}{ts:List Expr}{k:Nat}{p:Pos}{b}(h:HC P K lc ts b)(hl:∀ρ xs aQ,b ρ xs=some aQ->xs.length=ts.length)(he:∀env,assignEach ts env=ts.map fun t=>(false,assign t env)):Et P K lc (.Tuple ts k p) (Sn b):=
 fun A env out hid m B s ρ aQ x v E hh S hf hv=>by
 refine ak hf fun l l7 hf=>?_
 cases V.Hp l7;obtain⟨a,vs,rfl,ha,ht,hd⟩:=hv.om;refine Cr hh ht.x7 ?_ ?_ fun h' hx=>?_
 ·rw[he,List.length_map,cb,hd.length,hl _ _ _ hf]
 ·rw[he]
  rw[List.findIdx?_eq_none_iff];intro q hq;obtain⟨t,_,rfl⟩:=dt.mp hq;rfl
 ·have e:(assignEach ts env).map (·.2)=ts.map fun t=>assign t env:=by rw[he];simp
  rw[e];have k1:Kp s {s with heap:=h'}:=.heap fun b o q=>hx b o (fun z=>by rw[z,bE]at q;cases q) q
  refine aD (h A env out hid m B {s with heap:=h'} ρ aQ l vs E hh (S.after k1) hf (hd.kp k1)) (fun ø s₂ q=>q.pre (Ks.iO k1) fun ø b o ø q=>k1.keep b o q) fun ø ø q=>q
inductive So(P:Pk)(A:Around)(hid:List Addr)(xs:List V)(s s₂:Shared)(it:Value):Prop
 |mk (I:Addr) (W:List Addr) (gi:Option Nat) (St:List Addr->Nat->Shared->Prop) (e:it= .ref I) (k:Kp s s₂) (h:ro P A I W gi xs St) (f:∀a∈W,s.heap.get? a=none) (l:cD s₂.heap W) (g:∀g,gi=some g->s.gens.size<=g) (st:St (W++hid) 0 s₂):So P A hid xs s s₂ it
noncomputable def LD(P:Pk)(n:Nat)(K:Cx)(e:Expr)(f:ao->Option (List V)):Prop:=
 ∀(A:Around) (env:Env) (out hid:List Addr) (m:Str->Option Value) (B s:Shared) (ρ:ao) (xs:List V) (E:Value->Shared->Prop),cJ n A->aU P K env out hid m B s ρ->f ρ=some xs->
  wpAny (model P.prog P.w) A (eval e env) (fun v s₁=>wpAny (model P.prog P.w) A (pyIter v) (fun it s₂=>So P A hid xs s s₂ it) E s₁) E s
noncomputable def gz(asg:ao->V->Option ao)(body:ao->Option (ao×Fl)):List V->ao->Option (ao×Fl)
 |[],ρ=>some (ρ,.next)
 |x::xs,ρ=>(asg ρ x).bind fun am=>(body am).bind fun r=>match r.2 with
  | .next| .cont=>gz asg body xs r.1
  | .brk=>some (r.1,.next)
  | .ret v=>some (r.1,.ret v)
theorem uf(asg:ao->V->Option ao)(body:ao->Option (ao×Fl))(x:V)(xs:List V)(ρ:ao):gz asg body (x::xs) ρ=(asg ρ x).bind fun am=>(body am).bind fun r=>match r.2 with
 | .next| .cont=>gz asg body xs r.1
 | .brk=>some (r.1,.next)
 | .ret v=>some (r.1,.ret v):=rfl
noncomputable def LE(it:ao->Option (List V))(asg:ao->V->Option ao)(body:ao->Option (ao×Fl)):ao->Option (ao×Fl):=fun ρ=>(it ρ).bind fun xs=>gz asg body xs ρ
theorem aU.HE{env:Env}{out hid W X:List Addr}{m}{B s:Shared}{ρ}(S:aU P K env out hid m B s ρ){s':Shared}(k:Kp s s')(hW:∀a∈W,s.heap.get? a=none)(lW:cD s'.heap W)(hX:∀a∈X,s.heap.get? a=none)(lX:cD s'.heap X):aU P K env (W++out) (W++(X++hid)) m B s' ρ:=by
 have hn:∀a,a∈hid->a∉W:=fun a h q=>by obtain⟨o,e⟩:=S.live a h;rw[hW a q]at e;cases e
 have toB:∀a,s.heap.get? a=none->B.heap.get? a=none:=fun a h=>by
  cases e:B.heap.get? a with
  |none=>rfl
  |some o=>rw[S.kp.keep a o e]at h;cases h
 exact S.map (fun a h=>(bZ.mp h).elim (lW a) fun h=>(bZ.mp h).elim (lX a) (S.live.kp k a)) (fun a h=>(bZ.mp h).elim (fun q=>cP _ q) fun q=>ck _ (ck _ (S.oh a q)))
  (S.ns.keeps k.keep) (S.kp.trans k) (fun a h ho=>(bZ.mp h).elim (fun q=>absurd (cP _ q) ho) fun h=>(bZ.mp h).elim (fun q=>toB a (hX a q)) fun q=>S.own a q fun z=>ho (ck _ z))
  (fun a h ho=>⟨ck _ (ck _ h),fun q=>(bZ.mp q).elim (hn a h) ho,k.keep a⟩) (fun a o ø e=>k.keep a o e)
  fun a h=>(bZ.mp h).elim (fun q=>.inr (hW a q)) fun h=>(bZ.mp h).elim (fun q=>.inr (hX a q)) .inl
theorem aU.outer{env:Env}{out hid W:List Addr}{m}{B s:Shared}{ρ}(S:aU P K env out hid m B s ρ){s':Shared}(k:Kp s s')(hW:∀a∈W,s.heap.get? a=none)(lW:cD s'.heap W):aU P K env (W++out) (W++hid) m B s' ρ:=
 S.HE (X:=[]) k hW lW (fun a h=>nomatch h) fun a h=>nomatch h
theorem aU.inner{env:Env}{out hid W:List Addr}{m}{B s:Shared}{ρ}(S:aU P K env (W++out) hid m B s ρ)(hW:∀a∈W,B.heap.get? a=none):aU P K env out hid m B s ρ:=
 S.map S.live (fun a h=>S.oh a (ck _ h)) S.ns S.kp (fun a h ho=>by
  by_cases q:a∈W
  ·exact hW a q
  ·exact S.own a h fun z=>(bZ.mp z).elim q ho) (fun a h ho=>⟨h,fun q=>ho (ck _ q),fun ø e=>e⟩) (fun ø ø ø e=>e) fun ø h=>.inl h
theorem Eu{W:List Addr}{gi:Option Nat}{g0:Array GenState}{s s':Shared}(v:Mv0 W gi s s')(hg:∀g,gi=some g->g0.size<=g)(k:GX g0 s.gens):GX g0 s'.gens:=
 ⟨fun i x h=>v.gens i x (fun e=>by
  have:=hg i e;have:i<g0.size:=(xH.mp h).1;omega) (k.1 i x h),fun h=>v.bare (k.2 h)⟩
theorem GX.size{g g':Array GenState}(h:GX g g'):g.size<=g'.size:=
 tA fun h1=>gv _ (xH.mp (h.1 g'.size g[g'.size] (xI h1))).1
theorem aU.step{env:Env}{out hid W:List Addr}{gi:Option Nat}{m}{B s s':Shared}{ρ}(S:aU P K env out hid m B s ρ)(RA:∀a∈W,a∈out)(v:Mv W gi s s')(hW:∀a∈W,B.heap.get? a=none)(hg:∀g,gi=some g->B.gens.size<=g):aU P K env out hid m B s' ρ:=
 have Cj:∀a∈W,a∈hid:=fun a h=>S.oh a (RA a h)
 S.map (fun a h=>by
  by_cases q:a∈W
  ·exact v.live a q
  ·obtain⟨o,ho⟩:=S.live a h
   exact⟨o,v.keep a o q ho⟩) S.oh (S.ns.elim fun o q=>q.elim fun es q=>q.elim fun ep q=>⟨o,es,ep,v.keep _ o (fun z=>S.Lo (RA _ z)) q.1,q.2⟩)
  ⟨fun b o h=>v.keep b o (fun z=>by rw[hW b z]at h;cases h) (S.kp.keep b o h),Eu v.toMv0 hg S.kp.gens,v.os.trans S.kp.os⟩ S.own (fun a h ho=>⟨h,ho,fun o=>v.keep a o fun z=>ho (RA a z)⟩) (fun a o h=>v.keep a o fun z=>h (Cj a z)) fun ø h=>.inl h
theorem Ks.mv{out ma hid W:List Addr}{gi:Option Nat}{bn s s':Shared}(k:Ks out ma hid bn s)(v:Mv0 W gi s s')(hW:∀a∈W,bn.heap.get? a=none)(hg:∀g,gi=some g->bn.gens.size<=g):Ks out ma hid bn s' where
 keep:=fun b o hb h=>v.keep b o (fun z=>by rw[hW b z]at h;cases h) (k.keep b o hb h)
 new:=k.new
 sub:=k.sub
 gens:=Eu v hg k.gens
 os:=v.os.trans k.os
theorem aU.last{env:Env}{out hid W:List Addr}{gi:Option Nat}{m}{B s s':Shared}{ρ}(S:aU P K env (W++out) hid m B s ρ)(v:Mv0 W gi s s')(hW:∀a∈W,B.heap.get? a=none)(hg:∀g,gi=some g->B.gens.size<=g)(WW:∀a∈out,a∉W):
  aU P K env out (hid.filter fun a=>!W.contains a) m B s' ρ:=by
 have mem:∀a,a∈hid.filter (fun a=>!W.contains a)<->a∈hid/\a∉W:=fun a=>by simp[gw]
 have Cj:∀a∈W,a∈hid:=fun a h=>S.oh a (cP _ h)
 have hLW:env.locals∉W:=fun z=>S.Lo (cP _ z)
 exact S.map (fun a h=>(S.live a ((mem a).mp h).1).elim fun o ho=>⟨o,v.keep a o ((mem a).mp h).2 ho⟩) (fun a h=>(mem a).mpr ⟨S.oh a (ck _ h),WW a h⟩)
  (S.ns.elim fun o q=>q.elim fun es q=>q.elim fun ep q=>⟨o,es,ep,v.keep _ o hLW q.1,q.2⟩)
  ⟨fun b o h=>v.keep b o (fun z=>by rw[hW b z]at h;cases h) (S.kp.keep b o h),Eu v hg S.kp.gens,v.os.trans S.kp.os⟩ (fun a h ho=>S.own a ((mem a).mp h).1 fun z=>(bZ.mp z).elim ((mem a).mp h).2 ho)
  (fun a h ho=>⟨(mem a).mpr ⟨h,fun z=>ho (cP _ z)⟩,fun q=>ho (ck _ q),fun o=>v.keep a o fun z=>ho (cP _ z)⟩) (fun a o h=>v.keep a o fun z=>h (Cj a z)) fun a h=>.inl ((mem a).mp h).1
theorem Ks.last{out ma hid W:List Addr}{bn s:Shared}(k:Ks out ma hid bn s)(hW:∀a∈W,a∉ma):Ks out ma (hid.filter fun a=>!W.contains a) bn s where
 keep:=k.keep
 new:=fun a h=>k.new a (gw.mp h).1
 sub:=fun a h=>gw.mpr ⟨k.sub a h,by have:a∉W:=fun z=>hW a z h;simp[this]⟩
 gens:=k.gens
 os:=k.os
theorem Ks.only{out W hid ar s s'}(k:Ks out hid ar s s')(h:∀a∈W,a∈out):Ks W hid ar s s':=⟨fun b o hb q=>k.keep b o (hb.imp id (h b)) q,k.new,k.sub,k.gens,k.os⟩
theorem Ks.behind{out ma hid ar W:List Addr}{bn s s':Shared}(k:Ks out ma hid bn s)(v:Ks (W++out) hid ar s s'):Ks out ma ar bn s':=
 k.trans ⟨fun b o hb h=>v.keep b o (hb.imp id fun q=>ck _ q) h,v.new,v.sub,v.gens,v.os⟩
theorem aU.fresh{env:Env}{out hid:List Addr}{m}{B s:Shared}{ρ}(S:aU P K env out hid m B s ρ){a:Addr}(h:s.heap.get? a=none):B.heap.get? a=none:=by
 induction e:B.heap.get? a with
 |none=>rfl
 |some o=>exact nomatch(S.kp.keep a o e).symm.trans h
noncomputable def FE(P:Pk)(A:Around)(E:Value->Shared->Prop)(env:Env):Value->Shared->Prop:=notedBy (model P.prog P.w) A env fun e s'=>cameBackBy (model P.prog P.w) A env E e s'
noncomputable def FB(Q:Flow->Shared->Prop)(J:Shared->Prop)(f:Flow)(s:Shared):Prop:=match f with
 | .next| .cont=>J s
 | .brk=>Q .next s
 | .ret v=>Q (.ret v) s
noncomputable def FA(P:Pk)(A:Around)(E:Value->Shared->Prop)(env:Env)(Q:Flow->Shared->Prop)(target:Expr)(body:List Stmt)(J:Shared->Prop)(v:Value)(_:Unit)(s:Shared):Prop:=
 wpAny (model P.prog P.w) A (assign target env v) (fun ø=>wpAny (model P.prog P.w) A (execs body env) (FB Q J) (FE P A E env)) (FE P A E env) s
noncomputable def FT(P:Pk)(A:Around)(E:Value->Shared->Prop)(env:Env)(Q:Flow->Shared->Prop)(target:Expr)(body:List Stmt)(J:Shared->Prop)(it:Value)(r:Option Value)(s:Shared):Prop:=
 r.elim (Q .next s) fun v=>wpAny (model P.prog P.w) A (letOwnedTupleGo target it v) (FA P A E env Q target body J v) (FE P A E env) s
inductive FG(P:Pk)(A:Around)(E:Value->Shared->Prop)(env:Env)(Q:Flow->Shared->Prop)(target:Expr)(body:List Stmt)(it:Value)(s:Shared):Prop
 |mk (I:Nat->Shared->Prop) (n:Nat) (h:I n s) (turn:∀n s,I n s->wpAny (model P.prog P.w) A (pyNext it) (FT P A E env Q target body (fun t=>∃m,m<n/\I m t) it) (FE P A E env) s):FG P A E env Q target body it s
theorem HF{A:Around}{E:Value->Shared->Prop}{env:Env}{Q:Flow->Shared->Prop}{target iter:Expr}{body:List Stmt}{pos:Pos}{s:Shared}(hs:∀x,foldedSetIterable iter env x=pure x)
  (h:wpAny (model P.prog P.w) A (eval iter env) (fun v s₁=>wpAny (model P.prog P.w) A (pyIter v) (FG P A E env Q target body) E s₁) E s):wpAny (model P.prog P.w) A (exec (.For target iter body [] pos) env) Q E s:=by
 refine wpAny_For (aD h (fun v s₁ aj=>aD aj (fun it s₂ aM=>?_) fun ø ø q=>q) fun ø ø q=>q) hs;obtain⟨I,n,h,turn⟩:=aM;refine codeAny_forLoop_any I (fun n s hI=>aD (turn n s hI) (fun r s₁ aj=>?_) fun ø ø q=>q) n h
 induction r with
 |none=>exact wpAny_execs_nil aj
 |some v=>exact aD aj (fun ø s₂ aM=>aD aM (fun ø s₃ eu=>aD eu (fun f km yd=>by cases f<;>exact yd) fun ø ø q=>q) fun ø ø q=>q) fun ø ø q=>q
end
section
variable{P:Pk}{n:Nat}{K:Cx}{lo:Bool}
theorem ro.of{A:Around}{I:Addr}{fp:List Addr}{xs:List V}{Pp:Nat->Value->Prop}{WY:Nat->Heap->Prop}(W:Walks P.prog P.w A I fp [I] xs.length Pp WY)(R:List Addr->Shared->Prop)
  (hR:∀out hid ar s s',Ks out hid ar s s'->R hid s->R ar s') (hR2:∀hid s h' tk,(∀b o,b≠I->s.heap.get? b=some o->h'.get? b=some o)->I∈hid->R hid s->R hid {s with heap:=h',toks:=tk})
  (rel:∀hid i x v s,R hid s->xs[i]?=some x->Pp i v->Dn P s.heap hid x v) (cls:∀i h,WY i h->∃o T,h.get? I=some o/\o.cls= .type T/\owners.contains T=false):
  ro P A I [I] none xs (fun hid i s=>WY i s.heap/\R hid s/\(∀b∈fp,b≠I->b∉hid/\∃o,s.heap.get? b=some o)/\I∈hid)where
 frame:=fun hid ar i s s' hh ⟨h1,h2,h3,h4⟩ k=>by
  refine⟨W.frame i _ _ h1 fun b hb o e=>k.keep b o ?_ e,hR _ hid ar s s' k h2,fun b hb cZ=>⟨fun hm=>?_,?_⟩,k.sub I h4⟩
  ·by_cases q:b=I
   ·exact .inr (by simp[q])
   ·exact .inl (h3 b hb q).1
  ·obtain⟨z,o,e⟩:=h3 b hb cZ
   exact(k.new b hm).elim z fun w=>by rw[e]at w;cases w
  ·obtain⟨z,o,e⟩:=h3 b hb cZ
   exact⟨o,k.keep b o (.inl z) e⟩
 self:=fun hid i s Q E ⟨h1,_⟩ hQ=>W.self i s Q E h1 hQ
 item:=fun hid i s x E hx hW hG live ⟨h1,h2,h3,h4⟩=>by
  have hi:i<xs.length:=by
   by_cases q:i<xs.length
   ·exact q
   ·rw[nu (by omega)]at hx;cases hx
  refine W.item i s _ E hi h1 fun v h' tk hv st hk=>?_
  have Lj:∀b o,b≠I->s.heap.get? b=some o->h'.get? b=some o:=fun b o hb e=>hk b o (by simpa using hb) e
  have r2:=hR2 hid s h' tk Lj h4 h2;obtain⟨o,T,c1,c2,c3⟩:=cls (i+1) h' st;refine⟨v,rfl,rel hid i x v {s with heap:=h',toks:=tk} r2 hx hv,⟨st,r2,fun b hb cZ=>⟨(h3 b hb cZ).1,let⟨o,e⟩:=(h3 b hb cZ).2;⟨o,Lj b o cZ e⟩⟩,h4⟩,⟨o,T,c1,c2,c3⟩,⟨⟨fun b o hb e=>Lj b o (by simpa using hb) e,fun i x ø e=>e,id,rfl⟩,fun a ha=>?_⟩⟩;obtain rfl:a=I:=by simpa using ha
  exact⟨o,c1⟩
 done:=fun hid s E hW hG live ⟨h1,h2,h3,h4⟩=>by
  refine W.done s _ E h1 fun h' tk hk=>⟨rfl,fun b o hb e=>hk b o hb e,fun i x ø e=>e,id,rfl⟩
theorem bd.other{hid:List Addr}{s:Shared}{h':Heap}{I:Addr}{xs:List V}{vs:List Value}(e:bd P s.heap hid xs vs)(hI:I∈hid)(hk:∀b o,b≠I->s.heap.get? b=some o->h'.get? b=some o):bd P h' hid xs vs:=
 e.grow (fun a o ha q=>hk a o (fun z=>ha (z▸hI)) q) fun a h=>.inl h
theorem ro.list{A:Around}(hh:A.handled=none){I ax:Addr}(cZ:ax≠I){xs:List V}{vs:List Value}(hl:vs.length=xs.length):
  ro P A I [I] none xs (fun hid i s=>(s.heap.IsListIter I ax i/\s.heap.IsList ax vs.toArray)/\bd P s.heap hid xs vs/\(∀b∈[I,ax],b≠I->b∉hid/\∃o,s.heap.get? b=some o)/\I∈hid):=by
 have W:=Walks.list (prog:=P.prog) (w:=P.w) hh I ax cZ vs.toArray;rw[cb,hl]at W;refine ro.of W (fun hid s=>bd P s.heap hid xs vs) (fun out hid ar s s' k h=>bd.ks (P:=P) h k) (fun hid s h' tk hk hI h=>bd.other (P:=P) h hI hk) (fun hid i x v s hd hx hv=>?_) fun i h st=>?_
 ·obtain⟨u,hu,hr⟩:=bq.get hd hx
  have hv:vs[i]?=some v:=by simpa using hv
  rw[hu]at hv;cases hv;exact hr
 ·obtain⟨⟨o,ho,hc,_⟩,_⟩:=st
  exact⟨o,"list_iterator",ho,hc,by decide⟩
theorem ro.tuple{A:Around}(hh:A.handled=none){I ax:Addr}(cZ:ax≠I){xs:List V}{vs:List Value}(hl:vs.length=xs.length):
  ro P A I [I] none xs (fun hid i s=>(s.heap.IsTupleIter I ax i/\s.heap.IsTuple ax vs.toArray)/\bd P s.heap hid xs vs/\(∀b∈[I,ax],b≠I->b∉hid/\∃o,s.heap.get? b=some o)/\I∈hid):=by
 have W:=Walks.tuple (prog:=P.prog) (w:=P.w) hh I ax cZ vs.toArray;rw[cb,hl]at W;refine ro.of W (fun hid s=>bd P s.heap hid xs vs) (fun out hid ar s s' k h=>bd.ks (P:=P) h k) (fun hid s h' tk hk hI h=>bd.other (P:=P) h hI hk) (fun hid i x v s hd hx hv=>?_) fun i h st=>?_
 ·obtain⟨u,hu,hr⟩:=bq.get hd hx
  have hv:vs[i]?=some v:=by simpa using hv
  rw[hu]at hv;cases hv;exact hr
 ·obtain⟨⟨o,ho,hc,_⟩,_⟩:=st
  exact⟨o,"tuple_iterator",ho,hc,by decide⟩
noncomputable def elems:V->Option (List V)
 | .list l=>some l
 | .tup l=>some l
 | .str l=>some (l.map fun c=>.str [c])
 |_=>none
set_option tactic.hygienic true in
theorem dH{e:Expr}{f}(h:eo P n K false e f):LD P n K e (fun ρ=>(f ρ).bind elems):=fun A env out hid m B s ρ xs E rm S hf=>by
 refine ak hf fun x hx gu=>?_
 clear hf;rename _=>hf
 refine aD (h A env out hid m B s ρ x E rm S hx) (fun v s₁ aj=>?_) fun ø ø q=>q
 have bC:=S.after aj.1;have jr:s.heap.get? s₁.heap.objs.size=none:=by
  cases e:s.heap.get? s₁.heap.objs.size with
  |none=>rfl
  |some o=>have:=aj.1.keep _ _ e;rw[bE]at this;cases this
 have nh:s₁.heap.objs.size∉hid:=sW bC.live;cases x<;>simp only[elems]at hf<;>try cases hf
 ·rename_i l
  obtain⟨t,rfl⟩:=aj.2.str_inv;have sj:(pyStr l).cps.size=(l.map fun c=>V.str [c]).length:=by simp
  have rel:∀hid i x v (s:Shared),True->(l.map fun c=>V.str [c])[i]?=some x->SignAt (pyStr l) i v->Dn P s.heap hid x v:=fun hid i x v s ø hx hv=>by
   obtain⟨c,u,hc,rfl⟩:=hv;rw[dh]at hx;have LF:l[i]?=some c:=by simpa using hc
   rw[LF]at hx;cases hx;exact .ofStr [c] u
  cases ha:(pyStr l).cps.all (· <128)
  ·have W:=Walks.strWide (prog:=P.prog) (w:=P.w) rm.handled s₁.heap.objs.size (pyStr l) t
   rw[sj]at W;refine wpAny_pyIter_wide ha ⟨s₁.heap.objs.size,[s₁.heap.objs.size],none,_,rfl,aj.1.trans (Kp.push s₁ _ _),ro.of W (fun ø ø=>True) (fun ø ø ø ø ø ø ø=>trivial) (fun ø ø ø ø ø ø ø=>trivial) rel (fun i h st=>?_),fun b hb=>?_,fun b hb=>?_,fun g q=>(nomatch q),?_⟩
   ·obtain⟨o,ho,hc,_⟩:=st
    exact⟨o,"str_iterator",ho,hc,by decide⟩
   ·obtain rfl:b=s₁.heap.objs.size:=by simpa using hb
    exact jr
   ·obtain rfl:b=s₁.heap.objs.size:=by simpa using hb
    exact⟨_,bJ _ rfl⟩
   ·refine⟨⟨_,bJ _ rfl,rfl,rfl⟩,trivial,fun b hb zV=>absurd (by simpa using hb) zV,by simp⟩
  ·have W:=Walks.strAscii (prog:=P.prog) (w:=P.w) rm.handled s₁.heap.objs.size (pyStr l) t
   rw[sj]at W;refine wpAny_pyIter_ascii ha ⟨s₁.heap.objs.size,[s₁.heap.objs.size],none,_,rfl,aj.1.trans (Kp.push s₁ _ _),ro.of W (fun ø ø=>True) (fun ø ø ø ø ø ø ø=>trivial) (fun ø ø ø ø ø ø ø=>trivial) rel (fun i h st=>?_),fun b hb=>?_,fun b hb=>?_,fun g q=>(nomatch q),?_⟩
   ·obtain⟨o,ho,hc,_⟩:=st
    exact⟨o,"str_ascii_iterator",ho,hc,by decide⟩
   ·obtain rfl:b=s₁.heap.objs.size:=by simpa using hb
    exact jr
   ·obtain rfl:b=s₁.heap.objs.size:=by simpa using hb
    exact⟨_,bJ _ rfl⟩
   ·refine⟨⟨_,bJ _ rfl,rfl,rfl⟩,trivial,fun b hb zV=>absurd (by simpa using hb) zV,by simp⟩
 ·obtain⟨a,vs,rfl,ha,ht,hd⟩:=aj.2.om
  have cZ:a≠s₁.heap.objs.size:=fun e=>by obtain⟨k,z⟩:=ht;rw[e,bE]at z;cases z
  refine wpAny_pyIter_tuple ht.x7 ⟨s₁.heap.objs.size,[s₁.heap.objs.size],none,_,rfl,aj.1.trans (Kp.push s₁ _ _),ro.tuple rm.handled cZ hd.length,fun b hb=>?_,fun b hb=>?_,fun g q=>(nomatch q),?_⟩
  ·obtain rfl:b=s₁.heap.objs.size:=by simpa using hb
   exact jr
  ·obtain rfl:b=s₁.heap.objs.size:=by simpa using hb
   exact⟨_,bJ _ rfl⟩
  ·refine⟨⟨⟨_,bJ _ rfl,rfl,rfl⟩,ht.x7.push _⟩,?_,fun b hb zV=>?_,by simp⟩
   ·exact bd.grow (P:=P) hd (fun a o ø q=>bz _ q) fun b hb=>by
     rcases bZ.mp hb with q|q
     ·right;obtain rfl:b=s₁.heap.objs.size:=by simpa using q
      exact bE _
     ·exact .inl q
   ·have:b=a:=by
     rcases bI.mp hb with q|q
     ·exact absurd q zV
     ·simpa using q
    subst this;obtain⟨k,z⟩:=ht;exact⟨fun q=>(bZ.mp q).elim (fun w=>zV (by simpa using w)) ha,_,bz _ z⟩
 ·obtain⟨a,vs,rfl,ha,ht,hd⟩:=aj.2.cK
  have cZ:a≠s₁.heap.objs.size:=fun e=>by obtain⟨k,z⟩:=ht;rw[e,bE]at z;cases z
  refine tB ht.isList ⟨s₁.heap.objs.size,[s₁.heap.objs.size],none,_,rfl,aj.1.trans (Kp.push s₁ _ _),ro.list rm.handled cZ hd.length,fun b hb=>?_,fun b hb=>?_,fun g q=>(nomatch q),?_⟩
  ·obtain rfl:b=s₁.heap.objs.size:=by simpa using hb
   exact jr
  ·obtain rfl:b=s₁.heap.objs.size:=by simpa using hb
   exact⟨_,bJ _ rfl⟩
  ·refine⟨⟨⟨_,bJ _ rfl,rfl,rfl⟩,ht.isList.at fun o q=>bz _ q⟩,?_,fun b hb zV=>?_,by simp⟩
   ·exact bd.grow (P:=P) hd (fun a o ø q=>bz _ q) fun b hb=>by
     rcases bZ.mp hb with q|q
     ·right;obtain rfl:b=s₁.heap.objs.size:=by simpa using q
      exact bE _
     ·exact .inl q
   ·have:b=a:=by
     rcases bI.mp hb with q|q
     ·exact absurd q zV
     ·simpa using q
    subst this;obtain⟨k,z⟩:=ht;exact⟨fun q=>(bZ.mp q).elim (fun w=>zV (by simpa using w)) ha,_,bz _ z⟩
noncomputable def eZ(a:Int):Bool:=decide (-1000000<=a)&&decide (a<=1000000)
noncomputable def NI(a b c:Int):List V:=(List.range (Builtin.Range.rangeSize a b c).toNat).map fun(i:Nat)=>.int (a+(i:Int)*c)
noncomputable def oy:List V->Option (List V)
 |[x]=>x.int?.bind fun b=>if eZ b=true then some (NI 0 b 1)else none
 |[x,y]=>qK V.int? V.int? (fun a b=>if(eZ a&&eZ b)=true then some (NI a b 1)else none) x y
 |[x,y,z]=>x.int?.bind fun a=>qK V.int? V.int? (fun b c=>if(eZ a&&eZ b&&c== -1)=true then some (NI a b (-1))else none) y z
 |_=>none
theorem HG(b:Int):oy [.int b]=if eZ b=true then some (NI 0 b 1)else none:=id rfl
theorem ug(a b:Int):oy [.int a,.int b]=if(eZ a&&eZ b)=true then some (NI a b 1)else none:=id rfl
theorem js{a:Int}(h:eZ a=true): -1000000<=a/\a<=1000000:=by
 rw[eZ,bX,mS,mS]at h;exact h
theorem Ac{a b:Int}(h: -1000000<=a/\a<=1000000)(h': -1000000<=b/\b<=1000000):Builtin.Range.small a b 1=true:=
 small_one (by omega) (by omega) (by omega) (by omega)
theorem Ad(a b:Int):((Builtin.Range.rangeSize a b 1).toNat:Int)=Builtin.Range.rangeSize a b 1:=by
 rw[rangeSize_one];split<;>omega
theorem wm(a b:Int):Builtin.Range.rangeSize a b (-1)=if a>b then a-b else 0:=by
 unfold Builtin.Range.rangeSize;rw[au (by omega)];split
 ·simp only[Int.neg_neg,Int.ediv_one];omega
 ·rfl
theorem FI{a b:Int}(h: -1000000<=a/\a<=1000000)(h': -1000000<=b/\b<=1000000):Builtin.Range.small a b (-1)=true:=
 small_down (by omega) (by omega) (by omega) (by omega)
theorem HH(a b:Int):((Builtin.Range.rangeSize a b (-1)).toNat:Int)=Builtin.Range.rangeSize a b (-1):=by
 rw[wm];split<;>omega
theorem pY{A:Around}{E:Value->Shared->Prop}{s:Shared}{xs l:List V}{vs:List Value}{hid:List Addr}(hd:bd P s.heap hid xs vs)(hf:oy xs=some l){Q:Value->Shared->Prop}
  (h:∀(a b c:Int) (t u v:Tok) (k:Nat) s',l=(List.range k).map (fun(i:Nat)=>V.int (a+(i:Int)*c))->(k:Int)=Builtin.Range.rangeSize a b c->Builtin.Range.small a b c=true->IsRange s'.heap s.heap.objs.size a b c t u v->Kp s s'->Q (.ref s.heap.objs.size) s'):
  wpAny (model P.prog P.w) A (call (.type "range") vs) Q E s:=by
 cases xs with
 |nil=>cases hf
 |cons x xs=>cases xs with
  |nil=>
   exact ak hf fun b hb hf=>eR hf fun hc e=>hd.one_k fun u hu=>hu.int_k hb fun t=>
    call_range_1 (h 0 b 1 _ _ _ _ _ e.symm (Ad 0 b) (Ac (by decide) (js hc)) (bJ _ rfl) (Kp.push s _ _))
  |cons y xs=>cases xs with
   |nil=>
    exact bO hf fun a b ha hb hf=>eR hf fun hc e=>hd.two_k fun u v hu hv=>hu.int_k ha fun t=>hv.int_k hb fun t'=>
     call_range_2 (h a b 1 _ _ _ _ _ e.symm (Ad a b) (Ac (js (xJ.mp hc).1) (js (xJ.mp hc).2)) (bJ _ rfl) (Kp.push s _ _))
   |cons z xs=>cases xs with
    |nil=>
     exact ak hf fun a ha hf=>bO hf fun b c hb LF hf=>eR hf fun hc e=>by
      obtain⟨hq,hm⟩:=xJ.mp hc;obtain rfl:=eq_of_beq hm;have hw:=xJ.mp hq;have h1:=js hw.1;have h2:=js hw.2;exact hd.three_k fun u v w hu hv hw=>hu.int_k ha fun t=>hv.int_k hb fun t'=>hw.int_k LF fun WZ=>
       call_range_3 (by decide) (h a b (-1) _ _ _ _ _ e.symm (HH a b) (FI h1 h2) (bJ _ rfl) (Kp.push s _ _)) (Or.inl (PyProof.noPylong_small (by decide)))
    |cons _ _=>cases hf
theorem cL{p pos:Pos}{es:List Expr}{f}(hx:K.aV.contains "range"=true)(hv:P.glob "range"=some (.type "range"))
  (hs:kl P n K false es f) (iX:∀env,starEach es env=es.map fun e=>(false,eval e env)) (cZ:es≠[]):LD P n K (.Call (.Name "range" p) es [] pos) (fun ρ=>(f ρ).bind oy):=fun A env out hid m B s ρ xs E rm S hf=>by
 refine ak hf fun y hy gu=>?_
 clear hf;rename _=>hf
 refine kO (bH S hx hv (by decide) ?_);refine pj (ct iX) ?_;refine bW (ct iX) (aD (hs A env out hid m B s ρ y E pos rm S hy) (fun vs s₁ aj=>?_) fun ø ø q=>q);have bC:=S.after aj.1;refine pY (vs:=[]++vs) aj.2 hf fun a b c t u v k s₂ hl hk lE hr kp=>?_
 subst hl;refine Cs hr lE ?_;have jr:s.heap.get? s₂.heap.objs.size=none:=by
  cases e:s.heap.get? s₂.heap.objs.size with
  |none=>rfl
  |some o=>have:=kp.keep _ _ (aj.1.keep _ _ e);rw[bE]at this;cases this
 have W:=Walks.range (prog:=P.prog) (w:=P.w) rm.handled s₂.heap.objs.size a c k;have sj:k=((List.range k).map fun(i:Nat)=>V.int (a+(i:Int)*c)).length:=by simp
 rw[show Walks P.prog P.w A s₂.heap.objs.size [s₂.heap.objs.size] [s₂.heap.objs.size] k _ _=Walks P.prog P.w A s₂.heap.objs.size [s₂.heap.objs.size] [s₂.heap.objs.size] ((List.range k).map fun(i:Nat)=>V.int (a+(i:Int)*c)).length _ _ from by rw[<-sj]]at W;refine⟨s₂.heap.objs.size,[s₂.heap.objs.size],none,_,rfl,aj.1.trans (kp.trans (Kp.push s₂ _ s₂.toks)),ro.of W (fun ø ø=>True) (fun ø ø ø ø ø ø ø=>trivial) (fun ø ø ø ø ø ø ø=>trivial) (fun hid i x v s ø hx hv=>?_) (fun i h st=>⟨_,"range_iterator",st,rfl,by decide⟩),fun b hb=>?_,fun b hb=>?_,fun g q=>(nomatch q),?_⟩
 ·obtain⟨t,rfl⟩:=hv
  rw[dh]at hx;by_cases hi:i<k
  ·rw[Ct hi]at hx
   cases hx;exact .ofInt _ _
  ·rw[nu (by simpa using hi)]at hx;cases hx
 ·obtain rfl:b=s₂.heap.objs.size:=by simpa using hb
  exact jr
 ·obtain rfl:b=s₂.heap.objs.size:=by simpa using hb
  exact⟨_,bJ _ rfl⟩
 ·refine⟨?_,trivial,fun b hb zV=>absurd (by simpa using hb) zV,by simp⟩
  show IsRangeIter _ _ (a+((0:Nat):Int)*c) ((k:Int)-((0:Nat):Int)) c;have e1:a+((0:Nat):Int)*c=a:=by simp
  have e2:(k:Int)-((0:Nat):Int)=k:=by simp
  rw[e1,e2,hk];exact bJ _ rfl
end
section
variable{P:Pk}{n:Nat}{K K':Cx}{lo:Bool}
noncomputable def eI(cells:List (Str×Addr)):List (Str×NameKind)->List (Str×Addr)->List (Str×Addr)
 |[],acc=>acc
 |(x,k)::r,acc=>if k== .free then(match cells.lookup x with|some c=>eI cells r ((x,c)::acc)|none=>eI cells r acc)else eI cells r acc
theorem w0(cells:List (Str×Addr))(acc:List (Str×Addr)):eI cells [] acc=acc:=rfl
theorem jc(cells:List (Str×Addr))(x:Str)(k:NameKind)(r:List (Str×NameKind))(acc:List (Str×Addr)):eI cells ((x,k)::r) acc=if k== .free then(match cells.lookup x with|some c=>eI cells r ((x,c)::acc)|none=>eI cells r acc)else eI cells r acc:=rfl
theorem wn{scope:Scope}{env:Env}(h:∀y∈scope.names,y.2= .free->∃c,env.cells.lookup y.1=some c):closureFor scope env=pure (eI env.cells scope.names []):=by
 unfold closureFor;have key:∀(l:List (Str×NameKind)) (acc:List (Str×Addr)),(∀y∈l,y.2= .free->∃c,env.cells.lookup y.1=some c)->
   (forIn l acc fun(x:Str×NameKind) (cs:List (Str×Addr))=>(if(x.2== .free)=true then(do let c <-cellOf env x.1;pure (ForInStep.yield ((x.1,c)::cs)))else pure (ForInStep.yield cs):Sem (ForInStep (List (Str×Addr)))))=pure (eI env.cells l acc):=by
  intro l
  induction l with
  |nil=>intro acc _;rfl
  |cons y l ih=>
   intro acc hl;obtain⟨x,k⟩:=y;rw[oR]
   cases hk:(k==NameKind.free)with
   |false=>
    simp only[hk,kN,gZ,w0,jc];exact ih acc fun y hy=>hl y (by simp[hy])
   |true=>
    obtain⟨c,hc⟩:=hl (x,k) (by simp) (eq_of_beq hk);have e:cellOf env x=pure c:=by unfold cellOf;rw[hc]
    simp only[hk,jP,w0,jc,e,hc];exact ih ((x,c)::acc) fun y hy=>hl y (by simp[hy])
 have:=key scope.names [] h;simpa using this
set_option tactic.hygienic true in
theorem gN{cells:List (Str×Addr)}:∀{l:List (Str×NameKind)} {acc:List (Str×Addr)} {x c},(x,c)∈eI cells l acc->(x,c)∈acc\/cells.lookup x=some c
 |[],acc,x,c,h=>.inl h
 |(y,k)::r,acc,x,c,h=>by
  rw[jc]at h;split at h
  ·split at h
   ·rename_i c' hc
    rcases gN h with q|q
    ·rcases bI.mp q with q|q
     ·cases q;exact .inr hc
     ·exact .inl q
    ·exact .inr q
   ·exact gN h
  ·exact gN h
set_option tactic.hygienic true in
theorem hZ{cells:List (Str×Addr)}:∀{l:List (Str×NameKind)} {acc:List (Str×Addr)} {x c},(x,c)∈eI cells l acc->(x,c)∈acc\/(cells.lookup x=some c/\(x,NameKind.free)∈l)
 |[],acc,x,c,h=>.inl h
 |(y,k)::r,acc,x,c,h=>by
  rw[jc]at h;split at h
  ·rename_i hk
   split at h
   ·rename_i c' hc
    rcases hZ h with q|q
    ·rcases bI.mp q with q|q
     ·cases q;exact .inr ⟨hc,by rw[eq_of_beq hk];simp⟩
     ·exact .inl q
    ·exact .inr ⟨q.1,.tail _ q.2⟩
   ·rcases hZ h with q|q
    ·exact .inl q
    ·exact .inr ⟨q.1,.tail _ q.2⟩
  ·rcases hZ h with q|q
   ·exact .inl q
   ·exact .inr ⟨q.1,.tail _ q.2⟩
theorem ko{x:Str}:∀{names:List (Str×NameKind)} {k:Nat} {acc:List (Str×Addr)},(x,NameKind.cell)∉names->(cellsFrom k names acc).lookup x=acc.lookup x
 |[],k,acc,_=>rfl
 |(y,kd)::r,k,acc,h=>by
  unfold cellsFrom;by_cases hk:(kd==NameKind.cell)=true
  ·rw[aw hk,ko fun q=>h (.tail _ q),lJ]
   have:(x==y)=false:=kQ.mpr fun e=>h (by rw[e,<-eq_of_beq hk];simp)
   rw[this]
  ·rw[au hk]
   exact ko fun q=>h (.tail _ q)
theorem kq:∀{names:List (Str×NameKind)} {k:Nat} {acc:List (Str×Addr)},(∀x c,(x,c)∈acc->c<k)->(∀x y c,(x,c)∈acc->(y,c)∈acc->x=y)->∀x y c,(x,c)∈cellsFrom k names acc->(y,c)∈cellsFrom k names acc->x=y
 |[],k,acc,_,h=>h
 |(y,kd)::r,k,acc,hb,h=>by
  unfold cellsFrom;by_cases hk:(kd==NameKind.cell)=true
  ·rw[aw hk]
   refine kq (fun x c q=>?_) fun x z c q1 q2=>?_
   ·rcases bI.mp q with q|q
    ·cases q;exact mT _
    ·exact kS (hb x c q)
   ·rcases bI.mp q1 with q1|q1
    ·rcases bI.mp q2 with q2|q2
     ·cases q1;cases q2;rfl
     ·cases q1;exact absurd (hb _ _ q2) (gv _)
    ·rcases bI.mp q2 with q2|q2
     ·cases q2;exact absurd (hb _ _ q1) (gv _)
     ·exact h x z c q1 q2
  ·rw[au hk]
   exact kq hb h
theorem gA:∀{names:List (Str×NameKind)} {h:Heap} {acc:List (Str×Addr)} {x:Str} {c:Addr},(x,c)∈cellsFrom h.objs.size names acc->(x,c)∈acc\/(h.objs.size<=c/\(pushCells h names).IsCell c none)
 |[],h,acc,x,c,q=>.inl q
 |(y,kd)::r,h,acc,x,c,q=>by
  unfold cellsFrom at q;unfold pushCells;by_cases hk:(kd==NameKind.cell)=true
  ·rw[aw hk]at q ⊢
   have hs:(h.push {cls:=.type "cell",data:=.cell none}).objs.size=h.objs.size+1:=ji ..;rw[<-hs]at q;rcases gA q with q|q
   ·rcases bI.mp q with q|q
    ·cases q
     exact .inr ⟨bL _,⟨_,tC r _ _ _ (bJ _ rfl),rfl⟩⟩
    ·exact .inl q
   ·exact .inr ⟨kT (az (jj hs.symm) q.1),q.2⟩
  ·rw[au hk]at q ⊢
   exact gA q
theorem kr{x:Str}:∀{names:List (Str×NameKind)} {k:Nat} {acc:List (Str×Addr)},((x,NameKind.cell)∈names\/∃c,(x,c)∈acc)->∃c,(x,c)∈cellsFrom k names acc
 |[],k,acc,h=>h.elim (fun q=>nomatch q) id
 |(y,kd)::r,k,acc,h=>by
  unfold cellsFrom;by_cases hk:(kd==NameKind.cell)=true
  ·rw[aw hk]
   refine kr (h.elim (fun q=>?_) fun q=>q.elim fun c q=>.inr ⟨c,.tail _ q⟩);rcases bI.mp q with q|q
   ·cases q;exact .inr ⟨k,.head _⟩
   ·exact .inl q
  ·rw[au hk]
   refine kr (h.elim (fun q=>?_) .inr);rcases bI.mp q with q|q
   ·cases q;exact absurd rfl hk
   ·exact .inl q
theorem ye{M:Model}{A:Around}{E:Value->Shared->Prop}{s:Shared}{scope:Scope}{globals:Addr}{closure:List (Str×Addr)}{qual:Str}{func:Option Addr}{code:Value}{around:Env}{builtins:Addr}{Q:Env->Shared->Prop}
  (h:Q (newEnv scope s.heap.objs.size globals (cellsFrom (s.heap.objs.size+1) scope.names closure) qual func code (some around) builtins) {s with heap:=pushCells (s.heap.push {cls:=.type "dict",data:=.dict #[]}) scope.names}):
  wpAny M A (newFunctionEnv scope globals closure [] qual func code (some around) builtins) Q E s:=by
 simp only[newFunctionEnv,Option.isSome_some,jP];refine aA (wpAny_alloc ?_);refine aA (wpAny_layCells _ (fun name kind cells=>by cases hkc:kind==NameKind.cell<;>simp[hkc]) _ _ _ _ ?_);rw[show({s with heap:=s.heap.push {cls:=.type "dict",data:=.dict #[]} }:Shared).heap.objs.size=s.heap.objs.size+1 from ji ..];rw[nC];exact aA (bK (bK h))
theorem me{cells:List (Str×Addr)}:∀{l:List (Str×NameKind)} {acc:List (Str×Addr)} {x c},(x,c)∈acc->(x,c)∈eI cells l acc
 |[],acc,x,c,h=>h
 |(y,k)::r,acc,x,c,h=>by
  rw[jc];split
  ·split
   ·exact me (ge _ h)
   ·exact me h
  ·exact me h
theorem mf{cells:List (Str×Addr)}{x:Str}{c:Addr}(hc:cells.lookup x=some c):∀{l:List (Str×NameKind)} {acc:List (Str×Addr)},(x,NameKind.free)∈l->(x,c)∈eI cells l acc
 |(y,k)::r,acc,h=>by
  rw[jc];rcases bI.mp h with q|q
  ·cases q
   simp only[hc];rw[aw (by rfl)];exact me (by simp)
  ·split
   ·split
    ·exact mf hc q
    ·exact mf hc q
   ·exact mf hc q
theorem lookup_mem{l:List (Str×Addr)}:∀{x:Str} {c:Addr},l.lookup x=some c->(x,c)∈l:=by
 induction l with
 |nil=>intro x c h;simp at h
 |cons y l ih=>
  intro x c h;obtain⟨z,d⟩:=y;rw[lJ]at h
  cases hx:x==z with
  |true=>rw[hx]at h;cases h;rw[eq_of_beq hx];simp
  |false=>rw[hx]at h;exact ge _ (ih h)
theorem mem_lookup{l:List (Str×Addr)}:∀{x:Str} {c:Addr},(x,c)∈l->∃d,l.lookup x=some d:=by
 induction l with
 |nil=>intro x c h;cases h
 |cons y l ih=>
  intro x c h;obtain⟨z,d⟩:=y;rw[lJ]
  cases hx:x==z with
  |true=>exact⟨d,rfl⟩
  |false=>
   rcases bI.mp h with q|q
   ·cases q;simp at hx
   ·exact ih q
theorem HI{cells l x c}(h:(eI cells l []).lookup x=some c):cells.lookup x=some c:=by
 rcases gN (lookup_mem h)with q|q
 ·cases q
 ·exact q
theorem HJ{cells:List (Str×Addr)}{l:List (Str×NameKind)}{x:Str}{c:Addr}(hc:cells.lookup x=some c)(hx:(x,NameKind.free)∈l):(eI cells l []).lookup x=some c:=by
 obtain⟨d,hd⟩:=mem_lookup (mf (acc:=[]) hc hx);rw[hd];have:=HI hd;rw[hc]at this;exact this.symm
theorem ie{l:List (Str×NameKind)}:∀{x:Str} {c:NameKind},l.lookup x=some c->(x,c)∈l:=by
 induction l with
 |nil=>intro x c h;simp at h
 |cons y l ih=>
  intro x c h;obtain⟨z,d⟩:=y;rw[lJ]at h
  cases hx:x==z with
  |true=>rw[hx]at h;cases h;rw[eq_of_beq hx];simp
  |false=>rw[hx]at h;exact ge _ (ih h)
theorem gB{env:Env}{x:Str}{k:NameKind}:∀{names:List (Str×NameKind)},names.lookup x=some k->
  (names.map fun(n,k)=>if(k==NameKind.free&&env.scope.kind== .function&&env.kindOf n==some .cell)then(n,NameKind.cell)else(n,k)).lookup x=some (if(k==NameKind.free&&env.scope.kind== .function&&env.kindOf x==some .cell)=true then .cell else k)
 |[],h=>by simp at h
 |(z,d)::r,h=>by
  have ih:= @gB env x k r;show List.lookup x ((if(d==NameKind.free&&env.scope.kind== .function&&env.kindOf z==some .cell)=true then(z,NameKind.cell)else(z,d))::_)=_;rw[lJ]at h
  cases hx:x==z with
  |true=>
   rw[hx]at h;cases h;have e:=eq_of_beq hx;subst e;by_cases hc:(k==NameKind.free&&env.scope.kind== .function&&env.kindOf x==some .cell)=true
   ·rw[aw hc,aw hc,lJ,hx]
   ·rw[au hc,au hc,lJ,hx]
  |false=>
   rw[hx]at h;by_cases hc:(d==NameKind.free&&env.scope.kind== .function&&env.kindOf z==some .cell)=true
   ·rw[aw hc,lJ,hx];exact ih h
   ·rw[au hc,lJ,hx];exact ih h
structure sk(K K':Cx)(nt:Nat)(cap:List Nat)(scope:Scope):Prop where
 kind:scope.kind= .function
 ncell:∀y∈scope.names,y.2= .cell->scope.names.lookup y.1=some .cell
 names:∀y∈scope.names,y.2= .local->scope.names.lookup y.1=some .local
 glob:∀x∈K'.aV,scope.names.lookup x=some .globalImplicit
 tv:∀(j:Nat) x k b,j<nt->K'.vars[j]?=some (x,k,b)->(k= .local\/k= .cell)/\b=false/\scope.names.lookup x=some k
 cv:∀(j:Nat) x k b,nt<=j->K'.vars[j]?=some (x,k,b)->∃i:Nat,cap[j-nt]?=some i/\K.vars[i]?=some (x,k,b)/\(k= .cell\/k= .free)/\scope.names.lookup x=some .free
 nodup:∀(i j:Nat) x k b k' b',K'.vars[i]?=some (x,k,b)->K'.vars[j]?=some (x,k',b')->i=j
 free1:∀y∈scope.names,y.2= .free->scope.names.lookup y.1=some .free
 free:∀y∈scope.names,y.2= .free->∃(i:Nat) (k:NameKind) (b:Bool),K.vars[i]?=some (y.1,k,b)/\(k= .cell\/k= .free)
noncomputable def NJ(K K':Cx)(nt:Nat)(cap:List Nat)(scope:Scope):Bool:=
 scope.kind== .function&&(scope.names.all fun y=>(y.2 != .cell||scope.names.lookup y.1==some .cell)&&(y.2 != .local||scope.names.lookup y.1==some .local)&&(y.2 != .free||scope.names.lookup y.1==some .free)&&(y.2 != .free||(K.vars.any fun z=>z.1==y.1&&(z.2.1== .cell||z.2.1== .free))))&&
 (K'.aV.all fun x=>scope.names.lookup x==some .globalImplicit)&&
 ((List.range K'.vars.length).all fun j=>match K'.vars[j]? with
  |some (x,k,b)=>if j<nt then(k== .local||k== .cell)&&!b&&scope.names.lookup x==some k else(match cap[j-nt]? with|some i=>K.vars[i]?==some (x,k,b)&&(k== .cell||k== .free)&&scope.names.lookup x==some .free|none=>false)
  |none=>false)&&decide (K'.vars.map (·.1)).Nodup
theorem cu{nt:Nat}{cap:List Nat}{scope:Scope}(h:NJ K K' nt cap scope=true):sk K K' nt cap scope:=by
 simp only[NJ,bX,cH,jR,lG,oS,List.any_eq_true,mS]at h;obtain⟨⟨⟨⟨h1,h2⟩,h3⟩,h4⟩,h5⟩:=h;have ZE:∀(j:Nat) x k b,K'.vars[j]?=some (x,k,b)->_:=fun j x k b hj=>h4 j (by
  have:j<K'.vars.length:=by
   by_cases q:j<K'.vars.length
   ·exact q
   ·rw[nu (by omega)]at hj;cases hj
  simpa using this)
 refine⟨h1,fun y hy hl=>(h2 y hy).1.1.1.resolve_left (fun q=>q hl),fun y hy hl=>(h2 y hy).1.1.2.resolve_left (fun q=>q hl),h3,fun j x k b hj hv=>?_,fun j x k b hj hv=>?_,fun i j x k b k' b' hi hj=>?_,fun y hy hl=>(h2 y hy).1.2.resolve_left (fun q=>q hl),fun y hy hl=>?_⟩
 ·have:=ZE j x k b hv
  rw[hv]at this;simp only[hj,jP,bX,lG,jR,Bool.not_eq_true']at this;exact⟨this.1.1,this.1.2,this.2⟩
 ·have:=ZE j x k b hv
  rw[hv]at this;simp only[show ¬j<nt by omega,gZ]at this
  cases hc:cap[j-nt]? with
  |none=>rw[hc]at this;cases this
  |some i=>
   rw[hc]at this;simp only[bX,jR,lG]at this;exact⟨i,rfl,this.1.1,this.1.2,this.2⟩
 ·have e1:(K'.vars.map (·.1))[i]?=some x:=by rw[dh,hi];rfl
  have e2:(K'.vars.map (·.1))[j]?=some x:=by rw[dh,hj];rfl
  have Sg:i<(K'.vars.map (·.1)).length:=by
   by_cases q:i<(K'.vars.map (·.1)).length
   ·exact q
   ·rw[nu (by omega)]at e1;cases e1
  exact(List.getElem?_inj Sg h5).mp (e1.trans e2.symm)
 ·obtain⟨z,hz,W0,hz2⟩:=(h2 y hy).2.resolve_left (fun q=>q hl)
  obtain⟨i,hi,e⟩:=Cu hz;obtain⟨x,k,b⟩:=z;exact⟨i,k,b,by rw[iK hi,e,<-W0],hz2⟩
noncomputable def pZ(nt:Nat)(cap:List Nat)(ρ:ao):ao:=fun j=>if j<nt then none else(cap[j-nt]?).bind ρ
theorem aU.comp{env:Env}{out hid W X:List Addr}{m}{B s:Shared}{ρ}(S:aU P K env out hid m B s ρ){nt:Nat}{cap:List Nat}{scope:Scope}(ok:sk K K' nt cap scope){s':Shared}{C D:Addr}{cs:List (Str×Addr)}(k:Kp s s')(hX:∀a∈X,s.heap.get? a=none)(lX:cD s'.heap X)
  (Ci:∀x c,scope.names.lookup x=some .free->env.cells.lookup x=some c->cs.lookup x=some c) (LG:∀x,scope.names.lookup x=some .cell->∃c,cs.lookup x=some c/\c∈X/\c∉W/\c≠D/\s'.heap.IsCell c none) (W1:∀x y c,cs.lookup x=some c->cs.lookup y=some c->x=y)
  (hW:∀a∈W,s.heap.get? a=none) (hC:s.heap.get? C=none) (hD:s.heap.get? D=none) (FJ:C≠D) (hCW:C∉W) (lW:cD s'.heap W) (lD:∃o,s'.heap.get? D=some o) {m':Str->Option Value} (ns:s'.heap.Ns C m'):
  aU P K' (compEnvC scope cs C env) (W++(D::out)) (C::D::(W++(X++hid))) m' B s' (pZ nt cap ρ):=by
 have hn:∀a,a∈hid->s.heap.get? a≠none:=fun a h q=>by obtain⟨o,e⟩:=S.live a h;rw[q]at e;cases e
 have W2:∀a∈hid,a∉W:=fun a h q=>hn a h (hW a q)
 have CY:∀a,a∈W++(D::out)<->a∈W\/a=D\/a∈out:=fun a=>by simp
 have new:∀a∈C::D::(W++(X++hid)),a∈hid\/s.heap.get? a=none:=fun a h=>by
  rcases bI.mp h with rfl|h
  ·exact .inr hC
  ·rcases bI.mp h with rfl|h
   ·exact .inr hD
   ·exact(bZ.mp h).elim (fun q=>.inr (hW a q)) fun q=>(bZ.mp q).elim (fun q=>.inr (hX a q)) .inl
 have sub:∀a∈hid,a∈C::D::(W++(X++hid)):=fun a h=>ge _ (ge _ (ck _ (ck _ h)))
 have Sp:∀c,c∈hid->c∉out->c∉W++(D::out):=fun c h ho z=>((CY c).mp z).elim (W2 c h) fun z=>z.elim (fun e=>hn _ h (e▸hD)) ho
 have Sq:∀(j:Nat) x kd b,K'.vars[j]?=some (x,kd,b)->(compEnvC scope cs C env).kindOf x=some kd:=fun j x kd b hj=>by
  show(relabel scope env).names.lookup x=some kd;by_cases ew:j<nt
  ·obtain⟨hk,rfl,hl⟩:=ok.tv j x kd b ew hj
   show List.lookup x (scope.names.map _)=_;rw[gB hl];rcases hk with rfl|rfl<;>rfl
  ·obtain⟨i,_,hi,hk,hl⟩:=ok.cv j x kd b (by omega) hj
   have:=S.kind i x kd b hi;show List.lookup x (scope.names.map _)=_;rw[gB hl,this,S.fn];rcases hk with rfl|rfl<;>rfl
 have atC:∀(i:Nat) x kd b u,K.vars[i]?=some (x,kd,b)->(kd= .cell\/kd= .free)->scope.names.lookup x=some .free->At env m s.heap out hid x kd u->At (compEnvC scope cs C env) m' s'.heap (W++(D::out)) (C::D::(W++(X++hid))) x kd u:=fun i x kd b u hi hk hl h=>by
  have hm:(x,NameKind.free)∈scope.names:=ie hl;rcases hk with rfl|rfl
  ·obtain⟨c,q1,q2,q3,q4⟩:=h
   exact⟨c,Ci x c hl q1,sub c q2,Sp c q2 q3,q4.keeps k.keep⟩
  ·obtain⟨c,q1,q2,q3,q4⟩:=h
   exact⟨c,Ci x c hl q1,sub c q2,Sp c q2 q3,q4.keeps k.keep⟩
 refine {fn:=ok.kind,gl:=S.gl,bl:=S.bl,kind:=Sq,oV:=fun x hx=>?_,nodup:=ok.nodup,iD:=W1,live:=?_,oh:=?_,Lh:=by simp[compEnvC],Lo:=?_,ns:=ns,slot:=?_,apart:=?_,gb:=S.gb,kp:=S.kp.trans k,own:=?_}
 ·show List.lookup x (scope.names.map _)=_
  rw[gB (ok.glob x hx)];rfl
 ·intro a h
  rcases bI.mp h with rfl|h
  ·obtain⟨o,_,_,ho,_⟩:=ns;exact⟨o,ho⟩
  ·rcases bI.mp h with rfl|h
   ·exact lD
   ·exact(bZ.mp h).elim (lW a) fun q=>(bZ.mp q).elim (lX a) (S.live.kp k a)
 ·intro a h
  rcases(CY a).mp h with q|rfl|q
  ·simp[q]
  ·simp
  ·simp[S.oh a q]
 ·show C∉_
  intro h;rcases(CY C).mp h with q|q|q
  ·exact hCW q
  ·exact FJ q
  ·exact hn C (S.oh C q) hC
 ·intro j x kd b hj
  by_cases ew:j<nt
  ·obtain⟨hk,rfl,hl⟩:=ok.tv j x kd b ew hj
   rcases hk with rfl|rfl
   ·exact⟨m' x,by simp[At],by simp[pZ,ew,oU]⟩
   ·obtain⟨c,q1,q2,q3,q4,q5⟩:=LG x hl
    exact⟨none,⟨c,q1,.tail _ (.tail _ (ck _ (cP _ q2))),fun z=>((CY c).mp z).elim q3 fun z=>z.elim q4 fun z=>hn c (S.oh c z) (hX c q2),q5⟩,by simp[pZ,ew,oU]⟩
  ·obtain⟨i,hc,hi,hk,hl⟩:=ok.cv j x kd b (by omega) hj
   obtain⟨ov,h1,h2⟩:=S.slot i x kd b hi;refine⟨ov,atC i x kd b ov hi hk hl h1,?_⟩;have hr:pZ nt cap ρ j=ρ i:=by simp[pZ,ew,hc]
   rw[hr];exact h2.map (fun ø a ø q1 q2 q3=>⟨sub a q1,Sp a q1 q2,fun e=>hn a q1 (e▸hC),k.keep a⟩) (fun e=>Dn.grow (P:=P) e (fun a o ø q=>k.keep a o q) new) fun e=>bd.grow (P:=P) e (fun a o ø q=>k.keep a o q) new
 ·intro i j x y kd Lg a Vo hi hj h1 h2
  by_cases ew:i<nt
  ·obtain⟨_,q,_⟩:=ok.tv i x kd true ew hi;cases q
  ·by_cases LH:j<nt
   ·obtain⟨_,q,_⟩:=ok.tv j y Lg true LH hj;cases q
   ·obtain⟨i',c1,v1,k1,l1⟩:=ok.cv i x kd true (by omega) hi
    obtain⟨j',c2,v2,k2,l2⟩:=ok.cv j y Lg true (by omega) hj;have e1:pZ nt cap ρ i=ρ i':=by simp[pZ,ew,c1]
    have e2:pZ nt cap ρ j=ρ j':=by simp[pZ,LH,c2]
    rw[e1,e2];obtain⟨ov,q1,_⟩:=S.slot i' x kd true v1;obtain⟨WK,q2,_⟩:=S.slot j' y Lg true v2;have f1:=At.fun (atC i' x kd true ov v1 k1 l1 q1) h1
    have f2:=At.fun (atC j' y Lg true WK v2 k2 l2 q2) h2
    subst f1;subst f2;refine S.apart i' j' x y kd Lg a (fun e=>?_) v1 v2 q1 q2;subst e;rw[v1]at v2;cases v2;exact Vo (ok.nodup i j x kd true kd true hi hj)
 ·intro a h ho
  rcases bI.mp h with rfl|h
  ·cases e:B.heap.get? a with
   |none=>rfl
   |some o=>have:=S.kp.keep a o e;rw[hC]at this;cases this
  ·rcases bI.mp h with rfl|h
   ·exact absurd ((CY a).mpr (.inr (.inl rfl))) ho
   ·rcases bZ.mp h with q|q
    ·exact absurd ((CY a).mpr (.inl q)) ho
    ·rcases bZ.mp q with q|q
     ·cases e:B.heap.get? a with
      |none=>rfl
      |some o=>have:=S.kp.keep a o e;rw[hX a q]at this;cases this
     ·exact S.own a q fun z=>ho ((CY a).mpr (.inr (.inr z)))
end
section
variable{P:Pk}{n:Nat}{K K':Cx}{lo:Bool}
theorem Kp.ZF{W:List Addr}{gi:Option Nat}{bn s s':Shared}(k:Kp bn s)(v:Mv0 W gi s s')(hW:∀a∈W,bn.heap.get? a=none)(hg:∀g,gi=some g->bn.gens.size<=g):Kp bn s':=
 ⟨fun b o h=>v.keep b o (fun z=>nomatch(hW b z).symm.trans h) (k.keep b o h),Eu v hg k.gens,v.os.trans k.os⟩
noncomputable def Ew(ifs:List Expr)(env:Env):Sem Bool:=forIn ifs true fun c r=>if r=true then do let ok <-isTrue c env (eval c env);pure (ForInStep.yield ok)else pure (ForInStep.yield r)
noncomputable def CE(P:Pk)(A:Around)(R:Result->Shared->Prop)(env:Env):Value->Shared->Prop:=notedBy (model P.prog P.w) A env fun e s'=>R (.error e) s'
noncomputable def CX(P:Pk)(A:Around)(R:Result->Shared->Prop)(elt:Expr)(acc:Value)(env:Env)(J:Shared->Prop)(ok:Bool)(s:Shared):Prop:=
 if ok=true then wpAny (model P.prog P.w) A (eval elt env) (fun x km=>wpAny (model P.prog P.w) A (call (.builtin "list.append") [acc,x]) (fun ø=>J) (CE P A R env) km) (CE P A R env) s else J s
noncomputable def CA(P:Pk)(A:Around)(R:Result->Shared->Prop)(elt target:Expr)(ifs:List Expr)(acc:Value)(env:Env)(J:Shared->Prop)(v:Value)(_:Unit)(s:Shared):Prop:=
 wpAny (model P.prog P.w) A (assign target env v) (fun ø=>wpAny (model P.prog P.w) A (Ew ifs env) (CX P A R elt acc env J) (CE P A R env)) (CE P A R env) s
noncomputable def CT(P:Pk)(A:Around)(R:Result->Shared->Prop)(elt target:Expr)(ifs:List Expr)(acc:Value)(env:Env)(J:Shared->Prop)(it:Value)(r:Option Value)(s:Shared):Prop:=
 r.elim (R (.ok .next) s) fun v=>wpAny (model P.prog P.w) A (letOwnedTupleGo target it v) (CA P A R elt target ifs acc env J v) (CE P A R env) s
theorem oz{A:Around}{R:Result->Shared->Prop}{s:Shared}{elt target iter:Expr}{ifs:List Expr}{scope:Scope}{pos:Pos}{it acc:Value}{env:Env}(I:Nat->Shared->Prop)
  (turn:∀n s,I n s->wpAny (model P.prog P.w) A (pyNext it) (CT P A R elt target ifs acc env (fun s=>∃m,m<n/\I m s) it) (CE P A R env) s)
  (n:Nat) (h:I n s):codeAny (model P.prog P.w) A (.compLoop (.ListComp elt [⟨target,iter,ifs,0⟩] scope pos) 0 it acc env) R s:=by
 refine codeAny_loop rfl I (fun n s hI=>?_) n h;show wpAny _ A ((compTurn (.ListComp elt [⟨target,iter,ifs,0⟩] scope pos) 0 it acc env).onRaise (fun x=>do noteFrame x env;theTreesLotGoes x)) _ _ s;refine wpAny_noted ?_;rw[compTurn_list];refine aA (lK (aA (aD (turn n s hI) (fun r s₁ aj=>?_) fun ø ø h'=>h')))
 cases r with
 |none=>exact bK aj
 |some v=>
  refine aA (aD aj (fun ø ZG Sr=>?_) fun ø ø h'=>h');refine aA (aD Sr (fun ø s₂ aM=>aA (aD aM (fun ok s₃ eu=>?_) fun ø ø h'=>h')) fun ø ø h'=>h')
  cases ok with
  |false=>exact bK ⟨rfl,eu⟩
  |true=>
   exact aA (aA (aD eu (fun x km yd=>aA (aD yd (fun ø rr sM=>bK (bK ⟨rfl,sM⟩)) fun ø ø h'=>h')) fun ø ø h'=>h'))
theorem At.NK{env m}{h h':Heap}{out out' hid ar:List Addr}{x k u}(a:At env m h' out' ar x k u){v}(b:At env m h out hid x k v)(hk:∀c v,h.IsCell c v->h'.IsCell c v):u=v:=by
 cases k<;>simp only[At]at a b
 ·exact a.symm.trans b
 all_goals first
  |exact a.elim
  |(obtain⟨c,h1,_,_,h2⟩:=a;obtain⟨c',Hn,_,_,OE⟩:=b;rw[h1]at Hn;cases Hn;exact IsCell.fun h2 (hk _ _ OE))
noncomputable def wo(P:Pk)(n:Nat)(K:Cx)(ifs:List Expr)(f:ao->Option Bool):Prop:=
 ∀(A:Around) (env:Env) (out hid:List Addr) (m:Str->Option Value) (B s:Shared) (ρ:ao) (b:Bool) (E:Value->Shared->Prop),cJ n A->aU P K env out hid m B s ρ->f ρ=some b->
  wpAny (model P.prog P.w) A (Ew ifs env) (fun c s'=>Kp s s'/\c=b) E s
theorem e6:wo P n K [] fun ø=>some true:=fun A env out hid m B s ρ b E r S hf=>by
 cases hf;exact bK ⟨.refl s,rfl⟩
theorem gO{c:Expr}{f}(h:sh P n K c f):wo P n K [c] f:=fun A env out hid m B s ρ b E r S hf=>wpAny_tests_one (h A env out hid m B s ρ b E r S hf)
noncomputable def nO(asg:ao->V->Option ao)(tf:ao->Option Bool)(ef:ao->Option V):List V->ao->Option (List V)
 |[],_=>some []
 |x::xs,ρ=>(asg ρ x).bind fun am=>(tf am).bind fun ok=>if ok then(ef am).bind fun y=>(nO asg tf ef xs am).map (y:: ·)else nO asg tf ef xs am
theorem HK(asg:ao->V->Option ao)(tf:ao->Option Bool)(ef:ao->Option V)(x:V)(xs:List V)(ρ:ao):nO asg tf ef (x::xs) ρ=(asg ρ x).bind fun am=>(tf am).bind fun ok=>if ok then(ef am).bind fun y=>(nO asg tf ef xs am).map (y:: ·)else nO asg tf ef xs am:=rfl
noncomputable def m4(it:ao->Option (List V))(asg:ao->V->Option ao)(tf:ao->Option Bool)(ef:ao->Option V)(nt:Nat)(cap:List Nat):ao->Option V:=fun ρ=>
 (it ρ).bind fun xs=>if xs.length<most then(nO asg tf ef xs (pZ nt cap ρ)).map .list else none
noncomputable def NL(P:Pk)(K:Cx)(T:Env->Addr)(t:Expr)(a:ao->V->Option ao):Prop:=
 ∀(A:Around) (env:Env) (out hid:List Addr) (m:Str->Option Value) (B s:Shared) (ρ aQ:ao) (x:V) (v:Value) (E:Value->Shared->Prop),A.handled=none->aU P K env out hid m B s ρ->a ρ x=some aQ->Dn P s.heap hid x v->
  wpAny (model P.prog P.w) A (assign t env v) (fun ø s'=>∃ar m',aU P K env out ar m' B s' aQ/\Ks out hid ar s s'/\∀b o,b≠T env->s.heap.get? b=some o->s'.heap.get? b=some o) E s
theorem w5{t:Expr}{a}(h:Et P K true t a):NL P K Env.locals t a:=fun A env out hid m B s ρ aQ x v E hh S hf hv=>
 aD (h A env out hid m B s ρ aQ x v E hh S hf hv) (fun ø s' q=>q.casesOn fun ar m' S k l=>⟨ar,m',S,k,l rfl⟩) fun ø ø q=>q
noncomputable def Ex(x:Str)(e:Env):Addr:=(e.cells.lookup x).getD 0
theorem NL.cell(i:Nat){x:Str}{p:Pos}(hi:K.vars[i]?=some (x,.cell,false)):NL P K (Ex x) (.Name x p) fun ρ y=>some (upd ρ i y):=fun A env out hid m B s ρ aQ y v E hh S hf hv=>by
 cases hf;obtain⟨ov,la,_⟩:=S.slot i x _ _ hi;obtain⟨c,q1,q2,q3,q4⟩:=la;refine lI (wpAny_storeName_cell S.fn (S.kind i x _ _ hi) q1 q4 fun h' Ci wf=>?_);have hs:∀a o,a≠c->s.heap.get? a=some o->h'.get? a=some o:=fun a o ha q=>(wf.2 a ha).trans q
 have WT:∃o,h'.get? c=some o:=Ci.elim fun o q=>⟨o,q.1⟩
 obtain⟨r1,r2⟩:=aU.fill (m':=m) (s':={s with heap:=h'}) (y:=y) (v:=v) S hi q2 q3 hs (.refl _) rfl (fun ø q=>q) (fun ø q=>.inl q) (S.live.extBut hs WT) (S.ns.sameBut wf fun e=>Ns.jY S.ns (e▸q4))
  (fun j x' k' z a ø ø ø ø q=>by
   obtain⟨a',e,h1,h2,h3,h4⟩:=eP.addr (P:=P) q;cases e;exact fun e=>mZ.jY h4 (e▸q4)) ⟨c,q1,q2,q3,Ci⟩
  (fun j x' k' b' u hj qM hu=>by
   have cZ:x'≠x:=fun e=>hj (S.nodup j i x' k' b' _ _ qM (e▸hi))
   exact hu.map id fun c' z1 z2 z3 z4=>⟨z2,z3,z4.sameBut wf fun e=>cZ (S.iD x' x c (e▸z1) q1)⟩)
  (Dn.grow (P:=P) hv (fun a o ha q=>hs a o (fun e=>ha (e▸q2)) q) fun a q=>.inl q) (fun e=>nomatch e)
 refine⟨hid,m,r1,r2,fun b o hb=>hs b o fun e=>hb (e.trans ?_)⟩;unfold Ex;rw[q1];rfl
inductive HL(scope:Scope):(Env->Addr)->Prop
 |loc:HL scope Env.locals
 |cell (x:Str) (h:scope.names.lookup x=some .cell):HL scope (Ex x)
inductive CZ(P:Pk)(K':Cx)(ce:Env)(out hid:List Addr)(B s:Shared)(C D:Addr)(W:List Addr)(St:List Addr->Nat->Shared->Prop)(i:Nat)(ρ:ao)(l:List V)(s':Shared):Prop
 |mk (ar:List Addr) (m':Str->Option Value) (vs:List Value) (S:aU P K' ce (W++(D::out)) ar m' B s' ρ) (p:s'.heap.PlainList D vs.toArray) (d:bd P s'.heap ar l vs) (st:St ar i s') (kp:Kp s s') (sub:∀a∈C::D::(W++hid),a∈ar)
structure uh(P:Pk)(K':Cx)(A:Around)(ce:Env)(T:Addr)(B s:Shared)(xs:List V)(I C D:Addr)(W:List Addr)(gi:Option Nat)(St:List Addr->Nat->Shared->Prop):Prop where
 hI:ro P A I W gi xs St
 hW:∀a∈W,s.heap.get? a=none
 hg:∀g,gi=some g->s.gens.size<=g
 hB:∀a,s.heap.get? a=none->B.heap.get? a=none
 NM:∀g,gi=some g->B.gens.size<=g
 sC:s.heap.get? C=none
 sD:s.heap.get? D=none
 CD:C≠D
 WC:C∉W
 WD:D∉W
 lc:ce.locals=C
 sT:s.heap.get? T=none
 TD:T≠D
section
variable{A:Around}{ce:Env}{T:Addr}{out hid:List Addr}{B s s' hU:Shared}{xs:List V}{I C D:Addr}{W:List Addr}{gi:Option Nat}{St:List Addr->Nat->Shared->Prop}{i:Nat}{ρ aQ:ao}{l:List V}
theorem CZ.kp(c:uh P K' A ce T B s xs I C D W gi St)(h:CZ P K' ce out hid B s C D W St i ρ l s')(k:Kp s' hU):CZ P K' ce out hid B s C D W St i ρ l hU:=by
 obtain⟨ar,m',vs,S,p,d,st,kp,sub⟩:=h;exact⟨ar,m',vs,S.after k,p.at fun o e=>k.keep D o e,bd.kp d k,c.hI.frame ar ar i s' hU (fun a h=>sub a (.tail _ (.tail _ (cP _ h)))) st (.iO k),kp.trans k,sub⟩
theorem CZ.assign(c:uh P K' A ce T B s xs I C D W gi St){ar pz:List Addr}{m₂:Str->Option Value}{vs:List Value}(p:s'.heap.PlainList D vs.toArray)(d:bd P s'.heap ar l vs)(st:St ar i s')(kp:Kp s s')(sub:∀a∈C::D::(W++hid),a∈ar)
  (dI:aU P K' ce (W++(D::out)) pz m₂ B hU aQ) (ru:Ks (W++(D::out)) ar pz s' hU) (LI:∀b o,b≠T->s'.heap.get? b=some o->hU.heap.get? b=some o):CZ P K' ce out hid B s C D W St i aQ l hU:=
 ⟨pz,m₂,vs,dI,p.at fun o e=>LI D o (fu c.TD) e,bd.ks d ru,c.hI.frame ar pz i s' hU (fun a h=>sub a (.tail _ (.tail _ (cP _ h)))) st (ru.only fun a h=>cP _ h),
  ⟨fun b o h=>LI b o (fun z=>nomatch(z▸c.sT).symm.trans h) (kp.keep b o h),kp.gens.trans ru.gens,ru.os.trans kp.os⟩,fun a h=>ru.sub a (sub a h)⟩
theorem CZ.app(c:uh P K' A ce T B s xs I C D W gi St){ar:List Addr}{m':Str->Option Value}{vs:List Value}{h':Heap}{y:V}{u:Value}(S:aU P K' ce (W++(D::out)) ar m' B s' ρ)(d:bd P s'.heap ar l vs)(st:St ar i s')(kp:Kp s s')(sub:∀a∈C::D::(W++hid),a∈ar)
  (k:Kp s' hU) (hu:Dn P hU.heap ar y u) (hp:h'.PlainList D (vs++[u]).toArray) (wf:Heap.SameBut D hU.heap h'):CZ P K' ce out hid B s C D W St i ρ (l++[y]) {hU with heap:=h'}:=by
 have kD:∀b o,b≠D->hU.heap.get? b=some o->h'.get? b=some o:=fun b o hb e=>(wf.2 b hb).trans e
 have hD:D∈ar:=sub D (.tail _ (.head _));have Cj:∀a∈W,a∈ar:=fun a h=>sub a (.tail _ (.tail _ (cP _ h)))
 have one:∀a∈[D],a=D:=fun a h=>cq.mp h
 have mv:Mv [D] none hU {hU with heap:=h'}:=⟨⟨fun b o hb e=>kD b o (fun z=>hb (z▸ .head _)) e,fun j x ø h=>h,id,rfl⟩,fun a ha=>by
  rw[one a ha];exact hp.elim fun k e=>⟨_,e⟩⟩
 exact⟨ar,m',vs++[u],(S.after k).step (W:=[D]) (fun a h=>ck _ (one a h▸ .head _)) mv (fun a h=>one a h▸c.hB D c.sD) (fun g q=>nomatch q),hp,(bd.but (bd.kp d k) hD wf).app (.one (Dn.but hu hD wf)),
  c.hI.frame ar ar i s' _ Cj st ⟨fun b o hb e=>kD b o (fun z=>hb.elim (fun w=>w (z▸hD)) (z▸c.WD)) (k.keep b o e),fun a h=>.inl h,fun a h=>h,k.gens,k.os⟩,
  ⟨fun b o h=>kD b o (fun z=>nomatch(z▸c.sD).symm.trans h) ((kp.trans k).keep b o h),(kp.trans k).gens,(kp.trans k).os⟩,sub⟩
end
inductive CompI(P:Pk)(K':Cx)(ce:Env)(out hid:List Addr)(B s:Shared)(xs l:List V)(asg:ao->V->Option ao)(tf:ao->Option Bool)(ef:ao->Option V)(C D:Addr)(W:List Addr)(St:List Addr->Nat->Shared->Prop)(k:Nat)(s':Shared):Prop
 |mk (i:Nat) (am:ao) (l₁ rest:List V) (e:k+i=xs.length) (le:l₁.length<=i) (S:CZ P K' ce out hid B s C D W St i am l₁ s') (c:nO asg tf ef (xs.drop i) am=some rest) (el:l=l₁++rest):CompI P K' ce out hid B s xs l asg tf ef C D W St k s'
theorem FK{elt:Expr}{ef}(he:eo P n K' false elt ef){A:Around}{ce:Env}{TC:Addr}{out hid:List Addr}{B s s':Shared}{xs l:List V}{I C D:Addr}{W:List Addr}{gi:Option Nat}{St:List Addr->Nat->Shared->Prop}{R:Result->Shared->Prop}{i:Nat}{ρ:ao}{J:Shared->Prop}{ok:Bool}
  (rm:cJ n A) (hl:l.length<most) (c:uh P K' A ce TC B s xs I C D W gi St) (h:CZ P K' ce out hid B s C D W St i ρ l s') (hJ:(ok=false->J s')/\(ok=true->∃y,ef ρ=some y/\∀FL,CZ P K' ce out hid B s C D W St i ρ (l++[y]) FL->J FL)):
  CX P A R elt (.ref D) ce J ok s':=by
 cases ok with
 |false=>exact hJ.1 rfl
 |true=>
  obtain⟨y,hy,hJ⟩:=hJ.2 rfl;obtain⟨ar,m',vs,S,p,d,st,kp,sub⟩:=h;refine aD (he A ce (W++(D::out)) ar m' B s' ρ y _ rm S hy) (fun u rr sM=>?_) fun ø ø q=>q
  obtain⟨Ss,hu⟩:=sM;refine wpAny_list_append_plain (p.at fun o e=>Ss.keep D o e) (fun h' l7 wf=>hJ _ (CZ.app c S d st kp sub Ss hu (List.push_toArray vs u▸l7) wf)) ?_;have:=d.length;have hm:=cR;rw[cb,this];omega
theorem FM{elt target:Expr}{ifs:List Expr}{asg tf ef}{T:Env->Addr}(ha:NL P K' T target asg)(ht:wo P n K' ifs tf)(he:eo P n K' false elt ef){A:Around}{ce:Env}{out hid:List Addr}{B s s':Shared}{xs l:List V}{I C D:Addr}{W:List Addr}{gi:Option Nat}{St:List Addr->Nat->Shared->Prop}{R:Result->Shared->Prop}{i:Nat}{ρ aQ:ao}{J:Shared->Prop}{ok:Bool}{x:V}
  (rm:cJ n A) (c:uh P K' A ce (T ce) B s xs I C D W gi St) (hx:xs[i]?=some x) (h:CZ P K' ce out hid B s C D W St i ρ l s') (h1:asg ρ x=some aQ) (h2:tf aQ=some ok) (hl:l.length<most)
  (hJ:∀s₃,CZ P K' ce out hid B s C D W St (i+1) aQ l s₃->(ok=false->J s₃)/\(ok=true->∃y,ef aQ=some y/\∀FL,CZ P K' ce out hid B s C D W St (i+1) aQ (l++[y]) FL->J FL)):
  wpAny (model P.prog P.w) A (pyNext (.ref I)) (CT P A R elt target ifs (.ref D) ce J (.ref I)) (CE P A R ce) s':=by
 obtain⟨ar,m',vs,S',p,d,Ck,kps,sub⟩:=h;have Cj:∀a∈W,a∈ar:=fun a h=>sub a (.tail _ (.tail _ (cP _ h)))
 refine aD (c.hI.item ar i s' x _ hx Cj S'.G S'.live Ck) (fun r s₁ aj=>?_) fun ø ø q=>q
 obtain⟨v,rfl,hv,st₁,hq,mv⟩:=aj;have d₁:bd P s₁.heap ar l vs:=bd.grow d (fun a o ha e=>mv.keep a o (fun z=>ha (Cj a z)) e) fun a h=>.inl h
 refine Ab hq (aD (ha A ce (W++(D::out)) ar m' B s₁ ρ aQ x v _ rm.handled (S'.step (fun a h=>cP _ h) mv (fun a h=>c.hB a (c.hW a h)) c.NM) h1 hv) (fun ø s₂ aM=>?_) fun ø ø q=>q);obtain⟨pz,m₂,dI,ru,LI⟩:=aM;have Su:=CZ.assign c (p.at fun o e=>mv.keep D o c.WD e) d₁ st₁ (kps.ZF mv.toMv0 c.hW c.hg) sub dI ru LI;refine aD (ht A ce (W++(D::out)) pz m₂ B s₂ aQ ok _ rm dI h2) (fun Vx s₃ eu=>?_) fun ø ø q=>q
 obtain⟨C1,rfl⟩:=eu;exact FK he rm hl c (Su.kp c C1) (hJ _ (Su.kp c C1))
theorem FN{elt target:Expr}{ifs:List Expr}{asg tf ef}{T:Env->Addr}(ha:NL P K' T target asg)(ht:wo P n K' ifs tf)(he:eo P n K' false elt ef){A:Around}{ce:Env}{out hid:List Addr}{B s s':Shared}{xs l:List V}{I C D:Addr}{W:List Addr}{gi:Option Nat}{St:List Addr->Nat->Shared->Prop}{R:Result->Shared->Prop}{k:Nat}
  (rm:cJ n A) (hl:xs.length<most) (c:uh P K' A ce (T ce) B s xs I C D W gi St)
  (fin:∀s₁ m₁ (vs:List Value),Kp s s₁->s₁.heap.PlainList D vs.toArray->bd P s₁.heap (C::D::hid) l vs->s₁.heap.Ns C m₁->R (.ok .next) s₁)
  (h:CompI P K' ce out hid B s xs l asg tf ef C D W St k s'):wpAny (model P.prog P.w) A (pyNext (.ref I)) (CT P A R elt target ifs (.ref D) ce (fun t=>∃m,m<k/\CompI P K' ce out hid B s xs l asg tf ef C D W St m t) (.ref I)) (CE P A R ce) s':=by
 obtain⟨i,am,l₁,rest,e,le,S,hc,el⟩:=h;by_cases ew:i<xs.length
 ·rw[List.drop_eq_getElem_cons ew]at hc
  refine ak hc fun di h1 hc=>ak hc fun okb h2 hc=>?_
  obtain⟨j,hj⟩:=Nat.exists_eq_add_of_lt ew;have hk:k=j+1:=by omega
  have Sv:j+(i+1)=xs.length:=by omega
  refine FM ha ht he rm c (iK ew) S h1 h2 (eV (az le (dU ew)) hl) fun s₃ rv=>⟨fun z=>?_,fun z=>?_⟩
  ·exact⟨j,hk▸mT j,i+1,di,l₁,rest,Sv,dZ le,rv,(au (z▸nofun)).symm.trans hc,el⟩
  ·refine ak ((aw z).symm.trans hc) fun y hy hc=>cI hc fun r hr er=>⟨y,hy,fun FL W3=>⟨j,hk▸mT j,i+1,di,l₁++[y],r,Sv,?_,W3,hr,?_⟩⟩
   ·rw[aY];exact jS le 1
   ·rw[el,<-er,List.append_assoc];rfl
 ·have hie:i=xs.length:=by omega
  rw[tD (tA ew)]at hc;have er:=Option.some.inj hc;obtain⟨ar,m',vs,S',p,d,st,kp,sub⟩:=S;have Cj:∀a∈W,a∈ar:=fun a h=>sub a (.tail _ (.tail _ (cP _ h)))
  refine aD (c.hI.done ar s' _ Cj S'.G S'.live (hie▸st)) (fun r s₁ aj=>?_) fun ø ø q=>q
  obtain⟨rfl,mv⟩:=aj;have dl:bd P s₁.heap ar l vs:=by
   rw[el,<-er,ea];exact bd.grow d (fun a o ha e=>mv.keep a o (fun z=>ha (Cj a z)) e) fun a h=>.inl h
  obtain⟨o,es,ep,ho,hr⟩:=S'.ns;rw[c.lc]at ho;exact fin s₁ m' vs (kp.ZF mv c.hW c.hg) (p.at fun o e=>mv.keep D o c.WD e) (dl.less fun a h=>sub a ((bI.mp h).elim (fun e=>e▸ .head _) fun h=>.tail _ ((bI.mp h).elim (fun e=>e▸ .head _) fun h=>.tail _ (ck _ h)))) ⟨o,es,ep,mv.keep C o c.WC ho,hr⟩
theorem C2{elt target iter:Expr}{ifs:List Expr}{scope:Scope}{pos:Pos}{asg tf ef}{nt:Nat}{cap:List Nat}(ok:sk K K' nt cap scope){T:Env->Addr}(ha:NL P K' T target asg)(ht:wo P n K' ifs tf)(he:eo P n K' false elt ef){A:Around}{env:Env}{out hid:List Addr}{m LJ}
  {B s s₂ km:Shared} {ρ:ao} {xs l:List V} {C D:Addr} {cs:List (Str×Addr)} {X:List Addr} {it:Value} {R:Result->Shared->Prop} (rm:cJ n A) (S:aU P K env out hid m B s ρ) (hl:xs.length<most) (hc:nO asg tf ef xs (pZ nt cap ρ)=some l) (h:So P A hid xs s s₂ it)
  (k4:Kp s₂ km) (D0:s₂.heap.get? D=none) (C0:s₂.heap.get? C=none) (FJ:C≠D) (lst:km.heap.PlainList D ([]:List Value).toArray) (ns:km.heap.Ns C LJ) (hX:∀a∈X,s₂.heap.get? a=none/\a≠D) (lX:cD km.heap X)
  (Ci:∀x c,scope.names.lookup x=some .free->env.cells.lookup x=some c->cs.lookup x=some c) (LG:∀x,scope.names.lookup x=some .cell->∃c,cs.lookup x=some c/\c∈X/\km.heap.IsCell c none) (W1:∀x y c,cs.lookup x=some c->cs.lookup y=some c->x=y) (hT:HL scope T)
  (fin:∀s₁ m₁ (vs:List Value),s.heap.get? D=none->s.heap.get? C=none->Kp s s₁->s₁.heap.PlainList D vs.toArray->bd P s₁.heap (C::D::hid) l vs->s₁.heap.Ns C m₁->R (.ok .next) s₁):
  codeAny (model P.prog P.w) A (.compStart (.ListComp elt [⟨target,iter,ifs,0⟩] scope pos) 0 it (.ref D) (compEnvC scope cs C env)) R km:=by
 obtain⟨I,W,gi,St,rfl,kp,hI,hW,lW,hg,st⟩:=h;have fresh:∀a,s₂.heap.get? a=none->s.heap.get? a=none:=fun a h=>by
  cases e:s.heap.get? a with
  |none=>rfl
  |some o=>exact nomatch(kp.keep a o e).symm.trans h
 have WC:C∉W:=fun h=>(lW C h).elim fun o e=>nomatch C0.symm.trans e
 have WD:D∉W:=fun h=>(lW D h).elim fun o e=>nomatch D0.symm.trans e
 have NM:∀g,gi=some g->B.gens.size<=g:=fun g e=>az S.kp.gens.size (hg g e)
 have ZH:s₂.heap.get? (T (compEnvC scope cs C env))=none/\T (compEnvC scope cs C env)≠D:=by
  cases hT with
  |loc=>exact⟨C0,FJ⟩
  |cell x h=>
   obtain⟨d,q1,q2,_⟩:=LG x h;have e:Ex x (compEnvC scope cs C env)=d:=by
    show(cs.lookup x).getD 0=d;rw[q1];rfl
   rw[e];exact hX d q2
 have WX:∀a∈X,a∉W:=fun a h q=>(lW a q).elim fun o e=>nomatch(hX a h).1.symm.trans e
 have c:uh P K' A (compEnvC scope cs C env) (T (compEnvC scope cs C env)) B s xs I C D W gi St:=⟨hI,hW,hg,fun a h=>S.fresh h,NM,fresh C C0,fresh D D0,FJ,WC,WD,rfl,fresh _ ZH.1,ZH.2⟩;have rx:=S.comp ok (C:=C) (D:=D) (W:=W) (X:=X) (kp.trans k4) (fun a h=>fresh a (hX a h).1) lX Ci (fun x h=>(LG x h).elim fun d q=>⟨d,q.1,q.2.1,WX d q.2.1,(hX d q.2.1).2,q.2.2⟩) W1 hW c.sC c.sD FJ WC (lW.kp k4) (lst.elim fun k q=>⟨_,q⟩) ns;have NN:St (C::D::(W++(X++hid))) 0 km:=hI.frame (W++hid) (C::D::(W++(X++hid))) 0 s₂ km (fun a h=>cP _ h) st ⟨fun b o ø e=>k4.keep b o e,fun a h=>(bI.mp h).elim (fun e=>.inr (e▸C0)) fun h=>(bI.mp h).elim (fun e=>.inr (e▸D0)) fun h=>(bZ.mp h).elim (fun h=>.inl (cP _ h)) fun h=>(bZ.mp h).elim (fun h=>.inr (hX a h).1) fun h=>.inl (ck _ h),fun a h=>.tail _ (.tail _ ((bZ.mp h).elim (fun h=>cP _ h) fun h=>ck _ (ck _ h))),k4.gens,k4.os⟩;have main:=oz (iter:=iter) (scope:=scope) (pos:=pos) (fun k s'=>CompI P K' (compEnvC scope cs C env) out hid B s xs l asg tf ef C D W St k s') (fun k s' h=>FN ha ht he rm hl c (fun s₁ m₁ vs=>fin s₁ m₁ vs c.sD c.sC) h) xs.length
  ⟨0,pZ nt cap ρ,[],l,rfl,eK _,⟨C::D::(W++(X++hid)),_,[],rx,lst,bq.nil,NN,kp.trans k4,fun a h=>(bI.mp h).elim (fun e=>e▸ .head _) fun h=>.tail _ ((bI.mp h).elim (fun e=>e▸ .head _) fun h=>.tail _ ((bZ.mp h).elim (fun h=>cP _ h) fun h=>ck _ (ck _ h)))⟩,hc,rfl⟩
 exact codeAny_compStart_list main (hI.self _ 0 km _ _ NN main)
theorem HM{α:Type}{asg:ao->V->Option ao}{tf:ao->Option Bool}{ef:ao->Option V}(I:ao->Prop)(toV:α->V)(p:α->Bool)(h:α->V):∀(us:List α) (ρ:ao),(∀x∈us,∀ρ,I ρ->∃am,asg ρ (toV x)=some am/\I am/\tf am=some (p x)/\(p x=true->ef am=some (h x)))->I ρ->nO asg tf ef (us.map toV) ρ=some ((us.filter p).map h):=by
 intro us
 induction us with
 |nil=>exact fun ø ø ø=>rfl
 |cons x xs ih=>
  intro ρ hs hI;obtain⟨am,h1,h2,h3,h4⟩:=hs x (.head _) ρ hI;have ih:=ih am (fun y hy=>hs y (.tail _ hy)) h2;rw[bB,HK,h1,qV];show((tf am).bind fun ok=>if ok then(ef am).bind fun y=>(nO asg tf ef (xs.map toV) am).map (y:: ·)else nO asg tf ef (xs.map toV) am)=_;rw[h3,ih];show(if p x=true then(ef am).bind fun y=>(some _).map (y:: ·)else some _)=_;by_cases hp:p x=true
  ·rw[aw hp,aw hp,h4 hp];rfl
  ·rw[au hp,au hp]
theorem jt{α:Type}{it:ao->Option (List V)}{asg:ao->V->Option ao}{tf:ao->Option Bool}{ef:ao->Option V}{nt:Nat}{cap:List Nat}{ρ:ao}(I:ao->Prop)(us:List α)(toV:α->V)(p:α->Bool)(h:α->V)(hi:it ρ=some (us.map toV))(hm:us.length<most)
  (hs:∀x∈us,∀ρ,I ρ->∃am,asg ρ (toV x)=some am/\I am/\tf am=some (p x)/\(p x=true->ef am=some (h x))) (hI:I (pZ nt cap ρ)):m4 it asg tf ef nt cap ρ=some (.list ((us.filter p).map h)):=by
 unfold m4;rw[hi];show(if(us.map toV).length<most then _ else none)=_;rw[List.length_map,aw hm,HM I toV p h us _ hs hI];rfl
theorem gn{α:Type}{it:ao->Option (List V)}{asg:ao->V->Option ao}{ef:ao->Option V}{nt:Nat}{cap:List Nat}{ρ:ao}(I:ao->Prop)(us:List α)(toV:α->V)(h:α->V)(hi:it ρ=some (us.map toV))(hm:us.length<most)
  (hs:∀x∈us,∀ρ,I ρ->∃am,asg ρ (toV x)=some am/\I am/\ef am=some (h x)) (hI:I (pZ nt cap ρ)):m4 it asg (fun ø=>some true) ef nt cap ρ=some (.list (us.map h)):=
 (jt (tf:=fun ø=>some true) I us toV (fun ø=>true) h hi hm (fun x hx ρ hI=>by
  obtain⟨am,h1,h2,h3⟩:=hs x hx ρ hI;exact⟨am,h1,h2,rfl,fun ø=>h3⟩) hI).trans (by rw[List.filter_eq_self.mpr fun ø ø=>rfl])
theorem LK{s:Shared}{o ns:Obj}{names:List (Str×NameKind)}{aj:Heap}(ho:o.isFreed=false)(hn:ns.isFreed=false)(hh:aj=pushCells ((s.heap.push o).push ns) names){Q:Prop}
  (h:Kp s {s with heap:=aj}->s.heap.get? s.heap.objs.size=none->s.heap.get? (s.heap.push o).objs.size=none->(s.heap.push o).objs.size≠s.heap.objs.size->aj.get? s.heap.objs.size=some o->aj.get? (s.heap.push o).objs.size=some ns->(∀a,(s.heap.push o).objs.size+1<=a->s.heap.get? a=none/\a≠s.heap.objs.size)->Q):Q:=by
 subst hh;have e:(s.heap.push o).objs.size=s.heap.objs.size+1:=ji ..;have cZ:(s.heap.push o).objs.size≠s.heap.objs.size:=e▸pk _;have up:∀a,s.heap.objs.size<=a->s.heap.get? a=none:=fun a ha=>by
  cases q:s.heap.get? a with
  |none=>rfl
  |some o=>exact absurd (ez q) (g8.mpr ha)
 exact h (.heap fun b o' q=>tC _ _ _ _ (bz _ (bz _ q))) (up _ (bL _)) (up _ (e▸jT _)) cZ (tC _ _ _ _ (bz _ (bJ _ ho))) (tC _ _ _ _ (bJ _ hn))
  fun a ha=>⟨up a (by omega),fun z=>by omega⟩
theorem OV{γ:Type}{c:Prop}[Decidable c]{a:Option γ}{z:γ}{G:Prop}(h:(if c then a else none)=some z)(k:c->a=some z->G):G:=by
 by_cases q:c
 ·exact k q ((aw q).symm.trans h)
 ·exact nomatch(au q).symm.trans h
theorem Ae{elt target iter:Expr}{ifs:List Expr}{scope:Scope}{pos:Pos}{it asg tf ef}{nt:Nat}{cap:List Nat}(hi:LD P n K iter it)(ok:sk K K' nt cap scope){T:Env->Addr}(ha:NL P K' T target asg)(hT:HL scope T)(ht:wo P n K' ifs tf)(he:eo P n K' false elt ef)
  (hs:∀env x,foldedSetIterable iter env x=pure x) {A:Around} {env:Env} {out hid:List Addr} {m} {B s:Shared} {ρ:ao} {x:V} (E:Value->Shared->Prop) (rm:cJ n A) (S:aU P K env out hid m B s ρ) (hf:m4 it asg tf ef nt cap ρ=some x) {ps:Pos}
  {use:Option (Value->Sem Unit)} {Q:Value->Shared->Prop}
  (LL:∀D C s₁ m₁ l (vs:List Value),x= .list l->s.heap.get? D=none->s.heap.get? C=none->C≠D->Kp s s₁->s₁.heap.PlainList D vs.toArray->bd P s₁.heap (C::D::hid) l vs->s₁.heap.Ns C m₁->compPost (model P.prog P.w) A E use Q (.ref D) C (.ok .next) s₁):
  wpAny (model P.prog P.w) A (comprehension (.ListComp elt [⟨target,iter,ifs,0⟩] scope pos) scope env ps (newList []) false (eval iter env) use) Q E s:=by
 refine ak hf fun xs yb gu=>?_
 refine OV gu fun hlen hq=>cI hq fun l hl e=>?_
 have nM:∀y∈scope.names,y.2= .free->∃c,env.cells.lookup y.1=some c:=fun y hy h=>by
  obtain⟨i,k,b,hv,hk⟩:=ok.free y hy h;obtain⟨ov,h1,_⟩:=S.slot i y.1 k b hv;rcases hk with rfl|rfl<;>simp only[At]at h1<;>exact⟨_,h1.choose_spec.1⟩
 refine wpAny_comprehension_free (g:=⟨target,iter,ifs,0⟩) (gs:=[]) rfl (hs env) (wn nM) ok.kind ok.names ?_;refine aD (hi A env out hid m B s ρ xs E rm S yb) (fun v s₁ aj=>aD aj (fun it' s₂ aM=>?_) fun ø ø q=>q) fun ø ø q=>q
 refine tE (ye ?_);obtain⟨_,_,_,_,_,kp,_,_,_,_,_⟩:=id aM;refine LK (s:=s₂) (o:={cls:=.type "list",dict:=none,data:=.seq ([]:List Value).toArray}) (ns:={cls:=.type "dict",data:=.dict #[]}) (names:=scope.names) rfl rfl rfl fun k4 D0 C0 FJ lst lns FO=>?_
 have low:∀x c,(x,c)∈eI env.cells scope.names []->c<s₂.heap.objs.size:=fun x c q=>(hZ q).elim (fun z=>nomatch z) fun z=>by
  obtain⟨i,k,b,hv,hk⟩:=ok.free (x,.free) z.2 rfl;obtain⟨ov,h1,_⟩:=S.slot i x k b hv;have:c∈hid:=by rcases hk with rfl|rfl<;>(obtain⟨c',q1,q2,_⟩:=h1;rw[z.1]at q1;cases q1;exact q2)
  obtain⟨o,ho⟩:=S.live c this;exact ez (kp.keep c o ho)
 have sj:((s₂.heap.push {cls:=.type "list",dict:=none,data:=.seq ([]:List Value).toArray}).push {cls:=.type "dict",data:=.dict #[]}).objs.size=(s₂.heap.push {cls:=.type "list",dict:=none,data:=.seq ([]:List Value).toArray}).objs.size+1:=ji ..;have aa2:(s₂.heap.push {cls:=.type "list",dict:=none,data:=.seq ([]:List Value).toArray}).objs.size=s₂.heap.objs.size+1:=ji ..;refine C2 (LJ:=fun ø=>none) (X:=((cellsFrom ((s₂.heap.push {cls:=.type "list",dict:=none,data:=.seq ([]:List Value).toArray}).objs.size+1) scope.names (eI env.cells scope.names [])).filter fun y=>decide ((s₂.heap.push {cls:=.type "list",dict:=none,data:=.seq ([]:List Value).toArray}).objs.size+1<=y.2)).map (·.2)) ok ha ht he rm S hlen hl aM k4 D0 C0 FJ ⟨0,lst⟩ ((Heap.Ns.new _ (.type "dict")).keeps (tC _ _)) (fun a q=>?_) (fun a q=>?_) (fun x c hx hc=>?_) (fun x hx=>?_) (fun x y c hx hy=>?_) hT fun s₁ m₁ vs sD sC kp p d ns=>LL _ _ s₁ m₁ l vs e.symm sD sC FJ kp p d ns
 ·obtain⟨y,q0,rfl⟩:=dt.mp q
  exact FO _ (cV (gw.mp q0).2)
 ·obtain⟨⟨x,c⟩,q0,rfl⟩:=dt.mp q
  obtain⟨q1,q2⟩:=gw.mp q0;rw[<-sj]at q1;rcases gA q1 with z|z
  ·have:=low x c z
   have q2:=cV q2;exact absurd this (by show ¬c<_;omega)
  ·exact z.2.elim fun o z=>⟨o,z.1⟩
 ·refine(ko fun z=>?_).trans (HJ hc (ie hx))
  rw[ok.ncell _ z rfl]at hx;cases hx
 ·obtain⟨c,hc⟩:=kr (k:=(s₂.heap.push {cls:=.type "list",dict:=none,data:=.seq ([]:List Value).toArray}).objs.size+1) (acc:=eI env.cells scope.names []) (.inl (ie hx))
  obtain⟨d,hd⟩:=mem_lookup hc;have hm:=lookup_mem hd;have OW:=hm;rw[<-sj]at OW;rcases gA OW with z|z
  ·rcases hZ z with z|z
   ·cases z
   ·rw[ok.free1 _ z.2 rfl]at hx;cases hx
  ·exact⟨d,hd,dt.mpr ⟨(x,d),gw.mpr ⟨hm,bo (sj▸z.1)⟩,rfl⟩,z.2⟩
 ·refine kq (fun x c q=>?_) (fun x y c h1 h2=>?_) x y c (lookup_mem hx) (lookup_mem hy)
  ·have:=low x c q;omega
  ·exact S.iD x y c ((gN h1).resolve_left (fun z=>nomatch z)) ((gN h2).resolve_left (fun z=>nomatch z))
theorem so{elt target iter:Expr}{ifs:List Expr}{scope:Scope}{pos:Pos}{it asg tf ef}{nt:Nat}{cap:List Nat}(hi:LD P n K iter it)(ok:sk K K' nt cap scope){T:Env->Addr}(ha:NL P K' T target asg)(hT:HL scope T)(ht:wo P n K' ifs tf)(he:eo P n K' false elt ef)
  (hs:∀env x,foldedSetIterable iter env x=pure x):Hy P n K (.ListComp elt [⟨target,iter,ifs,0⟩] scope pos) (m4 it asg tf ef nt cap):=fun A env out hid m B s ρ x E rm S hf=>by
 rw[eval_ListComp];refine Ae (use:=none) hi ok ha hT ht he hs E rm S hf fun D C s₁ m₁ l vs hx sD sC FJ kp Af hd zT=>⟨m₁,zT,fun h' wf=>⟨⟨fun b o q=>(wf.2 b fun z=>by rw[z,sC]at q;cases q).trans (kp.keep b o q),kp.gens,kp.os⟩,?_⟩⟩
 subst hx;exact⟨D,vs,rfl,sD,Af.at fun o e=>(wf.2 D (fu FJ)).trans e,(bd.grow (P:=P) hd (fun a o ha e=>(wf.2 a fun z=>ha (by simp[z])).trans e) fun a h=>.inl h).less fun a h=>by simp at h ⊢;exact .inr h⟩
theorem fW{elt target iter:Expr}{ifs:List Expr}{scope:Scope}{pos:Pos}{it asg tf ef}{nt:Nat}{cap:List Nat}(hi:LD P n K iter it)(ok:sk K K' nt cap scope)(ha:Et P K' true target asg)(ht:wo P n K' ifs tf)(he:eo P n K' false elt ef)
 (hs:∀env x,foldedSetIterable iter env x=pure x):Hy P n K (.ListComp elt [⟨target,iter,ifs,0⟩] scope pos) (m4 it asg tf ef nt cap):=so hi ok (w5 ha) .loc ht he hs
theorem Ag{elt iter:Expr}{x:Str}{p:Pos}{ifs:List Expr}{scope:Scope}{pos:Pos}{it tf ef}(i nt:Nat)(cap:List Nat)(hi:LD P n K iter it)(ok:sk K K' nt cap scope)(hv:K'.vars[i]?=some (x,.cell,false))(hx:scope.names.lookup x=some .cell)(ht:wo P n K' ifs tf)(he:eo P n K' false elt ef)
 (hs:∀env x,foldedSetIterable iter env x=pure x):Hy P n K (.ListComp elt [⟨.Name x p,iter,ifs,0⟩] scope pos) (m4 it (fun ρ y=>some (upd ρ i y)) tf ef nt cap):=so hi ok (.cell i hv) (.cell x hx) ht he hs
theorem C3{elt:Expr}{gens:List Comprehension}{scope:Scope}{pos p:Pos}{line:Nat}{x:Str}{env:Env}(hk:env.scope.kind= .function)(hl:env.kindOf x=some .local)(hp:(p.line==pos.line)=true)
  (hn:(scope.names.any fun y=>y.1==x&&(y.2== .local||y.2== .cell))=false):swapsWith (.ListComp elt gens scope pos) (some (.Name x p)) line env=pure true:=by
 unfold swapsWith;have hb:env.blockKind= .function:=by unfold Env.blockKind;simp[hk,ScopeKind.isAnnotationScope]
 have e:(env.blockKind== .function&&env.kindOf x==some .local&&p.line==(Expr.ListComp elt gens scope pos).pos.line&&!(scope.names.any fun y=>y.1==x&&(y.2== .local||y.2== .cell)))=true:=by
  have W4:(p.line==(Expr.ListComp elt gens scope pos).pos.line)=true:=hp;rw[hb,hl,hn,W4];rfl
 show(pure _:Sem Bool)=pure true;exact congrArg _ e
theorem aU.ry{env:Env}{out hid:List Addr}{m}{B s:Shared}{ρ}(S:aU P K env out hid m B s ρ){a c:Addr}(h:a∈hid)(hc:s.heap.get? c=none):a≠c:=fun e=>(S.live a h).elim fun o q=>nomatch(e▸q).symm.trans hc
theorem aU.HN{env:Env}{out hid out' ar:List Addr}{m}{B s s₁:Shared}{ρ}(S:aU P K env out hid m B s ρ)(k:Kp s s₁){D:Addr}(hD:s.heap.get? D=none)(j:Nat)(x' k' a)(hj:K.vars[j]?=some (x',k',true))(e:Value.ref D= .ref a)(la:At env m s₁.heap out' ar x' k' (some (.ref a))):ρ j=none:=by
 obtain⟨ov,q1,q2⟩:=S.slot j x' k' true hj;rw[<-At.NK la q1 fun c v z=>z.keeps k.keep]at q2
 induction er:ρ j with
 |none=>rfl
 |some z=>
  rw[er]at q2;obtain⟨u,e',q2⟩:=q2;obtain⟨ZB,e'',z1,_⟩:=eP.addr (P:=P) q2;exact absurd (Value.ref.inj (e.trans ((Option.some.inj e').trans e''))) (S.ry z1 hD).symm
theorem Ah{env:Env}{out hid:List Addr}{m}{B s s₁:Shared}{ρ}(S:aU P K env out hid m B s ρ){i:Nat}{x:Str}{b:Bool}(Sw:K.vars[i]?=some (x,.local,b)){C:Addr}{m₁}{y:V}{v:Value}{A:Around}{E:Value->Shared->Prop}{p:Pos}(kp:Kp s s₁)(sC:s.heap.get? C=none)(zT:s₁.heap.Ns C m₁){X:List Addr}(hX:∀a∈X,s.heap.get? a=none)(lX:cD s₁.heap X)
  (hv:if b then eP P env.locals s₁.heap ([C]++out) ([C]++(X++hid)) y v else Dn P s₁.heap ([C]++(X++hid)) y v)
  (Ch:b=true->∀(j:Nat) x' k' a,j≠i->K.vars[j]?=some (x',k',true)->v= .ref a->At env m s₁.heap ([C]++out) ([C]++(X++hid)) x' k' (some (.ref a))->ρ j=none):
  wpAny (model P.prog P.w) A (assign (.Name x p) env v) (fun ø hU=>∃m,hU.heap.Ns C m/\∀h',Heap.SameBut C hU.heap h'->Hi P K env out hid B s {hU with heap:=h'} (upd ρ i y) .next .next) E s₁:=by
 have one:∀a∈[C],a=C:=fun a h=>cq.mp h
 obtain⟨o,es,ep,ho,hr⟩:=zT;have W5:=S.HE (W:=[C]) (X:=X) kp (fun a h=>one a h▸sC) (fun a h=>⟨o,one a h▸ho⟩) hX lX;refine lI (W5.store Sw hv Ch (by decide) fun m' hU S' jp ø=>⟨m₁,⟨o,es,ep,jp.keep C o (.inr (.head _)) ho,hr⟩,fun h' wf=>?_⟩);have hk:∀b o,b≠C->hU.heap.get? b=some o->h'.get? b=some o:=fun b o hb q=>(wf.2 b hb).trans q
 have S'':=S'.last (s':={hU with heap:=h'}) (gi:=none) ⟨fun b o hb q=>hk b o (fun z=>hb (z▸ .head _)) q,fun j y ø h=>h,id,rfl⟩ (fun a h=>one a h▸S.fresh sC) (fun g q=>nomatch q) fun a h q=>S.ry (S.oh a h) sC (one a q)
 refine⟨_,m',S'',⟨fun b o hb q=>?_,fun a h=>?_,fun a h=>?_,kp.gens.trans jp.gens,jp.os.trans kp.os⟩,rfl⟩
 ·have ZI:b≠C:=fun e=>nomatch(e▸q).symm.trans sC
  exact hk b o ZI (jp.keep b o (hb.imp (fun hn hm=>(bI.mp hm).elim ZI fun z=>(bZ.mp (show b∈X++hid from z)).elim (fun z=>nomatch(hX b z).symm.trans q) hn) (.tail _)) (kp.keep b o q))
 ·obtain⟨h1,h2⟩:=gw.mp h
  refine(bI.mp h1).elim (fun z=>?_) fun z=>(bZ.mp (show a∈X++hid from z)).elim (fun w=>.inr (hX a w)) .inl
  rw[z,Cv,qQ]at h2;cases h2
 ·refine gw.mpr ⟨.tail _ (ck X h),?_⟩
  rw[Cv,kQ.mpr (S.ry h sC)];rfl
theorem gP(i:Nat){x:Str}{b:Bool}{p W6:Pos}{elt target iter:Expr}{ifs:List Expr}{scope:Scope}{pos:Pos}{it asg tf ef}{nt:Nat}{cap:List Nat}(Sw:K.vars[i]?=some (x,.local,b))
  (hi:LD P n K iter it) (ok:sk K K' nt cap scope) (ha:Et P K' true target asg) (ht:wo P n K' ifs tf) (he:eo P n K' false elt ef)
  (hs:∀env x,foldedSetIterable iter env x=pure x) (hp:(p.line==pos.line)=true) (hn:(scope.names.any fun y=>y.1==x&&(y.2== .local||y.2== .cell))=false):
  zU P n K (.Assign [.Name x p] (.ListComp elt [⟨target,iter,ifs,0⟩] scope pos) W6) (fun ρ=>(m4 it asg tf ef nt cap ρ).map fun y=>(upd ρ i y,.next)):=fun A env out hid m B s ρ aQ fl E rm S hf=>by
 refine cI hf fun y hy e=>pair_inv e ?_
 rw[exec_Assign_Name_used _ _ _ _ (C3 S.fn (S.kind i x _ b Sw) hp hn)];refine aA (lK (aA ?_));show wpAny _ A (do let _ <-comprehension (.ListComp elt [⟨target,iter,ifs,0⟩] scope pos) scope env _ (newList []) false (eval iter env) (some (assign (.Name x p) env))) _ _ s;refine aA (aD (Ae (use:=some (assign (.Name x p) env)) (Q:=fun ø s'=>Hi P K env out hid B s s' (upd ρ i y) .next .next) hi ok (w5 ha) .loc ht he hs E rm S hy fun D C s₁ m₁ l vs hx sD sC FJ kp Af hd zT=>?_) (fun ø s' hq=>bK (bK hq)) fun ø ø e=>e);show wpAny _ A (assign (.Name x p) env (.ref D)) _ _ _;have one:∀a∈[D],a=D:=fun a h=>cq.mp h
 induction b with
 |false=>
  exact Ah S Sw kp sC zT (X:=[]) (fun a h=>nomatch h) (fun a h=>nomatch h) (hx.symm▸Dn.ofList (fun h=>(bI.mp h).elim FJ.symm fun h=>S.ry h sD rfl) Af (hd.less fun a h=>(bI.mp h).elim (fun e=>e▸ .head _) fun h=>.tail _ (.tail _ h))) nofun
 |true=>
  exact Ah S Sw kp sC zT (X:=[D]) (fun a h=>one a h▸sD) (fun a h=>one a h▸Af.elim fun k e=>⟨_,e⟩) (hx.symm▸eP.ofList (.tail _ (.head _)) (fun h=>(bI.mp h).elim FJ.symm fun h=>S.ry (S.oh D h) sD rfl) (fun e=>S.ry S.Lh sD e.symm) Af hd) fun ø j x' k' a hj qM e la=>S.HN kp sD j x' k' a qM e la
end
section
variable{P:Pk}{n:Nat}{K K':Cx}{lo:Bool}
noncomputable def nf(xs:List V):ao:=fun j=>xs[j]?
noncomputable def Sx:ao×Fl->Option V
 |(_,.next)=>some .none
 |(_,.ret x)=>some x
 |_=>none
structure ui(K:Cx)(sc:Scope)(ps:List Str):Prop where
 kind:sc.kind= .function
 vars:∀(j:Nat) x k b,K.vars[j]?=some (x,k,b)->sc.names.lookup x=some k/\(k= .local\/k= .cell)
 pars:∀(j:Nat) x,ps[j]?=some x->∃k,K.vars[j]?=some (x,k,false)
 glob:∀x∈K.aV,sc.names.lookup x=some .globalImplicit
 nodup:∀(i j:Nat) x k b k' b',K.vars[i]?=some (x,k,b)->K.vars[j]?=some (x,k',b')->i=j
noncomputable def LM(K:Cx)(sc:Scope)(ps:List Str):Bool:=
 sc.kind== .function&&(K.vars.all fun z=>sc.names.lookup z.1==some z.2.1&&(z.2.1== .local||z.2.1== .cell))&&decide ((K.vars.take ps.length).map (fun z=>(z.1,z.2.2))=ps.map fun x=>(x,false))&&
 (K.aV.all fun x=>sc.names.lookup x==some .globalImplicit)&&decide (K.vars.map (·.1)).Nodup
theorem ui.of{sc:Scope}{ps:List Str}(h:LM K sc ps=true):ui K sc ps:=by
 simp only[LM,bX,cH,jR,lG,mS]at h;obtain⟨⟨⟨⟨h1,h2⟩,h3⟩,h4⟩,h5⟩:=h;refine⟨h1,fun j x k b hj=>?_,fun j x hj=>?_,h4,fun i j x k b k' b' hi hj=>?_⟩
 ·have:=h2 (x,k,b) (kb hj)
  exact⟨this.1,this.2⟩
 ·have e:((K.vars.take ps.length).map (fun z=>(z.1,z.2.2)))[j]?=some (x,false):=by rw[h3,dh,hj];rfl
  rw[dh]at e;refine cI e fun z hz e=>?_
  rw[List.getElem?_take]at hz;split at hz
  ·obtain⟨x',k,b⟩:=z
   cases e;exact⟨k,hz⟩
  ·cases hz
 ·have e1:(K.vars.map (·.1))[i]?=some x:=by rw[dh,hi];rfl
  have e2:(K.vars.map (·.1))[j]?=some x:=by rw[dh,hj];rfl
  have Sg:i<(K.vars.map (·.1)).length:=by
   by_cases q:i<(K.vars.map (·.1)).length
   ·exact q
   ·rw[nu (by omega)]at e1;cases e1
  exact(List.getElem?_inj Sg h5).mp (e1.trans e2.symm)
set_option tactic.hygienic true in
theorem gU{x:Str}:∀{names:List (Str×NameKind)} {k:Nat} {acc:List (Str×Addr)},((x,NameKind.cell)∈names\/∃c,(x,c)∈acc)->∃c,(x,c)∈cellsFrom k names acc
 |[],k,acc,h=>by
  rcases h with h|h
  ·cases h
  ·exact h
 |(y,kd)::r,k,acc,h=>by
  unfold cellsFrom;split
  ·rename_i hk
   refine gU ?_;rcases h with h|⟨c,h⟩
   ·rcases bI.mp h with q|q
    ·cases q;exact .inr ⟨k,by simp⟩
    ·exact .inl q
   ·exact .inr ⟨c,by simp[h]⟩
  ·rename_i hk
   refine gU ?_;rcases h with h|h
   ·rcases bI.mp h with q|q
    ·cases q;exact absurd rfl hk
    ·exact .inl q
   ·exact .inr h
theorem Ai{kindOf:Str->Option NameKind}:∀{l:List (Str×Value)} {m:Str->Option Value} {x:Str},(∀y∈l,y.1≠x)->bindL kindOf l m x=m x
 |[],_,_,_=>rfl
 |(y,v)::r,m,x,h=>by
  unfold bindL;rw[Ai fun z hz=>h z (by simp[hz])];have:x≠y:=fun e=>h (y,v) (by simp) e.symm
  split
  ·simp[this]
  ·rfl
theorem Aj{kindOf:Str->Option NameKind}:∀{l:List (Str×Value)} {m:Str->Option Value} {x:Str},(∀y∈l,y.1≠x)->bindC kindOf l m x=m x
 |[],_,_,_=>rfl
 |(y,v)::r,m,x,h=>by
  unfold bindC;rw[Aj fun z hz=>h z (by simp[hz])];have:x≠y:=fun e=>h (y,v) (by simp) e.symm
  split
  ·rfl
  ·simp[this]
theorem Ak{kindOf:Str->Option NameKind}:∀{ps:List Str} {vs:List Value} {m:Str->Option Value} {j:Nat} {x:Str} {v:Value},ps.Nodup->ps[j]?=some x->vs[j]?=some v->kindOf x=some .local->bindL kindOf (ps.zip vs) m x=some v
 |[],_,_,_,_,_,_,h,_,_=>by simp at h
 |_::_,[],_,_,_,_,_,_,h,_=>by simp at h
 |p::ps,u::vs,m,0,x,v,hn,hp,hv,hk=>by
  simp at hp hv;subst hp;subst hv;rw[pn];unfold bindL;rw[aw hk,Ai (x:=p) fun y hy e=>(mU.mp hn).1 (by have:=(List.of_mem_zip hy).1;rwa[e]at this)];simp
 |p::ps,u::vs,m,j+1,x,v,hn,hp,hv,hk=>by
  rw[pn];unfold bindL;exact Ak (mU.mp hn).2 (by simpa using hp) (by simpa using hv) hk
theorem Al{kindOf:Str->Option NameKind}:∀{ps:List Str} {vs:List Value} {m:Str->Option Value} {j:Nat} {x:Str} {v:Value},ps.Nodup->ps[j]?=some x->vs[j]?=some v->kindOf x≠some .local->bindC kindOf (ps.zip vs) m x=some v
 |[],_,_,_,_,_,_,h,_,_=>by simp at h
 |_::_,[],_,_,_,_,_,_,h,_=>by simp at h
 |p::ps,u::vs,m,0,x,v,hn,hp,hv,hk=>by
  simp at hp hv;subst hp;subst hv;rw[pn];unfold bindC;rw[au hk,Aj (x:=p) fun y hy e=>(mU.mp hn).1 (by have:=(List.of_mem_zip hy).1;rwa[e]at this)];simp
 |p::ps,u::vs,m,j+1,x,v,hn,hp,hv,hk=>by
  rw[pn];unfold bindC;exact Al (mU.mp hn).2 (by simpa using hp) (by simpa using hv) hk
end
section
variable{P:Pk}{n:Nat}{K K':Cx}{lo:Bool}
theorem aU.perm{env:Env}{out hid ar:List Addr}{m}{B s:Shared}{ρ}(S:aU P K env out hid m B s ρ)(h:∀a,a∈ar<->a∈hid):aU P K env out ar m B s ρ:=
 S.grow (.refl s) (fun a q=>(h a).mpr q) (fun a q=>.inl ((h a).mp q)) fun a q=>S.live a ((h a).mp q)
inductive kt(P:Pk)(L:Addr)(h:Heap)(out hid:List Addr):List Bool->List V->List Value->List Addr->Prop
 |nil:kt P L h out hid [] [] [] []
 |dat {bs xs vs H x v} (d:Dn P h hid x v) (r:kt P L h out hid bs xs vs H):kt P L h out hid (false::bs) (x::xs) (v::vs) H
 |box {bs xs vs H x a} (ha:a∉H) (b:eP P L h out hid x (.ref a)) (r:kt P L h out hid bs xs vs H):kt P L h out hid (true::bs) (x::xs) (.ref a::vs) (a::H)
theorem kt.grow{L:Addr}{h h':Heap}{out hid ar:List Addr}(hk:∀a o,h.get? a=some o->h'.get? a=some o)(hh:∀a∈hid,a∈ar)(hn:∀a∈ar,a∈hid\/h.get? a=none){bs:List Bool}{xs:List V}{vs:List Value}{H:List Addr}(e:kt P L h out hid bs xs vs H):kt P L h' out ar bs xs vs H:=by
 induction e with
 |nil=>exact .nil
 |dat d _ ih=>exact .dat (Dn.grow (P:=P) d (fun a o ø q=>hk a o q) hn) ih
 |box ha b _ ih=>exact .box ha (eP.grow (P:=P) b hk hh hn) ih
inductive Sy(P:Pk)(K:Cx)(env:Env)(out hid:List Addr)(m:Str->Option Value)(B s s':Shared)(ρ:ao)(bs:List Bool)(xs:List V)(vs:List Value):Prop
 |mk (H:List Addr) (S:aU P K env out (H++hid) m B s' ρ) (k:Kp s s') (n:∀a∈H,s.heap.get? a=none) (r:kt P env.locals s'.heap out (H++hid) bs xs vs H):Sy P K env out hid m B s s' ρ bs xs vs
noncomputable def fX(P:Pk)(n:Nat)(K:Cx)(es:List Expr)(bs:List Bool)(f:ao->Option (List V)):Prop:=
 ∀(A:Around) (env:Env) (out hid:List Addr) (m:Str->Option Value) (B s:Shared) (ρ:ao) (xs:List V) (E:Value->Shared->Prop) (pos:Pos),cJ n A->aU P K env out hid m B s ρ->f ρ=some xs->
  wpAny (model P.prog P.w) A (spliced (backTo pos (starEach es env))) (fun vs s'=>Sy P K env out hid m B s s' ρ bs xs vs) E s
theorem fX.nil:fX P n K [] [] fun ø=>some []:=fun A env out hid m B s ρ x E pos rm S hf=>by
 cases hf;exact nA ⟨[],S,.refl s,fun a h=>(nomatch h),.nil⟩
theorem fX.dat{e:Expr}{es:List Expr}{bs f g}(h:eo P n K false e f)(hs:fX P n K es bs g)(he:∀env,starEach (e::es) env=(false,eval e env)::starEach es env):fX P n K (e::es) (false::bs) (cW f g):=
 fun A env out hid m B s ρ x E pos rm S hf=>by
 refine ak hf fun y hy gu=>?_
 clear hf;rename _=>hf
 refine ak hf fun ys Ho gu=>?_
 clear hf;rename _=>hf
 cases hf;refine nq (aD (h A env out hid m B s ρ y E rm S hy) (fun v s₁ aj=>?_) fun ø ø q=>q) (he env);refine aD (hs A env out hid m B s₁ ρ ys E pos rm (S.after aj.1) Ho) (fun vs s₂ aM=>?_) fun ø ø q=>q
 obtain⟨H,dI,k₂,hH,hr⟩:=aM;refine⟨H,dI,aj.1.trans k₂,fun a q=>?_,.dat (Dn.grow (P:=P) aj.2 (fun a o ø z=>k₂.keep a o z) (fun a q=>(bZ.mp q).elim (fun z=>.inr (hH a z)) .inl)) hr⟩
 cases e:s.heap.get? a with
 |none=>rfl
 |some o=>have:=hH a q;rw[aj.1.keep a o e]at this;cases this
theorem fX.new{e:Expr}{es:List Expr}{bs f g}(h:Hy P n K e f)(hs:fX P n K es bs g)(he:∀env,starEach (e::es) env=(false,eval e env)::starEach es env):fX P n K (e::es) (true::bs) (cW f g):=
 fun A env out hid m B s ρ x E pos rm S hf=>by
 refine ak hf fun y hy gu=>?_
 clear hf;rename _=>hf
 refine ak hf fun ys Ho gu=>?_
 clear hf;rename _=>hf
 cases hf;refine nq (aD (h A env out hid m B s ρ y E rm S hy) (fun v s₁ aj=>?_) fun ø ø q=>q) (he env);obtain⟨a,rfl,ha,hah,ON,Li⟩:=Hx.box (P:=P) (out:=out) (L:=env.locals) aj.2 S.live S.oh S.Lh;have new:∀b∈a::hid,b∈hid\/s.heap.get? b=none:=fun b hb=>(bI.mp hb).elim (fun q=>.inr (q▸ha)) .inl
 have live:cD s₁.heap (a::hid):=fun b hb=>(bI.mp hb).elim (fun q=>q▸Li) (S.live.kp aj.1 b)
 have bC:=S.grow aj.1 (fun b q=>ge _ q) new live;refine aD (hs A env out (a::hid) m B s₁ ρ ys E pos rm bC Ho) (fun vs s₂ aM=>?_) fun ø ø q=>q
 obtain⟨H,dI,k₂,hH,hr⟩:=aM;have hp:∀b,b∈(a::H)++hid<->b∈H++(a::hid):=fun b=>by simp;constructor<;>rintro(q|q|q)<;>simp[q]
 have Vy:a∉H:=fun q=>by obtain⟨o,z⟩:=Li;rw[hH a q]at z;cases z
 refine⟨a::H,dI.perm hp,aj.1.trans k₂,fun b q=>?_,.box Vy ?_ ?_⟩
 ·rcases bI.mp q with rfl|q
  ·exact ha
  ·cases e:s.heap.get? b with
   |none=>rfl
   |some o=>have:=hH b q;rw[aj.1.keep b o e]at this;cases this
 ·exact eP.grow (P:=P) ON k₂.keep (fun b q=>by simp at q ⊢;rcases q with q|q<;>simp[q]) fun b q=>by
   rcases bZ.mp q with q|q
   ·rcases bI.mp q with rfl|q
    ·exact .inl (by simp)
    ·exact .inr (hH b q)
   ·exact .inl (by simp[q])
 ·exact kt.grow (P:=P) (fun ø ø q=>q) (fun b q=>(hp b).mpr q) (fun b q=>.inl ((hp b).mp q)) hr
theorem kt.app{L:Addr}{h:Heap}{out hid:List Addr}{ZJ:List Bool}{NO:List V}{we:List Value}{H':List Addr}(e':kt P L h out hid ZJ NO we H'){bs:List Bool}{xs:List V}{vs:List Value}{H:List Addr}(hd:∀a∈H,a∉H')(e:kt P L h out hid bs xs vs H):kt P L h out hid (bs++ZJ) (xs++NO) (vs++we) (H++H'):=by
 induction e with
 |nil=>exact e'
 |dat d _ ih=>exact .dat d (ih hd)
 |box ha b _ ih=>exact .box (fun q=>(bZ.mp q).elim ha (hd _ gJ)) b (ih fun c q=>hd c (ge _ q))
theorem kt.rev{L:Addr}{h:Heap}{out hid:List Addr}{bs:List Bool}{xs:List V}{vs:List Value}{H:List Addr}(e:kt P L h out hid bs xs vs H):kt P L h out hid bs.reverse xs.reverse vs.reverse H.reverse:=by
 induction e with
 |nil=>exact .nil
 |dat d _ ih=>
  have:=kt.app (.dat d .nil) (fun a ø q=>nomatch q) ih;rw[lL,lL,lL];rwa[ea]at this
 |box ha b _ ih=>
  rw[lL,lL,lL,lL];exact kt.app (.box tF b .nil) (fun c hc q=>ha (cq.mp q▸List.mem_reverse.mp hc)) ih
theorem kt.but{L:Addr}{h h':Heap}{out hid:List Addr}(hk:∀a o,a∉hid->h.get? a=some o->h'.get? a=some o)(hb:∀a o,mZ h a->a≠L->h.get? a=some o->h'.get? a=some o){bs:List Bool}{xs:List V}{vs:List Value}{H:List Addr}(e:kt P L h out hid bs xs vs H):kt P L h' out hid bs xs vs H:=by
 induction e with
 |nil=>exact .nil
 |dat d _ ih=>exact .dat (Dn.grow (P:=P) d hk fun a q=>.inl q) ih
 |box ha b _ ih=>
  obtain⟨a',e,_,_,h3,h4⟩:=eP.addr (P:=P) b;cases e;exact .box ha (eP.keep (P:=P) b (fun o q=>hb _ o h4 h3 q) hk (fun ø q=>q) fun a q=>.inl q) ih
noncomputable def nP(ρ:ao):List Nat->List V->ao
 |i::is,x::xs=>nP (upd ρ i x) is xs
 |_,_=>ρ
theorem LN(ρ:ao)(i:Nat)(is:List Nat)(x:V)(xs:List V):nP ρ (i::is) (x::xs)=nP (upd ρ i x) is xs:=rfl
theorem LO(ρ:ao)(l:List V):nP ρ [] l=ρ:=rfl
theorem LP(ρ:ao)(i:Nat)(is:List Nat):nP ρ (i::is) []=ρ:=rfl
theorem HO(ρ:ao){i j:Nat}(x y:V)(h:i≠j):upd (upd ρ i x) j y=upd (upd ρ j y) i x:=by
 funext k
 by_cases hj:k=j
 ·subst hj;rw[kY,iE _ _ (fu h),kY]
 ·rw[iE _ _ hj]
  by_cases hi:k=i
  ·subst hi;rw[kY,kY]
  ·rw[iE _ _ hi,iE _ _ hi,iE _ _ hj]
theorem Am:∀(is:List Nat) (xs:List V) (ρ:ao) (i:Nat) (x:V),i∉is->nP (upd ρ i x) is xs=upd (nP ρ is xs) i x
 |[],xs,ρ,i,x,_=>by cases xs<;>rfl
 |j::is,[],ρ,i,x,_=>rfl
 |j::is,y::xs,ρ,i,x,h=>by
  simp only[LN,LO,LP];rw[HO ρ x y (fun e=>h (by simp[e])),Am is xs (upd ρ j y) i x fun q=>h (by simp[q])]
theorem FP(i:Nat)(x:V):∀(is:List Nat) (xs:List V) (ρ:ao),is.length=xs.length->nP ρ (is++[i]) (xs++[x])=upd (nP ρ is xs) i x:=by
 intro is
 induction is with
 |nil=>
  intro xs ρ h
  cases xs with
  |nil=>rfl
  |cons=>cases h
 |cons j is ih=>
  intro xs ρ h
  cases xs with
  |nil=>cases h
  |cons y xs=>exact ih xs _ (Nat.succ.inj h)
theorem HP:∀(is:List Nat) (xs:List V) (ρ:ao),is.Nodup->is.length=xs.length->nP ρ is.reverse xs.reverse=nP ρ is xs:=by
 intro is
 induction is with
 |nil=>
  intro xs ρ _ h
  cases xs with
  |nil=>rfl
  |cons=>cases h
 |cons i is ih=>
  intro xs ρ hn h
  cases xs with
  |nil=>cases h
  |cons x xs=>
   have hl:is.length=xs.length:=Nat.succ.inj h;rw[lL,lL,FP _ _ _ _ _ (by rw[List.length_reverse,List.length_reverse];exact hl),ih xs ρ (mU.mp hn).2 hl];exact(Am is xs ρ i x (mU.mp hn).1).symm
structure HQ(K:Cx)(ts:List (Nat×Str×NameKind×Bool)):Prop where
 vars:∀t∈ts,K.vars[t.1]?=some (t.2.1,t.2.2.1,t.2.2.2)/\t.2.2.1≠ .free
 nodup:(ts.map (·.1)).Nodup
theorem yg{M:Model}{A:Around}{env:Env}{out hid:List Addr}{B:Shared}{E:Value->Shared->Prop}:∀(ts:List (Nat×Str×NameKind×Bool)) (fs:List (Value->Sem Unit)) (xs:List V) (vs:List Value) (H:List Addr) (m:Str->Option Value) (s:Shared) (ρ:ao),HQ K ts->
  fs.length=ts.length->(∀(j:Nat) t f,ts[j]?=some t->fs[j]?=some f->∀v s Q,wpAny M A (storeName env t.2.1 v) Q E s->wpAny M A (f v) Q E s)->aU P K env out hid m B s ρ->kt P env.locals s.heap out hid (ts.map (·.2.2.2)) xs vs H->
  (∀(j:Nat) x' k' a,a∈H->K.vars[j]?=some (x',k',true)->At env m s.heap out hid x' k' (some (.ref a))->ρ j=none)->
  wpAny M A (assignInOrder fs vs) (fun ø s'=>∃m',aU P K env out hid m' B s' (nP ρ (ts.map (·.1)) xs)/\Ks out hid hid s s') E s:=by
 intro ts
 induction ts with
 |nil=>
  intro fs xs vs H m s ρ ok hl hf S hr hi
  cases fs with
  |cons=>cases hl
  |nil=>
   cases hr;exact wpAny_assignInOrder_none ⟨m,S,.refl ..⟩
 |cons t ts ih=>
  intro fs xs vs H m s ρ ok hl hf S hr hi;obtain⟨i,x,k,b⟩:=t
  cases fs with
  |nil=>cases hl
  |cons f fs=>
   obtain⟨hv,hk⟩:=ok.vars (i,x,k,b) (by simp);have Vx:HQ K ts:=⟨fun t ht=>ok.vars t (by simp[ht]),(mU.mp ok.nodup).2⟩;have hni:∀t∈ts,t.1≠i:=fun t ht e=>(mU.mp ok.nodup).1 (e▸dt.mpr ⟨t,ht,rfl⟩)
   have go:∀(y:V) (v:Value) (NO:List V) (we:List Value) (H':List Addr),(if b then eP P env.locals s.heap out hid y v else Dn P s.heap hid y v)->kt P env.locals s.heap out hid (ts.map (·.2.2.2)) NO we H'->(∀a∈H',a∈H)->(b=true->∀a,v= .ref a->a∈H/\a∉H')->
     wpAny M A (assignInOrder (f::fs) (v::we)) (fun ø s'=>∃m',aU P K env out hid m' B s' (nP (upd ρ i y) (ts.map (·.1)) NO)/\Ks out hid hid s s') E s:=fun y v NO we H' hyv Ru hH ha=>by
    refine wpAny_assignInOrder_more (hf 0 (i,x,k,b) f rfl rfl v s _ (S.store hv hyv (fun hb j x' k' a hj qM e la=>hi j x' k' a (ha hb a e).1 qM la) hk fun m' s' S' K' l7=>?_));have Lj:∀a o,a∉hid->s.heap.get? a=some o->s'.heap.get? a=some o:=fun a o q=>K'.keep a o (.inl q)
    have W7:kt P env.locals s'.heap out hid (ts.map (·.2.2.2)) NO we H':=kt.but Lj l7.2.2.1 Ru;refine aD (ih fs NO we H' m' s' (upd ρ i y) Vx (Nat.succ.inj hl) (fun j t f' h1 h2=>hf (j+1) t f' h1 h2) S' W7 (fun j x' k' a Vy qM la=>?_)) (fun _ s₂ ⟨m₂,dI,ru⟩=>⟨m₂,dI,K'.trans ru⟩) fun ø ø q=>q
    by_cases CU:j=i
    ·subst CU
     exfalso;rw[hv]at qM;cases qM;have:=At.fun l7.2.2.2 la
     cases this;exact(ha rfl a rfl).2 Vy
    ·rw[iE _ _ CU]
     exact hi j x' k' a (hH a Vy) qM (l7.2.1 j x' k' true _ CU qM la)
   cases hr with
   |dat d r=>exact go _ _ _ _ H d r (fun a q=>q) (fun q=>nomatch q)
   |box ha bx r=>exact go _ _ _ _ _ bx r (fun b q=>ge _ q) (fun ø a' e=>by cases e;exact⟨gJ,ha⟩)
theorem Ey{M:Model}{A:Around}{env:Env}{out hid H:List Addr}{m:Str->Option Value}{B s s₁ s₂:Shared}{ρ:ao}{E:Value->Shared->Prop}{ts:List (Nat×Str×NameKind×Bool)}{fs:List (Value->Sem Unit)}{xs:List V}{vs:List Value}(S:aU P K env out hid m B s ρ)
  (ok:HQ K ts) (bC:aU P K env out (H++hid) m B s₁ ρ) (k₁:Kp s s₁) (hH:∀a∈H,s.heap.get? a=none) (hr:kt P env.locals s₁.heap out (H++hid) (ts.map (·.2.2.2)) xs vs H) (k₂:Kp s₁ s₂)
  (hl:fs.length=ts.length) (hf:∀(j:Nat) t f,ts[j]?=some t->fs[j]?=some f->∀v s Q,wpAny M A (storeName env t.2.1 v) Q E s->wpAny M A (f v) Q E s):
  wpAny M A (assignInOrder fs vs) (fun ø s'=>Hi P K env out hid B s s' (nP ρ (ts.map (·.1)) xs) .next .next) E s₂:=by
 have dI:=bC.after k₂;have new:∀b∈H++hid,b∈hid\/s.heap.get? b=none:=fun b hb=>(bZ.mp hb).elim (fun q=>.inr (hH b q)) .inl
 refine aD (yg ts fs xs vs H m s₂ ρ ok hl hf dI (kt.grow (P:=P) k₂.keep (fun ø q=>q) (fun a q=>.inl q) hr) (fun j x' k' a ha qM la=>?_)) (fun _ s' ⟨m',S',K'⟩=>⟨H++hid,m',S',?_,rfl⟩) fun ø ø q=>q
 ·obtain⟨ov,q1,q2⟩:=S.slot j x' k' true qM
  have:=At.NK la q1 fun c v q=>q.keeps (k₁.trans k₂).keep
  subst this
  cases er:ρ j with
  |none=>rfl
  |some z=>
   rw[er]at q2;obtain⟨u,e,q2⟩:=q2;cases e;obtain⟨ZB,e,z1,_⟩:=eP.addr (P:=P) q2;cases e;obtain⟨o,ho⟩:=S.live a z1;rw[hH a ha]at ho;cases ho
 ·exact⟨fun b o hb q=>K'.keep b o (hb.imp (fun z hm=>(bZ.mp hm).elim (fun w=>by rw[hH b w]at q;cases q) z) id) ((k₁.trans k₂).keep b o q),new,fun b q=>ck _ q,(k₁.trans k₂).gens.trans K'.gens,K'.os.trans (k₁.trans k₂).os⟩
noncomputable abbrev lb(ts:List (Nat×Str×NameKind×Bool))(ps:List Pos):List Expr:=(ts.zip ps).map fun t=>.Name t.1.2.1 t.2
theorem ld(env:Env):∀(ts:List (Nat×Str×NameKind×Bool)) (ps:List Pos),(assignEach (lb ts ps) env).map (·.2)=(lb ts ps).map (fun t=>assign t env)/\(assignEach (lb ts ps) env).length=(lb ts ps).length/\(assignEach (lb ts ps) env).findIdx? (·.1)=none
 |[],_=>⟨rfl,rfl,rfl⟩
 |_::_,[]=>⟨rfl,rfl,rfl⟩
 |t::ts,p::ps=>by
  obtain⟨h1,h2,h3⟩:=ld env ts ps;have e:assignEach (lb (t::ts) (p::ps)) env=(false,assign (.Name t.2.1 p) env)::assignEach (lb ts ps) env:=rfl;rw[e];refine⟨?_,?_,?_⟩
  ·rw[bB,h1];rfl
  ·rw[cr,h2];rfl
  ·rw[List.findIdx?_cons];simp[h3]
theorem gQ{ts:List (Nat×Str×NameKind×Bool)}{ps:List Pos}{es:List Expr}{k k':Nat}{p p' pos:Pos}{f}(ok:HQ K ts)(C4:ps.length=ts.length)(h:fX P n K es (ts.map (·.2.2.2)) f)(hes:ts.length<=100)(hlen:∀ρ x,f ρ=some x->x.length=ts.length)
  (OX:∀env out hid H h xs vs,kt P env h out hid (ts.map (·.2.2.2)) xs vs H->vs.length=ts.length)
  (ZK:∀env,swapsWithSole [.Tuple (lb ts ps) k p] (.Tuple es k' p') pos.line env=pure false)
  (iX:(∀env,(∀(i:Nat) x kd b,K.vars[i]?=some (x,kd,b)->env.kindOf x=some kd)->env.scope.kind= .function->swappedStores [.Tuple (lb ts ps) k p] (.Tuple es k' p') env=pure none\/swappedStores [.Tuple (lb ts ps) k p] (.Tuple es k' p') env=pure (some (ts.map (·.2.1))))):
  zU P n K (.Assign [.Tuple (lb ts ps) k p] (.Tuple es k' p') pos) (fun ρ=>(f ρ).map fun xs=>(nP ρ (ts.map (·.1)) xs,.next)):=fun A env out hid m B s ρ aQ fl E rm S hf=>by
 refine cI hf fun xs yb e=>?_
 clear hf
 first|refine pair_inv e ?_;clear e|cases e
 have hlx:=hlen _ _ yb;have RB:(lb ts ps).length=ts.length:=by simp[C4]
 have vals:∀(R:Value->Shared->Prop),(∀vs s₁ H,aU P K env out (H++hid) m B s₁ ρ->Kp s s₁->(∀a∈H,s.heap.get? a=none)->kt P env.locals s₁.heap out (H++hid) (ts.map (·.2.2.2)) xs vs H->vs.length=ts.length->R (.ref s₁.heap.objs.size) {s₁ with heap:=s₁.heap.push {cls:=.type "tuple",data:=.seq vs.toArray} })->
   wpAny (model P.prog P.w) A (eval (.Tuple es k' p') env) R E s:=fun R hR=>by
  refine wpAny_Tuple (aD (h A env out hid m B s ρ xs E p' rm S yb) (fun vs s₁ aj=>?_) fun ø ø q=>q);obtain⟨H,bC,k₁,hH,hr⟩:=aj;have:=OX _ _ _ _ _ _ _ hr;exact⟨by rw[this,jQ];omega,hR vs s₁ H bC k₁ hH hr this⟩
 rcases iX env S.kind S.fn with iX|iX
 ·refine wpAny_Assign_stores (vals _ fun vs s₁ H bC k₁ hH hr OX=>?_) (ZK env) iX
  show wpAny _ A (assignAll _ [assign (.Tuple (lb ts ps) k p) env]) _ E _;obtain⟨a1,a2,a3⟩:=ld env ts ps;refine Cr rm.handled (items:=vs.toArray) ⟨_,bJ _ rfl,rfl,0,rfl⟩ ?_ a3 fun h' hx=>?_
  ·rw[a2,RB,cb,OX]
  ·rw[a1]
   refine Ey (m:=m) (s₁:=s₁) S ok bC k₁ hH hr ?_ (by simp[C4]) fun j t f h1 h2 v s Q hq=>?_
   ·refine .heap fun b o q=>hx b o (fun z=>?_) (bz _ q)
    have:=ez q;rw[z,ji]at this;exact absurd this (g8.mpr (jT _))
   ·rw[dh,dh]at h2
    refine cI h2 ?_;rintro e he rfl;refine cI he ?_;rintro⟨t',p''⟩ Hj rfl;rw[xK]at Hj;rw[h1]at Hj;cases Hj.1;exact lI hq
 ·refine PyProof.Rows.Assign_Tuple_swapped (names:=ts.map (·.2.1)) (vals _ fun vs s₁ H bC k₁ hH hr OX=>?_) (ZK env) iX
  have hq:(ts.map (·.2.1)).length=vs.toArray.size:=by rw[List.length_map,cb,OX]
  rw[hq];refine wpAny_unpackItems_tuple rm.handled (items:=vs.toArray) ⟨_,bJ _ rfl,rfl,0,rfl⟩ fun h' hx=>?_
  have Ru:=kt.rev hr;rw[<-List.map_reverse]at Ru;have Vx:HQ K ts.reverse:=⟨fun t ht=>ok.vars t (List.mem_reverse.mp ht),by rw[List.map_reverse];exact((List.reverse_perm _).nodup_iff).mpr ok.nodup⟩;have key:=Ey (M:=model P.prog P.w) (A:=A) (E:=E) (m:=m) (s₁:=s₁) (s₂:={s₁ with heap:=h'}) (H:=H.reverse) (fs:=(ts.map (·.2.1)).reverse.map fun n=>bindName env n) S Vx (bC.perm fun a=>by simp) k₁ (fun a ha=>hH a (by simpa using ha))
   (kt.grow (P:=P) (fun ø ø q=>q) (fun b q=>by simpa using q) (fun b q=>.inl (by simpa using q)) Ru) ?_ (by simp) fun j t f h1 h2 v s Q hq=>?_
  ·have e:nP ρ (ts.reverse.map (·.1)) xs.reverse=nP ρ (ts.map (·.1)) xs:=by rw[List.map_reverse];exact HP _ _ _ ok.nodup (by simp[hlx])
   rw[e]at key;exact key
  ·refine .heap fun b o q=>hx b o (fun z=>?_) (bz _ q)
   have:=ez q;rw[z,ji]at this;exact absurd this (g8.mpr (jT _))
  ·rw[<-List.map_reverse,iL,dh,h1]at h2
   cases h2;exact wpAny_bindName hq
end
section
variable{P:Pk}{n:Nat}{K K':Cx}{lo:Bool}
inductive Ez(M:Model)(A:Around)(E:Value->Shared->Prop)(o i:Value)(Q:Value->Shared->Prop)(s:Shared):Prop
 |mk (T id:String) (l:typeLookup (.type T) "__getitem__"=pure (some (.builtin id))) (t:s.TypeIs o T) (h:wpAny M A (getItem o i) Q E s):Ez M A E o i Q s
theorem rz{prog:Program}{w:World}{A:Around}{E:Value->Shared->Prop}{env:Env}{value slice:Expr}{pos:Pos}{s:Shared}{Q:Value->Shared->Prop}
  (h:wpAny (model prog w) A (eval value env) (fun o s₁=>wpAny (model prog w) A (eval slice env) (fun i s₂=>Ez (model prog w) A E o i Q s₂) E s₁) E s)
  (hs:∀o i,∃ops,subscripted slice false o i=operate ops (getItem o i)):wpAny (model prog w) A (eval (.Subscript value slice pos) env) Q E s:=by
 refine Subscript_ (aD h (fun o s₁ aj=>aD aj (fun i s₂ aM=>?_) fun ø ø q=>q) fun ø ø q=>q);obtain⟨T,id,hl,hT,hg⟩:=aM;unfold subscriptTail;refine aA ?_;rw[getitemInPython_of_ne hT.not_modules];refine aA (xL hT hl ?_);obtain⟨ops,e⟩:=hs o i;have fin:wpAny (model prog w) A (subscripted slice false o i) (fun r s₃=>wpAny (model prog w) A (letTemporaryGo value o r>>= fun ø=>pure r) Q E s₃) E s₂:=by
  rw[e];exact wpAny_operating (aD hg (fun r s₃ eu=>aA (wpAny_letTemporaryGo (bK eu))) fun ø ø x=>x)
 first
  |exact bK (aA fin)
  |exact aA (bK (aA fin))
  |exact aA fin
noncomputable def p0:List Int->List V->Int->Option V
 |k::ks,v::vs,q=>if k=q then some v else p0 ks vs q
 |_,_,_=>none
theorem sX(k:Int)(ks:List Int)(v:V)(vs:List V)(q:Int):p0 (k::ks) (v::vs) q=if k=q then some v else p0 ks vs q:=rfl
theorem EA(l:List V)(q:Int):p0 [] l q=none:=rfl
theorem EB(k:Int)(ks:List Int)(q:Int):p0 (k::ks) [] q=none:=rfl
theorem uj{h:Heap}{hid:List Addr}{q:Int}:∀{ks:List Int} {xs:List V} {vs:List Value},vs.length=ks.length->bd P h hid xs vs->match p0 ks xs q with
  |some z=>∃v,valueAt (ks.zip vs) q=some v/\Dn P h hid z v
  |none=>valueAt (ks.zip vs) q=none
 |[],xs,vs,hl,hd=>by simp[sX,EA,EB,valueAt]
 |k::ks,[],vs,hl,hd=>by
  obtain rfl:=bd.nil_inv hd;simp at hl
 |k::ks,x::xs,vs,hl,hd=>by
  obtain⟨v,r,rfl,h1,h2⟩:=bd.cons_inv hd;have ih:=uj (q:=q) (ks:=ks) (by simpa using hl) h2;rw[sX];by_cases hk:k=q
  ·subst hk
   rw[aw rfl];exact⟨v,by simp[valueAt],h1⟩
  ·rw[au hk]
   have e:valueAt ((k::ks).zip (v::r)) q=valueAt (ks.zip r) q:=by simp[valueAt,hk]
   rw[e];exact ih
noncomputable def w6(ks:List Int)(q:Int):List Int:=if ks.contains q then ks else ks++[q]
noncomputable def An(ks:List Int)(vs:List V)(q:Int)(x:V):List V:=if ks.contains q then List.zipWith (fun k v=>if k=q then x else v) ks vs else vs++[x]
noncomputable def iP(x y:V):Option V:=y.int?.bind fun i=>match x with
 | .list l=>if l.length<=most then(hV i l.length).bind (l[·]?)else none
 | .tup l=>if l.length<=most then(hV i l.length).bind (l[·]?)else none
 | .str l=>if l.length<=most then((hV i l.length).bind (l[·]?)).map fun c=>.str [c]else none
 | .dict ks vs=>p0 ks vs i
 |_=>none
theorem LQ(l:List V)(i:Int):iP (.list l) (.int i)=if l.length<=most then(hV i l.length).bind (l[·]?)else none:=id rfl
theorem LR(l:List V)(i:Int):iP (.tup l) (.int i)=if l.length<=most then(hV i l.length).bind (l[·]?)else none:=id rfl
theorem EC(l:List Nat)(i:Int):iP (.str l) (.int i)=if l.length<=most then((hV i l.length).bind (l[·]?)).map fun c=>.str [c]else none:=id rfl
theorem yh{γ:Type}{c:Prop}[Decidable c]{o:Option γ}{z:γ}{G:Prop}(h:(if c then o else none)=some z)(k:c->o=some z->G):G:=by
 by_cases q:c
 ·rw[aw q]at h;exact k q h
 ·rw[au q]at h;cases h
theorem rA{i:Int}{n k:Nat}(h:hV i n=some k)(hn:n<=most):seqIndex? i n=some k/\ -(2^63)<=i/\i<2^63/\k<n:=by
 have hm:most=1000000:=rfl;unfold hV at h;refine⟨(Aa h hn).1,?_⟩;by_cases h0:0<=i
 ·rw[aw h0]at h
  exact eR h fun h1 e=>⟨kf (by decide) h0,Int.lt_of_lt_of_le h1 (kf (jU.mpr hn) (by decide)),e▸(Int.toNat_lt h0).mpr h1⟩
 ·rw[au h0]at h
  exact eR h fun h1 e=>⟨kf (Int.neg_le_neg (kf (jU.mpr hn) (by decide))) (Int.le_of_add_le_add_right (b:=(n:Int)) (by rw[Int.add_left_neg];exact h1)),Int.lt_trans (mV.mp h0) (by decide),e▸(Int.toNat_lt h1).mpr (Int.lt_of_lt_of_le (Int.add_lt_add_right (mV.mp h0) n) (Int.le_of_eq (Int.zero_add _)))⟩
theorem FQ{i:Int}{n k:Nat}(h:hV i n=some k)(h0:¬0<=i):i<0/\0<=i+n/\k=(i+n).toNat:=by
 unfold hV at h;rw[au h0]at h;exact eR h fun h1 e=>⟨mV.mp h0,h1,e.symm⟩
theorem FR{i:Int}{n k:Nat}(h:hV i n=some k)(h0:0<=i):k=i.toNat:=by
 unfold hV at h;rw[aw h0]at h;exact eR h fun h1 e=>e.symm
theorem OY{A:Around}{s:Shared}{hid:List Addr}{x y z:V}{u v:Value}{E:Value->Shared->Prop}(rm:cJ 0 A)(hx:Dn P s.heap hid x u)(hy:Dn P s.heap hid y v)(hf:iP x y=some z):
  Ez (model P.prog P.w) A E u v (fun r s'=>Kp s s'/\Dn P s'.heap hid z r) s:=by
 refine ak hf fun i hi hf=>hy.int_k hi fun t'=>?_
 clear hy hi
 cases x with
 |str l=>
  refine yh hf fun hle hf=>cI hf fun c hc e=>ak hc fun k hk hc=>?_
  subst e;obtain⟨h1,h2,h3,h4⟩:=rA hk hle;refine hx.str_k rfl fun t=>?_
  refine⟨"str","str.__getitem__",F.slot_str_getitem.lookup,qW _ _ _,PyProof.Rows.getItem_str (c:=c) ?_ ?_ ⟨Kp.toks s _,.ofStr [c] _⟩⟩
  ·clear hf hc hx hk;simp;omega
  ·rw[ee,h1];simpa using hc
 |tup l=>
  refine yh hf fun hle hf=>ak hf fun k hk hc=>?_
  obtain⟨h1,h2,h3,h4⟩:=rA hk hle;obtain⟨a,vs,rfl,ha,ht,hd⟩:=hx.om;obtain⟨w,hw,hz⟩:=bq.get hd hc;exact⟨"tuple","tuple.__getitem__",slot_tuple_getitem.lookup,ht.isTup.typeIs,PyProof.Rows.getItem_tuple ht.isTup h2 h3 (j:=k) (by rw[cb,hd.length];exact h1) (by simpa using hw) ⟨.refl s,hz⟩⟩
 |list l=>
  refine yh hf fun hle hf=>ak hf fun k hk hc=>?_
  obtain⟨h1,h2,h3,h4⟩:=rA hk hle;refine hx.jn rfl fun a vs ø ha ø ht hd=>?_
  obtain⟨w,hw,hz⟩:=bq.get hd hc;have hlen:=hd.length;refine⟨"list","list.__getitem__",slot_list_getitem.lookup,ht.isList.typeIs,?_⟩;by_cases h0:0<=i
  ·cases FR hk h0
   exact wpAny_getItem_list ht.isList h0 h3 (by simpa using hw) ⟨.refl s,hz⟩
  ·obtain⟨z1,z2,rfl⟩:=FQ hk h0
   exact wpAny_getItem_list_neg ht.isList z1 (by rw[cb,hlen];clear hf hc hx hk hz hw hd;omega) h2 (by rw[cb,hlen];simpa using hw) ⟨.refl s,hz⟩
 |dict ks ws=>
  obtain⟨a,vs,rfl,ha,hlen,lE,ht,hd⟩:=hx.kX;have:=uj (P:=P) (q:=i) hlen hd;rw[show p0 ks ws i=some z from hf]at this;obtain⟨w,hw,hz⟩:=this;exact⟨"dict","dict.__getitem__",slot_dict_getitem.lookup,ht.typeIs,wpAny_getItem_of (intKind_is P.prog P.w i t') ht.mapOf hw ⟨Kp.toks s _,hz⟩⟩
 |_=>cases hf
noncomputable def C5(f g:ao->Option V):ao->Option V:=fun ρ=>(f ρ).bind fun x=>(g ρ).bind fun y=>iP x y
theorem aF{o i:Expr}{pos:Pos}{f g}(ho:eo P n K lo o f)(hi:eo P n K true i g)(hs:∀u v,subscripted i false u v=operate [u,v] (getItem u v)):eo P n K lo (.Subscript o i pos) (C5 f g):=fun A env out hid m B s ρ z E rm S hf=>by
 refine ak hf fun x hx gu=>?_
 clear hf;rename _=>hf
 refine ak hf fun y hy gu=>?_
 clear hf;rename _=>hf
 refine rz (aD (ho A env out hid m B s ρ x E rm S hx) (fun u s₁ aj=>?_) fun ø ø q=>q) (fun u v=>⟨_,hs u v⟩);refine aD (hi A env out hid m B s₁ ρ y E rm (S.after aj.1) hy) (fun v s₂ aM=>?_) fun ø ø q=>q
 have hv:Dn P s₂.heap (av lo out hid) y v:=by
  cases lo
  ·have LT:∃i,y= .int i:=ak (o:=y.int?) hf fun i hi ø=>⟨i,V.nJ hi⟩
   obtain⟨i,rfl⟩:=LT;exact aM.2.scalar rfl
  ·exact aM.2
 obtain⟨T,id,c1,c2,c3⟩:=OY (E:=E) (rm.less (eK _)) (aj.2.kp aM.1) hv hf;exact⟨T,id,c1,c2,aD c3 (fun r s₃ q=>⟨aj.1.trans (aM.1.trans q.1),q.2⟩) fun ø ø q=>q⟩
noncomputable def pick{α:Type}(l:List α)(lo hi st:Option Int):List α:=(sliceRange (sliceBounds lo hi st l.length).1 (sliceBounds lo hi st l.length).2.1 (sliceBounds lo hi st l.length).2.2).filterMap (l[·]?)
noncomputable def Ao(l:List Nat)(lo hi:Option Int):List Nat:=if((Builtin.Str.strSliceIndices lo hi 1 l.length).length==l.length)=true then l else(Builtin.Str.strSliceIndices lo hi 1 l.length).filterMap (l[·]?)
noncomputable def ku(x:V)(a b c:Option Int):Option V:=match x with
 | .list l=>if l.length<=most/\c≠some 0 then some (.list (pick l a b c))else none
 | .str l=>if l.length<=most/\c=none then some (.str (Ao l a b))else none
 |_=>none
theorem Ap(l:List V)(a b c:Option Int):ku (.list l) a b c=if l.length<=most/\c≠some 0 then some (.list (pick l a b c))else none:=id rfl
theorem uk(l:List Nat)(a b:Option Int):ku (.str l) a b none=if l.length<=most then some (.str (Ao l a b))else none:=by
 show(if _ then _ else _)=_;by_cases h:l.length<=most
 ·rw[aw ⟨h,rfl⟩,aw h]
 ·rw[au fun z=>h z.1,au h]
noncomputable def Aq(P:Pk)(n:Nat)(K:Cx)(e:Option Expr)(f:ao->Option (Option Int)):Prop:=
 ∀(A:Around) (env:Env) (out hid:List Addr) (m:Str->Option Value) (B s:Shared) (ρ:ao) (x:Option Int) (E:Value->Shared->Prop),cJ n A->aU P K env out hid m B s ρ->f ρ=some x->
  wpAny (model P.prog P.w) A (evalPart e env) (fun v s'=>Kp s s'/\∃q:Option (Int×Tok),v=partValue q/\q.map (·.1)=x) E s
theorem cF:Aq P n K none fun ø=>some none:=fun A env out hid m B s ρ x E rm S hf=>by
 cases hf;exact evalPart_none_step ⟨.refl s,none,rfl,rfl⟩
noncomputable def Ar:V->Option (Option Int)
 | .int i=>some (some i)
 | .none=>some none
 |_=>none
theorem e7{e:Expr}{f}(h:eo P n K true e f):Aq P n K (some e) fun ρ=>(f ρ).bind Ar:=fun A env out hid m B s ρ x E rm S hf=>by
 refine ak hf fun y hy gu=>?_
 clear hf;rename _=>hf
 refine evalPart_some_step (aD (h A env out hid m B s ρ y E rm S hy) (fun v s₁ q=>⟨q.1,?_⟩) fun ø ø q=>q);have hv:=q.2;cases y<;>simp only[Ar]at hf<;>cases hf
 ·obtain rfl:=hv.none_inv
  exact⟨none,rfl,rfl⟩
 ·obtain⟨t,rfl⟩:=hv.int_inv
  exact⟨some (_,t),rfl,rfl⟩
theorem C6{q:Option (Int×Tok)}:IsPart (partValue q) (q.map (·.1)):=by
 rcases q with _|⟨i,t⟩
 ·exact .none
 ·exact .int i t
theorem LU{A:Around}{s:Shared}{hid:List Addr}{x z:V}{u:Value}{a b c:Option (Int×Tok)}{E:Value->Shared->Prop}(live:cD s.heap hid)(hx:Dn P s.heap hid x u)(hf:ku x (a.map (·.1)) (b.map (·.1)) (c.map (·.1))=some z):
  Ez (model P.prog P.w) A E u (.ref s.heap.objs.size) (fun r s'=>Kp s s'/\Dn P s'.heap hid z r) {s with heap:=s.heap.push {cls:=.type "slice",data:=.fields #[partValue a,partValue b,partValue c]} }:=by
 have hm:=cR;generalize eS:({s with heap:=s.heap.push {cls:=.type "slice",data:=.fields #[partValue a,partValue b,partValue c]} }:Shared)=s₁;have k₁:Kp s s₁:=by subst eS;exact Kp.push s _ _
 have Sz:s₁.heap.get? s.heap.objs.size=some {cls:=.type "slice",data:=.fields #[partValue a,partValue b,partValue c]}:=by subst eS;exact bJ _ rfl
 have HR:=hx.kp k₁
 cases x with
 |str l=>
  refine ite_inv hf fun hc=>?_
  have hle:=hc.1
  cases c with
  |some c=>exact absurd hc.2 (by simp)
  |none=>
  clear hf hx;refine HR.str_k rfl fun t=>?_
  refine⟨"str","str.__getitem__",F.slot_str_getitem.lookup,qW _ _ _,wpAny_getItem_str_slice (l:=a) (u:=b) (st:=none) ⟨_,Sz,rfl,rfl⟩ rfl ?_⟩;unfold sliceMade slicePicked;simp only[Option.map_none,Option.getD_none,qQ,iM,ee];unfold Ao;split
  ·exact⟨k₁.trans (.refl s₁),.ofStr _ _⟩
  ·refine⟨?_,k₁.trans (Kp.toks s₁ _),?_⟩
   ·show(List.filterMap _ _).toArray.size<=sizeLine
    rw[cb];refine az (List.length_filterMap_le _ _) (az (sliceIndices_le _ _ _) (az hle hm))
   ·have e:(List.filterMap (fun x=>(pyStr l).cps[x]?) (Builtin.Str.strSliceIndices (a.map (·.1)) (b.map (·.1)) 1 l.length))=(Builtin.Str.strSliceIndices (a.map (·.1)) (b.map (·.1)) 1 l.length).filterMap (l[·]?):=by simp
    rw[e];exact .ofStr _ _
 |list l=>
  refine ite_inv hf fun hc=>HR.jn rfl fun ad vs ø ha ø ht hd=>?_
  clear hf hx HR;refine⟨"list","list.__getitem__",slot_list_getitem.lookup,ht.isList.typeIs,wpAny_getItem_list_slice ht.isList ⟨_,Sz,rfl,rfl⟩ C6 C6 C6 hc.2 ⟨k₁.trans (Kp.push s₁ _ s₁.toks),?_⟩ (by rw[cb,hd.length];exact az hc.1 hm)⟩;have hp:slicePick vs.toArray (a.map (·.1)) (b.map (·.1)) (c.map (·.1))=((sliceRange (sliceBounds (a.map (·.1)) (b.map (·.1)) (c.map (·.1)) l.length).1 (sliceBounds (a.map (·.1)) (b.map (·.1)) (c.map (·.1)) l.length).2.1 (sliceBounds (a.map (·.1)) (b.map (·.1)) (c.map (·.1)) l.length).2.2).filterMap (vs[·]?)).toArray:=by
   unfold slicePick;rw[cb,hd.length];simp
  rw[hp];refine Dn.newList (live.kp k₁) ?_;unfold pick;generalize sliceRange _ _ _=ix
  induction ix with
  |nil=>exact .nil
  |cons i ix ih=>
   cases hi:l[i]? with
   |none=>
    have hv:vs[i]?=none:=by
     rw[List.getElem?_eq_none_iff]at hi ⊢;rw[hd.length];exact hi
    rw[qX,hi,qX,hv];exact ih
   |some x=>
    obtain⟨v,hv,OS⟩:=bq.get hd hi;rw[qX,hi,qX,hv];exact .cons OS ih
 |_=>cases hf
noncomputable def ul(f:ao->Option V)(a b c:ao->Option (Option Int)):ao->Option V:=fun ρ=>(f ρ).bind fun x=>(a ρ).bind fun p=>(b ρ).bind fun q=>(c ρ).bind fun r=>ku x p q r
theorem fb{o:Expr}{l u st:Option Expr}{p pos:Pos}{f a b c}(ho:eo P n K lo o f)(ha:Aq P n K l a)(hb:Aq P n K u b)(hc:Aq P n K st c):eo P n K lo (.Subscript o (.Slice l u st p) pos) (ul f a b c):=fun A env out hid m B s ρ z E rm S hf=>by
 refine ak hf fun x hx gu=>?_
 clear hf;rename _=>hf
 refine ak hf fun C7 h1 gu=>?_
 clear hf;rename _=>hf
 refine ak hf fun As h2 gu=>?_
 clear hf;rename _=>hf
 refine ak hf fun C8 h3 gu=>?_
 clear hf;rename _=>hf
 refine rz (aD (ho A env out hid m B s ρ x E rm S hx) (fun v s₁ Au=>?_) fun ø ø q=>q) (fun u v=>by cases st<;>exact⟨_,rfl⟩);have bC:=S.after Au.1;refine wpAny_Slice (aD (ha A env out hid m B s₁ ρ C7 E rm bC h1) (fun aa3 s₂ yi=>?_) fun ø ø q=>q);have dI:=bC.after yi.1;refine aD (hb A env out hid m B s₂ ρ As E rm dI h2) (fun aa4 s₃ LV=>?_) fun ø ø q=>q
 have rv:=dI.after LV.1;refine aD (hc A env out hid m B s₃ ρ C8 E rm rv h3) (fun aa5 km LW=>?_) fun ø ø q=>q
 have rx:=rv.after LW.1;obtain⟨aa6,rfl,rfl⟩:=yi.2;obtain⟨aa7,rfl,rfl⟩:=LV.2;obtain⟨aa8,rfl,rfl⟩:=LW.2;have kk:=Au.1.trans (yi.1.trans (LV.1.trans LW.1));obtain⟨T,id,c1,c2,c3⟩:=LU (P:=P) (A:=A) (E:=E) (rx.Ep lo) (((Au.2.kp yi.1).kp LV.1).kp LW.1) hf;exact⟨T,id,c1,c2,aD c3 (fun r rr q=>⟨kk.trans q.1,q.2⟩) fun ø ø q=>q⟩
end
section
variable{P:Pk}{n:Nat}{K K':Cx}{lo:Bool}
noncomputable def Av(x y:V):Option V:=(qK V.int? V.int? (fun a b=>some (.int (a+b))) x y).or
 (qK V.jO V.jO (fun a b=>if a.length+b.length<=most then some (.str (a++b))else none) x y)
theorem HS(a b:List Nat)(h:a.length+b.length<=most):Av (.str a) (.str b)=some (.str (a++b)):=by
 show(if _ then _ else _)=_;rw[aw h]
noncomputable def SA:V->V->Option V:=qK V.int? V.int? fun a b=>some (.int (a-b))
noncomputable def HT(P:Pk)(op:Operator)(F:V->V->Option V):Prop:=
 ∀(A:Around) (s:Shared) (hid:List Addr) (x y z:V) (u v:Value) (E:Value->Shared->Prop),cJ 0 A->cD s.heap hid->Dn P s.heap hid x u->Dn P s.heap hid y v->F x y=some z->
  wpAny (model P.prog P.w) A (inplaceOp op u v) (fun r s'=>Kp s s'/\Dn P s'.heap hid z r) E s
theorem cS(i:Nat){x:Str}{k:NameKind}{p pos:Pos}{op:Operator}{e:Expr}{F f}(hi:K.vars[i]?=some (x,k,false))(nM:k≠ .free)(hc:(x==("__classdict__":Str))=false)(hd:(x==("__debug__":Str))=false)(ho:HT P op F)(h:eo P n K false e f):
  zU P n K (.AugAssign (.Name x p) op e pos) (fun ρ=>(ρ i).bind fun a=>(f ρ).bind fun b=>(F a b).map fun c=>(upd ρ i c,.next)):=fun A env out hid m B s ρ aQ fl E rm S hf=>by
 refine ak hf fun a ha gu=>?_
 clear hf;rename _=>hf
 refine ak hf fun b hb gu=>?_
 clear hf;rename _=>hf
 refine cI hf fun c LF e=>?_
 clear hf
 first|refine pair_inv e ?_;clear e|cases e
 refine wpAny_AugAssign_Name (S.load hi ha hd hc fun u hu ø=>?_);rw[au (by decide)]at hu;refine aD (h A env out hid m B s ρ b E rm S hb) (fun v s₁ aj=>?_) fun ø ø q=>q
 have bC:=S.after aj.1;refine aD (ho A s₁ hid a b c u v E (rm.less (eK _)) bC.live (hu.kp aj.1) aj.2 LF) (fun r s₂ aM=>?_) fun ø ø q=>q
 exact(bC.after aM.1).store hi aM.2 (fun q=>by cases q) nM fun m' s' S' K' ø=>⟨hid,m',S',(Ks.iO (aj.1.trans aM.1)).trans K',rfl⟩
noncomputable def NP(P:Pk)(F:V->V->V->Option V):Prop:=
 ∀(A:Around) (s:Shared) (L:Addr) (out hid:List Addr) (y i x y':V) (a:Addr) (iv v:Value) (E:Value->Shared->Prop),cJ 0 A->eP P L s.heap out hid y (.ref a)->Dn P s.heap hid i iv->Dn P s.heap hid x v->F y i x=some y'->
  wpAny (model P.prog P.w) A (setItem (.ref a) iv v) (fun ø s'=>Heap.SameBut a s.heap s'.heap/\s'.gens=s.gens/\s'.os=s.os/\eP P L s'.heap out hid y' (.ref a)) E s
theorem um(i:Nat){x:Str}{k:NameKind}{p sp pos:Pos}{ix e:Expr}{F f g}(hi:K.vars[i]?=some (x,k,true))(hd:(x==("__debug__":Str))=false)(hc:(x==("__classdict__":Str))=false)(ho:NP P F)(h:eo P n K false e f)(hx:eo P n K false ix g)
  (hs:∀env,swapsWith e (some (.Subscript (.Name x p) ix sp)) pos.line env=pure false):
  zU P n K (.Assign [.Subscript (.Name x p) ix sp] e pos) (fun ρ=>(f ρ).bind fun v=>(ρ i).bind fun y=>(g ρ).bind fun j=>(F y j v).map fun y'=>(upd ρ i y',.next)):=fun A env out hid m B s ρ aQ fl E rm S hf=>by
 refine ak hf fun v hv gu=>?_
 clear hf;rename _=>hf
 refine ak hf fun y hy gu=>?_
 clear hf;rename _=>hf
 refine ak hf fun j hj gu=>?_
 clear hf;rename _=>hf
 refine cI hf fun y' LT e=>?_
 clear hf
 first|refine pair_inv e ?_;clear e|cases e
 refine wpAny_Assign_Subscript (aD (h A env out hid m B s ρ v E rm S hv) (fun u s₁ aj=>?_) fun ø ø q=>q) (hs env);have bC:=S.after aj.1;refine fP (bC.load hi hy hd hc fun w hw la=>?_) hd;rw[aw rfl]at hw;obtain⟨a,rfl,b1,b2,b3,b4⟩:=eP.addr (P:=P) hw;refine aD (hx A env out hid m B s₁ ρ j E rm bC hj) (fun jv s₂ aM=>?_) fun ø ø q=>q
 have dI:=bC.after aM.1;have NQ:eP P env.locals s₂.heap out hid y (.ref a):=eP.grow (P:=P) hw aM.1.keep (fun ø q=>q) fun ø q=>.inl q
 refine aD (ho A s₂ env.locals out hid y j v y' a jv u E (rm.less (eK _)) NQ aM.2 (aj.2.kp aM.1) LT) (fun ø s₃ q=>?_) fun ø ø q=>q
 obtain⟨q1,q2,q3,q4⟩:=q;obtain⟨z1,z2⟩:=dI.mut (s':=s₃) hi (la.grow (fun c v q=>q.keeps aM.1.keep) fun ø q=>q) hy NQ (fun b o hb q=>(q1.2 b hb).trans q) (by rw[q2];exact .refl _) q3 q4;exact⟨hid,m,z1,(Ks.iO (aj.1.trans aM.1)).trans z2,rfl⟩
noncomputable def C9(y i x:V):Option V:=i.int?.bind fun k=>match y with
 | .dict ks vs=>if ks.length<=most then some (.dict (w6 ks k) (An ks vs k x))else none
 | .list l=>if 0<=k/\k<l.length/\l.length<=most then some (.list (l.set k.toNat x))else none
 |_=>none
theorem OZ(ks:List Int)(vs:List V)(k:Int)(x:V):C9 (.dict ks vs) (.int k) x=if ks.length<=most then some (.dict (w6 ks k) (An ks vs k x))else none:=id rfl
theorem O0(l:List V)(k:Int)(x:V):C9 (.list l) (.int k) x=if 0<=k/\k<l.length/\l.length<=most then some (.list (l.set k.toNat x))else none:=id rfl
theorem Aw{h:Heap}{hid:List Addr}{q:Int}{x:V}{v:Value}(hx:Dn P h hid x v){ks:List Int}{xs:List V}{vs:List Value}(hl:vs.length=ks.length)(hd:bd P h hid xs vs):
  ∃we,stored (ks.zip vs) q v=(w6 ks q).zip we/\we.length=(w6 ks q).length/\bd P h hid (An ks xs q x) we:=by
 have SB:∀(ks:List Int) (vs:List Value),vs.length=ks.length->((ks.zip vs).any fun kv=>decide (kv.1=q))=ks.contains q:=by
  intro ks
  induction ks with
  |nil=>intro vs _;rfl
  |cons k ks ih=>
   intro vs hl
   cases vs with
   |nil=>simp at hl
   |cons w vs=>
    rw[pn,List.any_cons,ih vs (by simpa using hl),Cv]
    congr 1
    show decide (k=q)=(q==k);by_cases e:k=q
    ·subst e;simp
    ·have:¬q=k:=fun z=>e z.symm
     simp[e,this]
 unfold stored w6 An;rw[SB ks vs hl]
 cases hc:ks.contains q with
 |false=>
  simp only[kN,gZ];exact⟨vs++[v],by rw[List.zip_append hl.symm];rfl,by simp[hl],hd.app (.one hx)⟩
 |true=>
  simp only[jP];clear hc SB;refine⟨List.zipWith (fun k w=>if k=q then v else w) ks vs,?_,?_,?_⟩
  ·induction ks generalizing vs xs with
   |nil=>simp
   |cons k ks ih=>
    cases vs with
    |nil=>simp at hl
    |cons w vs=>
     obtain⟨w',r,e,h1,h2⟩:∃w' r,xs=w'::r/\True/\True:=by
      cases xs with
      |nil=>have:=bd.nil_inv hd;cases this
      |cons a b=>exact⟨a,b,rfl,trivial,trivial⟩
     subst e;obtain⟨_,_,e,_,hr⟩:=bd.cons_inv hd;cases e;rw[pn,bB,ih (by simpa using hl) hr,Cw,pn];by_cases e:k=q<;>simp[e]
  ·simp[hl]
  ·induction ks generalizing vs xs with
   |nil=>exact .nil
   |cons k ks ih=>
    cases vs with
    |nil=>simp at hl
    |cons w vs=>
     cases xs with
     |nil=>have:=bd.nil_inv hd;cases this
     |cons y ys=>
      obtain⟨_,_,e,h1,hr⟩:=bd.cons_inv hd;cases e;rw[Cw,Cw];refine .cons ?_ (ih (by simpa using hl) hr);by_cases e:k=q<;>simp[e,hx,h1]
theorem gR:HT P .Add Av:=fun A s hid x y z u v E rm hh hx hy hf=>l0 hf
 (fun hf=>bO hf fun a b ha hb hz=>some_inv hz <| hx.int_k ha fun t=>hy.int_k hb fun t'=>PyProof.Rows.iadd_int ⟨Kp.toks s _,.ofInt _ _⟩)
 fun hf=>bO hf fun a b ha hb hz=>ite_inv hz fun hc=>hx.str_k ha fun t=>hy.str_k hb fun t'=>
  PyProof.Rows.iadd_str (fun t' tk=>⟨Kp.toks s _,by rw[on];exact .ofStr _ _⟩) (by rw[ee,ee];exact az hc cR)
theorem O1:HT P .Sub SA:=fun A s hid x y z u v E rm hh hx hy hf=>bO hf fun a b ha hb hz=>some_inv hz <| hx.int_k ha fun t=>hy.int_k hb fun t'=>PyProof.Rows.isub_int ⟨Kp.toks s _,.ofInt _ _⟩
theorem bd.set{h:Heap}{hid}{x:V}{v:Value}(hx:Dn P h hid x v):∀{l:List V} {ws:List Value} (k:Nat),bd P h hid l ws->bd P h hid (l.set k x) (ws.set k v)
 |[],ws,k,e=>by obtain rfl:=bd.nil_inv e;simpa using e
 |y::l,ws,0,e=>by
  obtain⟨u,r,rfl,h1,h2⟩:=bd.cons_inv e;exact .cons hx h2
 |y::l,ws,k+1,e=>by
  obtain⟨u,r,rfl,h1,h2⟩:=bd.cons_inv e;exact .cons h1 (bd.set hx k h2)
theorem LX{n:Nat}(h:n<=most):(n:Int)<2^63:=by
 have:most=1000000:=rfl;omega
theorem wp{prog:Program}{w:World}{A:Around}{E:Value->Shared->Prop}{s:Shared}{l:Addr}{items:Array Value}{k:Int}{t:Tok}{v:Value}{Q:Unit->Shared->Prop}(hl:s.heap.PlainList l items)(h0:0<=k)(W8:k<2^63)(hn:k<items.size)
  (hQ:∀h',h'.PlainList l (items.setIfInBounds k.toNat v)->Heap.SameBut l s.heap h'->Q () {s with heap:=h'}):wpAny (model prog w) A (setItem (.ref l) (.int k t) v) Q E s:=by
 obtain⟨e0,ho⟩:=id hl;have hT:=hl.isList.typeIs;unfold setItem
 try with_reducible refine gI ?_
 first|refine aA (bK ?_)|skip
 refine aA (wpAny_sequenceKey hT (by decide) ?_);refine aA (kg (name:=Str.ofString "__setitem__") hT slot_list_setitem (lM slot_list_setitem hT entry_list_setitem ?_ (args_list_setitem _ _ _)));show wpAny _ _ (Builtin.List.listSubscript? (.int k t)>>= _) _ _ s;refine aA (wpAny_listSubscript_int (fitsIndex_of h0 W8) ?_);obtain⟨j,rfl⟩:=qY h0;have hj:j<items.size:=by omega
 have zW:items[j]?=some items[j]:=xI hj;show wpAny _ _ ((seqItemAt l j>>= fun r=>pure (r.map (j,·)))>>= _) _ _ s;refine aA (aA (wpAny_seqItemAt ho rfl (bK ?_)));rw[zW];show wpAny _ _ (setSeqItemAt l j v>>= _) _ _ s;refine aA (wpAny_setSeqItemAt ho rfl ?_);have hp:=l6 (f:=(·.setIfInBounds j v)) ho rfl
 first
  |exact aA (bK (bK ⟨.none,rfl,bK (hQ _ hp (oQ ..))⟩))
  |exact bK ⟨.none,rfl,bK (hQ _ hp (oQ ..))⟩
theorem eP.jn{L h out hid l a}{G:Prop}(e:eP P L h out hid (.list l) (.ref a))(k:∀vs,a∈hid->a∉out->a≠L->h.PlainList a vs.toArray->bd P h hid l vs->G):G:=by
 obtain⟨a',vs,e,h1,h2,h3,h4,h5⟩:=eP.cK e;cases e;exact k vs h1 h2 h3 h4 h5
theorem NR:NP P C9:=fun A s L out hid y i x y' a iv v E rm hb hi hx hf=>ak hf fun k hk hf=>hi.int_k hk fun t=>by
 clear hi hk
 cases y with
 |list l=>
  refine ite_inv hf fun hc=>eP.jn hb fun ws c1 c2 c3 c4 c5=>?_
  clear hf hb;refine wp c4 hc.1 (Int.lt_trans hc.2.1 (LX hc.2.2)) (by rw[cb,c5.length];exact hc.2.1) fun h' l7 hs=>⟨hs,rfl,rfl,?_⟩
  exact eP.ofList c1 c2 c3 (vs:=ws.set k.toNat v) (by simpa using l7) (bd.set (Dn.but hx c1 hs) _ (bd.but c5 c1 hs))
 |dict ks vs=>
  refine ite_inv hf fun hc=>?_
  obtain⟨a',ws,e,c1,c2,c3,c4,c5,c6,c7⟩:=eP.kX hb;cases e;clear hf hb;refine wpAny_setItem_pairs (intKind_is P.prog P.w k t) c6 (fun h' lF hs=>⟨hs,rfl,rfl,?_⟩) (by rw[xM,c5,Nat.min_self];exact az hc cR);obtain⟨we,e1,e2,e3⟩:=Aw (P:=P) (q:=k) (Dn.but hx c1 hs) c5 (bd.but c7 c1 hs);rw[e1]at lF;exact⟨a,we,rfl,c1,c2,c3,c4,e2,lF,e3⟩
 |_=>cases hf
end
section
variable{P:Pk}{n:Nat}{K K':Cx}{lo:Bool}
noncomputable def V.O2:V->Option Nat
 | .list l=>some l.length
 | .tup l=>some l.length
 | .str l=>some l.length
 | .dict ks _=>some ks.length
 |_=>Option.none
noncomputable def one?:List V->Option V
 |[x]=>some x
 |_=>none
theorem jq:∀{xs:List V} {x},one? xs=some x->xs=[x]
 |[_],_,h=>congrArg (fun x=>[x]) (Option.some.inj h)
 |[],_,h|_::_::_,_,h=>nomatch h
noncomputable def un(xs:List V):Option V:=(one? xs).bind fun x=>x.O2.bind fun n=>if n<=most then some (.int n)else none
theorem yj{x:V}{n:Nat}(h:x.O2=some n)(hm:n<=most):un [x]=some (.int n):=by
 unfold un one?;rw[lN,h,lN,aw hm]
theorem yk{h:Heap}{hid x vs}(e:bd P h hid [x] vs):∃v,vs=[v]/\Dn P h hid x v:=by
 obtain⟨v,r,rfl,h1,h2⟩:=bd.cons_inv e;obtain rfl:=bd.nil_inv h2;exact⟨v,rfl,h1⟩
@[elab_as_elim] theorem bd.one?_k {h:Heap} {hid xs x vs} {C:List Value->Prop} (e:bd P h hid xs vs) (q:one? xs=some x) (k:∀v,Dn P h hid x v->C [v]):C vs:=by
 cases jq q;exact e.one_k k
theorem V.O3{x:V}{n:Nat}{G:Prop}(h:x.O2=some n)(k1:∀l,x= .list l->n=l.length->G)(k2:∀l,x= .tup l->n=l.length->G)(k3:∀l,x= .str l->n=l.length->G)(k4:∀ks l,x= .dict ks l->n=ks.length->G):G:=by
 cases x with
 |list l=>exact k1 l rfl (Option.some.inj h).symm
 |tup l=>exact k2 l rfl (Option.some.inj h).symm
 |str l=>exact k3 l rfl (Option.some.inj h).symm
 |dict ks l=>exact k4 ks l rfl (Option.some.inj h).symm
 |_=>cases h
theorem ig{n:Nat}(h:n<=most):(n:Int)<2^63:=by
 have:most=1000000:=rfl;omega
theorem ED{ws:List Value}{ks:List Int}(h:ws.length=ks.length):(ks.zip ws).length=ks.length:=by rw[xM,h,Nat.min_self]
theorem ju:aZ P n (.builtin "len") un:=fun A s hid xs x vs E rm hG live hd hf=>ak hf fun y hy hf=>ak hf fun n hn hf=>ite_inv hf fun hm=>hd.one?_k hy fun v hv=>by
 clear hd hf hy;refine V.O3 hn (fun l e1 e2=>?_) (fun l e1 e2=>?_) (fun l e1 e2=>?_) fun ks l e1 e2=>?_<;>subst e1<;>subst e2
 ·refine hv.jn rfl fun a ws k ha ø ht lF=>?_
  refine Calls.call_len_list ht.isList (by rw[cb,lF.length];first|exact ig hm|exact mV.mpr (ig hm)) ⟨Kp.toks s _,?_⟩;rw[cb,lF.length];exact .ofInt _ _
 ·obtain⟨a,ws,rfl,ha,ht,lF⟩:=hv.om
  refine PyProof.Rows.len_tuple ht.isTup (by rw[cb,lF.length];first|exact ig hm|exact mV.mpr (ig hm)) ⟨Kp.toks s _,?_⟩;rw[cb,lF.length];exact .ofInt _ _
 ·refine hv.str_k rfl fun t=>?_
  refine PySem.P.len_str (by rw[ee];first|exact ig hm|exact mV.mpr (ig hm)) ⟨Kp.toks s _,?_⟩;rw[ee];exact .ofInt _ _
 ·obtain⟨a,ws,rfl,ha,hlen,lE,ht,lF⟩:=hv.kX
  refine call_len_dict lE ht (by rw[ED hlen];first|exact ig hm|exact mV.mpr (ig hm)) ⟨Kp.toks s _,?_⟩;rw[ED hlen];exact .ofInt _ _
noncomputable def SD(xs:List V):Option V:=(one? xs).bind fun x=>x.jO.bind fun l=>(OK l).map fun(c:Nat)=>V.int (Int.ofNat c)
theorem O4(c:Nat):SD [.str [c]]=some (.int (c:Int)):=rfl
theorem HU:aZ P n (.builtin "ord") SD:=fun A s hid xs x vs E rm hG live hd hf=>ak hf fun y hy hf=>ak hf fun l hl hf=>map_inv hf fun c hc=>hd.one?_k hy fun v hv=>by
 cases z9 hc;exact hv.str_k hl fun t=>PySem.P.ord_of_char ⟨Kp.toks s _,.ofInt _ _⟩
noncomputable def FS(xs:List V):Option V:=(one? xs).bind fun x=>x.int?.bind fun i=>if 0<=i/\i<=0x10FFFF then some (.str [i.toNat])else none
theorem O5(i:Int):FS [.int i]=if 0<=i/\i<=0x10FFFF then some (.str [i.toNat])else none:=id rfl
theorem EE:aZ P n (.builtin "chr") FS:=fun A s hid xs x vs E rm hG live hd hf=>ak hf fun y hy hf=>ak hf fun i hi hf=>ite_inv hf fun hc=>hd.one?_k hy fun v hv=>hv.int_k hi fun t=>
 PySem.P.chr_of_int (by clear hd hf hv;simp;omega) ⟨Kp.toks s _,.ofStr [i.toNat] _⟩
noncomputable def ii:List V->Option (List Int)
 |[]=>some []
 |x::l=>x.int?.bind fun i=>(ii l).map (i:: ·)
theorem HV:ii []=some []:=rfl
theorem Ax(i:Int)(l:List V):ii (.int i::l)=(ii l).map (i:: ·):=rfl
theorem oo{y:V}{l:List V}{is:List Int}(h:ii (y::l)=some is):∃k LY,y= .int k/\ii l=some LY/\is=k::LY:=by
 obtain⟨i,hi,h⟩:=kP.mp h;obtain⟨r,h1,h2⟩:=nB.mp h;exact⟨i,r,V.nJ hi,h1,h2.symm⟩
theorem Ay:∀{l:List V} {is:List Int} {i:Nat} {x:V},ii l=some is->l[i]?=some x->∃k,x= .int k/\is[i]?=some k
 |[],is,i,x,h,hx=>by simp at hx
 |y::l,is,i,x,h,hx=>by
  obtain⟨k,LY,rfl,h',rfl⟩:=oo h
  cases i with
  |zero=>simp at hx;subst hx;exact⟨k,rfl,by simp⟩
  |succ i=>simpa using Ay (l:=l) (i:=i) h' (by simpa using hx)
theorem rB:∀{l:List V} {is:List Int},ii l=some is->is.length=l.length
 |[],is,h=>by cases h;rfl
 |y::l,is,h=>by
  obtain⟨k,LY,rfl,h',rfl⟩:=oo h;simp[rB h']
noncomputable def O6(xs:List V):Option V:=(one? xs).bind fun x=>x.gm.bind fun l=>(ii l).map fun is=>.int is.sum
theorem O7(l:List V):O6 [.list l]=(ii l).map fun is=>.int is.sum:=rfl
theorem Da(is:List Int):preSum (fun j=>(is[j]?).getD 0) is.length=is.sum:=by
 have key:∀(is:List Int) (k:Nat),k<=is.length->preSum (fun j=>(is[j]?).getD 0) k=(is.take k).sum:=by
  intro is k
  induction k with
  |zero=>intro _;simp[preSum]
  |succ k ih=>
   intro hk;rw[preSum,ih (by omega),List.take_succ_eq_append_getElem (by omega),List.sum_append];simp[show k<is.length by omega]
 rw[key is is.length (bL _),xN]
theorem SE:aZ P n (.builtin "sum") O6:=fun A s hid xs x vs E rm hG live hd hf=>ak hf fun y hy hf=>ak hf fun l hl hf=>map_inv hf fun is LZ=>hd.one?_k hy fun v hv=>hv.jn hl fun a ws ø ha ø ht lF=>by
 clear hd hf hy
 ·
  have cZ:a≠s.heap.objs.size:=fun e=>by obtain⟨k,z⟩:=ht;rw[e,bE]at z;cases z
  refine call_sum_walkAnyS (tB ht.isList ?_);have W:=(Walks.list (prog:=P.prog) (w:=P.w) (A:=A.in1) rm.handled s.heap.objs.size a cZ ws.toArray).toS;refine⟨_,_,_,_,_,_,_,fun j=>(is[j]?).getD 0,rfl,W,⟨⟨_,bJ _ rfl,rfl,rfl⟩,ht.isList.at fun o q=>bz _ q⟩,fun b hb=>?_,fun i v hv=>?_,fun s' t' mv=>?_⟩
  ·rw[ji]
   rcases bI.mp hb with rfl|hb
   ·exact mT _
   ·obtain rfl:b=a:=by simpa using hb
    obtain⟨k,z⟩:=ht;exact kS (ez z)
  ·have hv:ws[i]?=some v:=by simpa using hv
   obtain⟨y,hy,hr⟩:=bq.get' lF hv;obtain⟨k,rfl,hk⟩:=Ay LZ hy;obtain⟨t,rfl⟩:=Dn.int_inv (P:=P) hr;exact⟨t,by simp[hk]⟩
  ·refine⟨⟨fun b o q=>mv.heap b o (fun hm=>?_) (bz _ q),?_,mv.os⟩,?_⟩
   ·obtain rfl:b=s.heap.objs.size:=by simpa using hm
    rw[bE]at q;cases q
   ·have:=mv.gens
    rw[show s'.gens=s.gens from this];exact .refl _
   ·rw[cb,lF.length,<-rB LZ,Da]
    exact .ofInt _ _
noncomputable def uo(f:Nat->Int):Nat->Int
 |0=>f 0
 |k+1=>max (uo f k) (f (k+1))
theorem EF(f:Nat->Int):uo f 0=f 0:=rfl
theorem yl(f:Nat->Int)(k:Nat):uo f (k+1)=max (uo f k) (f (k+1)):=rfl
theorem sq(f:Nat->Int):∀k,f (argBest (fun i j=>decide (f i>f j)) k)=uo f k
 |0=>rfl
 |k+1=>by
  have ih:=sq f k;unfold argBest;rw[yl];rw[<-ih];by_cases h:f (k+1)>f (argBest (fun i j=>decide (f i>f j)) k)
  ·rw[aw (by simpa using h)];omega
  ·rw[au (by simpa using h)];omega
noncomputable def HW(l:List V):Option V:=if l.isEmpty=true then none else(ii l).map fun is=>.int (uo (fun j=>(is[j]?).getD 0) (is.length-1))
noncomputable def Db:List V->Option V
 |[x]=>x.gm.bind HW
 |[x,y]=>qK V.int? V.int? (fun a b=>some (.int (if b>a then b else a))) x y
 |_=>none
theorem O8(l:List V):Db [.list l]=HW l:=rfl
theorem O9(a b:Int):Db [.int a,.int b]=some (.int (if b>a then b else a)):=rfl
theorem Az{l:List V}{is:List Int}{h:Heap}{hid:List Addr}:∀{ws:List Value},ii l=some is->bd P h hid l ws->∃ts:List (Int×Tok),ws.toArray=intItems ts.toArray/\ts.map (·.1)=is:=by
 induction l generalizing is with
 |nil=>
  intro ws h1 h2;cases h1;obtain rfl:=bd.nil_inv h2;exact⟨[],by simp[intItems],rfl⟩
 |cons y l ih=>
  intro ws h1 h2;obtain⟨v,r,rfl,hv,hr⟩:=bd.cons_inv h2;obtain⟨k,LY,rfl,h',rfl⟩:=oo h1;obtain⟨t,rfl⟩:=hv.int_inv;obtain⟨ts,e1,e2⟩:=ih h' hr;refine⟨(k,t)::ts,?_,by simp[e2]⟩;have e1':r=ts.map fun p=>Value.int p.1 p.2:=by
   have:=congrArg Array.toList e1;simpa[intItems]using this
  simp[intItems,e1']
theorem L0{A:Around}{s:Shared}{hid:List Addr}{l:List V}{x:V}{v:Value}{E:Value->Shared->Prop}(rm:cJ n A)(hv:Dn P s.heap hid (.list l) v)(hf:HW l=some x):
  wpAny (model P.prog P.w) A (call (.builtin "max") [v]) (fun r s'=>Kp s s'/\Dn P s'.heap hid x r) E s:=by
 unfold HW at hf;by_cases cZ:l.isEmpty=true
 ·rw[aw cZ]at hf;cases hf
 ·rw[au cZ]at hf
  refine map_inv hf fun is LZ=>hv.jn rfl fun a ws ø ha ø ht lF=>?_
  clear hf hv;obtain⟨ts,e1,e2⟩:=Az LZ lF;rw[e1]at ht;have hlen:ts.length=is.length:=by rw[<-e2];simp
  have hl:is.length=l.length:=rB LZ;have HA:0<ts.toArray.size:=by
   rw[cb,hlen,hl];exact tz.mpr fun z=>cZ (by rw[z];rfl)
  have la:numAt ts.toArray=fun j=>(is[j]?).getD 0:=by
   funext j
   unfold numAt;rw[<-e2];simp
  refine max_intList rm.handled ht.isList HA fun v h' tk FF hk=>⟨.heap hk,?_⟩
  obtain⟨t,rfl⟩:=intItems_at FF;have e3:=sq (numAt ts.toArray) (ts.toArray.size-1);rw[e3,la,cb,hlen];exact .ofInt _ _
theorem uq:aZ P n (.builtin "max") Db:=fun A s hid xs x vs E rm hG live hd hf=>by
 cases xs with
 |nil=>cases hf
 |cons y xs=>cases xs with
  |nil=>exact ak hf fun l hl hf=>hd.one_k fun v hv=>L0 rm (V.eO hl▸hv) hf
  |cons z xs=>cases xs with
   |nil=>
    exact bO hf fun a b ha hb hf=>some_inv hf <| hd.two_k fun v w hv hw=>hv.int_k ha fun t=>hw.int_k hb fun t'=>max_two_ints rm.handled fun h' tk hk=>⟨.heap hk,by
     by_cases h:b>a
     ·rw[aw h,aw h];exact .ofInt _ _
     ·rw[au h,au h];exact .ofInt _ _⟩
   |cons _ _=>cases hf
end
section
variable{P:Pk}{n:Nat}{K K':Cx}{lo:Bool}
inductive ZL(P:Pk)(name:Str)(s:Shared)(hid:List Addr)(y:V)(v:Value)(xs:List V)(r:V):Prop
 |mk (T id:String) (p:PlainAttrs T) (sl:Slot T name id) (t:typeOf (.builtin id)=pure (.type "method_descriptor")) (ty:s.TypeIs v T) (nd:∀a,v= .ref a->∃ob,s.heap.get? a=some ob/\ob.dict=none)
  (h:∀(A:Around) (s₁:Shared) (vs:List Value) (E:Value->Shared->Prop),cJ 0 A->P.G s₁.heap->cD s₁.heap hid->Dn P s₁.heap hid y v->bd P s₁.heap hid xs vs->
   wpAny (model P.prog P.w) A (call (.builtin id) (v::vs)) (fun u s'=>Kp s₁ s'/\Dn P s'.heap hid r u) E s₁):ZL P name s hid y v xs r
noncomputable def HX(P:Pk)(name:Str)(F:V->List V->Option V):Prop:=
 ∀(s:Shared) (hid:List Addr) (y:V) (v:Value) (xs:List V) (r:V),P.G s.heap->Dn P s.heap hid y v->F y xs=some r->ZL P name s hid y v xs r
noncomputable def RC(F:V->List V->Option V)(f:ao->Option V)(g:ao->Option (List V)):ao->Option V:=fun ρ=>(f ρ).bind fun y=>(g ρ).bind fun xs=>F y xs
theorem ij{o:Expr}{apos pos:Pos}{name:Str}{args:List Expr}{F f g}(ho:eo P n K lo o f)
  (hm:HX P name F) (ha:kl P n K lo args g) (iX:∀env,starEach args env=args.map fun e=>(false,eval e env)) (cZ:args.length<20) (pW:(apos.endLine==pos.line)=true) (pX:∀env,attributeBase o name env (eval o env)=eval o env):
  eo P n K lo (.Call (.Attribute o name apos) args [] pos) (RC F f g):=fun A env out hid m B s ρ z E r S hf=>by
 refine ak hf fun y hy gu=>?_
 clear hf;rename _=>hf
 refine ak hf fun xs yb hF=>?_
 have eg:(backTo pos (starEach args env)).any (·.1)=false:=ct iX;refine xF (pX env) (nN eg cZ) pW ?_;refine aD (ho A env out hid m B s ρ y E r S hy) (fun v s₁ q=>?_) fun ø ø q=>q
 have bC:=S.after q.1;obtain⟨T,id,c1,c2,c3,c4,c5,c6⟩:=hm s₁ (av lo out hid) y v xs z bC.G q.2 hF;refine⟨T,id,c1,c2,c3,c4,c5,tt eg ?_⟩;have key:=ha A env out hid m B s₁ ρ xs E pos r bC yb;have fin:∀vs s₂,(Kp s₁ s₂/\bd P s₂.heap (av lo out hid) xs vs)->wpAny (model P.prog P.w) A (call (.builtin id) ([v]++vs) []) (fun u s'=>Kp s s'/\Dn P s'.heap (av lo out hid) z u) E s₂:=by
  intro vs s₂ aM;have dI:=bC.after aM.1;exact aD (c6 A s₂ vs E (r.less (eK _)) dI.G (dI.Ep lo) (Dn.kp (P:=P) q.2 aM.1) aM.2) (fun u s' q'=>⟨(q.1.trans aM.1).trans q'.1,q'.2⟩) fun ø ø q=>q
 exact bW eg (aD key fin fun ø ø q=>q)
noncomputable def oY:List V->Option (List (List Nat))
 |[]=>some []
 |x::l=>x.jO.bind fun i=>(oY l).map (i:: ·)
theorem HY:oY []=some []:=rfl
theorem H0(i:List Nat)(l:List V):oY (.str i::l)=(oY l).map (i:: ·):=rfl
theorem FU{y:V}{l:List V}{is:List (List Nat)}(h:oY (y::l)=some is):∃k LY,y= .str k/\oY l=some LY/\is=k::LY:=by
 obtain⟨i,hi,h⟩:=kP.mp h;obtain⟨r,h1,h2⟩:=nB.mp h;exact⟨i,r,V.kW hi,h1,h2.symm⟩
theorem w8{h:Heap}{hid}:∀{l:List V} {ts:List (List Nat)} {vs:List Value},oY l=some ts->bd P h hid l vs->∃w:List (Str×Tok),vs=strValues w/\w.map (·.1)=ts.map pyStr
 |[],ts,vs,e,d=>by cases e;obtain rfl:=bd.nil_inv d;exact⟨[],rfl,rfl⟩
 |y::l,ts,vs,e,d=>by
  obtain⟨t,ts',rfl,h',rfl⟩:=FU e;obtain⟨v,r,rfl,h1,h2⟩:=bd.cons_inv d;obtain⟨k,rfl⟩:=h1.str_inv;obtain⟨w,rfl,hw⟩:=w8 h' h2;exact⟨(pyStr t,k)::w,rfl,by simp[hw]⟩
noncomputable def oZ(sep:List Nat):List (List Nat)->List Nat
 |[]=>[]
 |[x]=>x
 |x::y::r=>x++sep++oZ sep (y::r)
theorem AA(sep:List Nat):oZ sep []=[]:=rfl
theorem AB(sep x:List Nat):oZ sep [x]=x:=rfl
theorem AC(sep x y:List Nat)(r:List (List Nat)):oZ sep (x::y::r)=x++sep++oZ sep (y::r):=rfl
theorem EG(sep:List Nat):∀ts:List (List Nat),Str.join (pyStr sep) (ts.map pyStr)=pyStr (oZ sep ts)
 |[]=>rfl
 |[x]=>rfl
 |x::y::r=>by
  show pyStr x++pyStr sep++Str.join (pyStr sep) ((y::r).map pyStr)=_;rw[EG sep (y::r),on,on];rfl
noncomputable def SF(sep:List Nat)(l:List V):Option V:=(oY l).bind fun ts=>if JoinOk (pyStr sep) (ts.map pyStr)=true then some (.str (oZ sep ts))else none
noncomputable def EH(y:V)(xs:List V):Option V:=y.jO.bind fun sep=>(V.one? xs).bind fun x=>x.gm.bind (SF sep)
theorem EI(sep:List Nat)(l:List V):EH (.str sep) [.list l]=(oY l).bind fun ts=>if JoinOk (pyStr sep) (ts.map pyStr)=true then some (.str (oZ sep ts))else none:=rfl
theorem EJ:HX P "join" EH:=fun s hid y v xs r G hv hF=>ak hF fun sep hs hF=>ak hF fun x Si hF=>ak hF fun l hl hF=>ak hF fun ts SG hF=>eR hF fun Cl e=>by
 cases V.jq Si;subst e;exact hv.str_k hs fun t=>⟨"str","str.join",Cy,PySem.F.slot_str_join,PySem.F.type_str_join,qW _ _ _,(fun ø e=>nomatch e),fun A s₁ vs E rm H1 live uc hx=>hx.one_k fun u hu=>hu.jn hl fun a ws ø ha ø ht hd=>by
  obtain⟨w,rfl,hw⟩:=w8 SG hd;refine PySem.SC.join ht.isList hw Cl fun t' k=>⟨Kp.toks s₁ k,?_⟩
  rw[show Txt.join (pyStr sep) (ts.map pyStr)=pyStr (oZ sep ts)from(PySem.StrLaws.glued_eq_join _ _).trans (EG sep ts)];exact .ofStr _ _⟩
noncomputable def mh(l:List Nat):List Nat:=(Txt.lower (pyStr l)).cps.toList
noncomputable def Pa(y:V)(xs:List V):Option V:=y.jO.bind fun l=>if xs.isEmpty=true/\Builtin.Str.tooLong (Txt.lower (pyStr l)).length=false then some (.str (mh l))else none
theorem Pb(l:List Nat)(h:Builtin.Str.tooLong (Txt.lower (pyStr l)).length=false):Pa (.str l) []=some (.str (mh l)):=by
 show(if _ then _ else _)=_;rw[aw ⟨rfl,h⟩]
theorem SH:HX P "lower" Pa:=fun s hid y v xs r G hv hF=>ak hF fun l hl hF=>eR hF fun Cl e=>by
 subst e;obtain⟨h1,Cl⟩:=Cl
 cases xs with
 |cons _ _=>cases h1
 |nil=>
  exact hv.str_k hl fun t=>⟨"str","str.lower",Cy,PySem.F.slot_str_lower,PySem.F.type_str_lower,qW _ _ _,(fun ø e=>nomatch e),fun A s₁ vs E rm H1 live uc hx=>by
   obtain rfl:=bd.nil_inv hx;exact PySem.SC.lower (t:=t) Cl ⟨Kp.toks s₁ _,.ofStr (mh l) _⟩⟩
end
section
variable{P:Pk}{n:Nat}{K K':Cx}{lo:Bool}
noncomputable def SI(xs:List V):Option V:=(V.one? xs).bind fun x=>x.gm.bind fun l=>if l.length<=most then some (.tup l)else none
theorem Pc(l:List V):SI [.list l]=if l.length<=most then some (.tup l)else none:=id rfl
theorem Pd{A:Around}{s:Shared}{hid:List Addr}{a:Addr}{ws:List Value}{l:List V}{E:Value->Shared->Prop}(live:cD s.heap hid)(ht:s.heap.PlainList a ws.toArray)(hd:bd P s.heap hid l ws)(hm:l.length<=most):
  wpAny (model P.prog P.w) A (call (.type "tuple") [.ref a]) (fun r s'=>Kp s s'/\Dn P s'.heap hid (.tup l) r) E s:=by
 refine PySem.call_tuple_list ht.isList (fun h' hk=>?_) (by rw[cb,hd.length];exact az hm cR);have kp:Kp s {s with heap:=h'.push {cls:=.type "tuple",data:=.seq ws.toArray} }:=⟨fun b o e=>bz _ (hk b o e),.refl _,rfl⟩;refine⟨kp,.Hq ?_ ⟨0,bJ _ rfl⟩ (bd.kp (P:=P) hd kp)⟩;intro q;obtain⟨o,e⟩:=live _ q;have:=hk _ _ e;rw[bE]at this;cases this
noncomputable def W9(xs:List V):Option V:=(oy xs).bind fun l=>if l.length<=most then some (.list l)else none
theorem bd.SJ{h:Heap}{hid}{l:List V}:∀{vs:List Value},vs.length=l.length->(∀(i:Nat) x v,l[i]?=some x->vs[i]?=some v->Dn P h hid x v)->bd P h hid l vs:=by
 induction l with
 |nil=>
  intro vs hl _;cases List.length_eq_zero_iff.mp hl;exact bq.nil
 |cons x l ih=>
  intro vs hl h1
  cases vs with
  |nil=>cases hl
  |cons v vs=>exact .cons (h1 0 x v rfl rfl) (ih (Nat.succ.inj hl) fun i y u hy hu=>h1 (i+1) y u hy hu)
set_option tactic.hygienic true in
theorem sN{p p2 pos p4:Pos}{es:List Expr}{f}(hx:K.aV.contains "range"=true)(hv:P.glob "range"=some (.type "range"))(zW:K.aV.contains "list"=true)(FF:P.glob "list"=some (.type "list"))
  (hs:kl P n K false es f) (iX:∀env,starEach es env=es.map fun e=>(false,eval e env)) (AD:∀env,starEach [.Call (.Name "range" p2) es [] p4] env=[(false,eval (.Call (.Name "range" p2) es [] p4) env)]):
  Hy P n K (.Call (.Name "list" p) [.Call (.Name "range" p2) es [] p4] [] pos) (fun ρ=>(f ρ).bind W9):=fun A env out hid m B s ρ x E rm S hf=>by
 refine ak hf fun y hy gu=>?_
 clear hf;rename _=>hf
 refine ak hf fun l hl gu=>?_
 clear hf;rename _=>hf
 split at hf
 case isFalse=>cases hf
 rename_i hm;cases hf;have hp:(backTo pos (starEach [.Call (.Name "range" p2) es [] p4] env)).any (·.1)=false:=by rw[AD];rfl
 refine kO (bH S zW FF (by decide) ?_);refine pj hp ?_;refine bW hp (nq (Q:=fun vs s'=>wpAny (model P.prog P.w) A (call (.type "list") ([]++vs) []) (fun v s'=>Kp s s'/\Hx P s s' hid (.list l) v) E s') ?_ (AD env));refine kO (bH S hx hv (by decide) ?_);refine pj (ct iX) ?_;refine bW (ct iX) (aD (hs A env out hid m B s ρ y E p4 rm S hy) (fun vs s₁ aj=>?_) fun ø ø q=>q);refine pY (vs:=[]++vs) aj.2 hl fun a b c t u v k s₂ l7 hk lE hr kp=>?_
 subst l7;refine nA ?_;have hkm:k<=most:=by simpa using hm
 have EK:most=1000000:=rfl;refine call_list_range rm.handled hr lE hk.symm (by omega) fun h' tk eN c' Pe hS hit=>?_
 have kp':Kp s₂ {s₂ with heap:=h',toks:=tk}:=.heap Pe;refine⟨aj.1.trans (kp.trans kp'),?_⟩;have jr:s.heap.get? s₂.heap.objs.size=none:=by
  cases e:s.heap.get? s₂.heap.objs.size with
  |none=>rfl
  |some o=>have:=kp.keep _ _ (aj.1.keep _ _ e);rw[bE]at this;cases this
 refine⟨_,eN.toList,rfl,jr,⟨c',by simpa using hS⟩,bd.SJ (by simp[hit.1]) fun i z w hz hw=>?_⟩;rw[dh]at hz;have hw':eN[i]?=some w:=by simpa using hw
 obtain⟨t',rfl⟩:=hit.2 i w hw';by_cases hi:i<k
 ·rw[Ct hi]at hz
  cases hz;exact .ofInt _ _
 ·rw[nu (by simpa using hi)]at hz;cases hz
end
section
variable{P:Pk}{n:Nat}{K K':Cx}{lo:Bool}
theorem H2{h:Heap}{hid:List Addr}{q:Int}{ks:List Int}{xs:List V}{vs:List Value}{d:V}{u:Value}(hl:vs.length=ks.length)(hd:bd P h hid xs vs)(hu:Dn P h hid d u):Dn P h hid ((p0 ks xs q).getD d) ((valueAt (ks.zip vs) q).getD u):=by
 have:=uj (P:=P) (q:=q) hl hd
 cases e:p0 ks xs q with
 |some z=>rw[e]at this;obtain⟨w,hw,hz⟩:=this;rw[hw];exact hz
 |none=>rw[e]at this;rw[this];exact hu
noncomputable def H3(P:Pk)(a:Addr)(name:Str)(F:List V->Option V):Prop:=
 ∀(s:Shared),P.G s.heap->∃(T id:String),PlainAttrs T/\Slot T name id/\typeOf (.builtin id)=pure (.type "method_descriptor")/\s.TypeIs (.ref a) T/\(∃ob,s.heap.get? a=some ob/\ob.dict=none)/\
  ∀(A:Around) (s₁:Shared) (hid:List Addr) (xs:List V) (r:V) (vs:List Value) (E:Value->Shared->Prop),cJ 0 A->P.G s₁.heap->cD s₁.heap hid->bd P s₁.heap hid xs vs->F xs=some r->
   wpAny (model P.prog P.w) A (call (.builtin id) (.ref a::vs)) (fun u s'=>Kp s₁ s'/\Dn P s'.heap hid r u) E s₁
theorem AE{id:Str}{p apos pos:Pos}{name:Str}{args:List Expr}{a:Addr}{F g}(hx:K.aV.contains id=true)(hv:P.glob id=some (.ref a))(hd:(id==("__debug__":Str))=false)
  (hm:H3 P a name F) (ha:kl P n K lo args g) (iX:∀env,starEach args env=args.map fun e=>(false,eval e env)) (cZ:args.length<20) (pW:(apos.endLine==pos.line)=true) (pX:∀env,attributeBase (.Name id p) name env (eval (.Name id p) env)=eval (.Name id p) env):
  eo P n K lo (.Call (.Attribute (.Name id p) name apos) args [] pos) (jm F g):=fun A env out hid m B s ρ z E r S hf=>by
 refine ak hf fun xs yb hF=>?_
 have eg:(backTo pos (starEach args env)).any (·.1)=false:=ct iX;refine xF (pX env) (nN eg cZ) pW ?_;refine bH S hx hv hd ?_;obtain⟨T,id,c1,c2,c3,c4,c5,c6⟩:=hm s S.G;refine⟨T,id,c1,c2,c3,c4,fun b e=>by cases e;exact c5,tt eg ?_⟩;have key:=ha A env out hid m B s ρ xs E pos r S yb;have fin:∀vs s₂,(Kp s s₂/\bd P s₂.heap (av lo out hid) xs vs)->wpAny (model P.prog P.w) A (call (.builtin id) ([.ref a]++vs) []) (fun u s'=>Kp s s'/\Dn P s'.heap (av lo out hid) z u) E s₂:=by
  intro vs s₂ aM;have dI:=S.after aM.1;exact aD (c6 A s₂ _ xs z vs E (r.less (eK _)) dI.G (dI.Ep lo) aM.2 hF) (fun u s' q'=>⟨aM.1.trans q'.1,q'.2⟩) fun ø ø q=>q
 exact bW eg (aD key fin fun ø ø q=>q)
noncomputable def H4(ks:List Int)(ts:List (List Nat))(xs:List V):Option V:=(V.one? xs).bind fun x=>x.int?.bind fun k=>some ((p0 ks (ts.map .str) k).getD .none)
theorem Pf(ks:List Int)(ts:List (List Nat))(k:Int):H4 ks ts [.int k]=some ((p0 ks (ts.map .str) k).getD .none):=rfl
theorem SK{a:Addr}{ks:List Int}{ts:List (List Nat)}(lE:(a==sysModules)=false)(h:∀h,P.G h->∃oW:List (Str×Tok),oW.map (·.1)=ts.map pyStr/\oW.length=ks.length/\h.DictOf (intKind P.prog P.w) a (ks.zip (strValues oW))):
  H3 P a "get" (H4 ks ts):=fun s G=>by
 obtain⟨oW,e1,e2,ht⟩:=h _ G;refine⟨"dict","dict.get",PySem.F.plainAttrs_dict,PySem.F.slot_dict_get,PySem.F.type_dict_get,ht.typeIs,ht.mapOf.noDict _ rfl,fun A s₁ hid xs r vs E rm H1 live hx hF=>?_⟩;refine ak hF fun y hy hF=>ak hF fun k hk hF=>some_inv hF ?_
 cases V.jq hy;refine hx.one_k fun u hu=>hu.int_k hk fun t=>?_
 clear hF hy hu hx ht e1 e2 oW;obtain⟨oW,e1,e2,ht⟩:=h _ H1;have key:∀(oW:List (Str×Tok)) (ts:List (List Nat)),oW.map (·.1)=ts.map pyStr->bd P s₁.heap hid (ts.map .str) (strValues oW):=by
  intro oW
  induction oW with
  |nil=>intro ts e;cases ts with
   |nil=>exact bq.nil
   |cons t ts=>simp at e
  |cons p oW ih=>intro ts e;cases ts with
   |nil=>simp at e
   |cons t ts=>
    simp only[bB,List.cons.injEq]at e;obtain⟨x,y⟩:=p;obtain⟨rfl,e⟩:=e;exact .cons (Dn.ofStr (P:=P) _ _) (ih ts e)
 exact call_meetsIn PySem.F.slot_dict_get ht.typeIs PySem.F.entry_dict_get (PySem.F.args_dict_get_2 _ _) (meets_dict_get _ a (intKind_is P.prog P.w k t) lE) ⟨_,ht.mapOf,Kp.toks s₁ _,H2 (by simpa[strValues]using e2) (key oW ts e1) .ub⟩
end
section
variable{P:Pk}{n:Nat}{K K':Cx}{lo:Bool}
noncomputable def H5(T:Int->Bool)(x:V):Option V:=x.int?.map fun k=>.bool (T k)
theorem H6(T:Int->Bool)(k:Int):H5 T (.int k)=some (.bool (T k)):=rfl
theorem AF{l:Expr}{id:Str}{p pos:Pos}{a:Addr}{T:Int->Bool}{f}(hx:K.aV.contains id=true)(hv:P.glob id=some (.ref a))(hd:(id==("__debug__":Str))=false)
  (hG:∀h,P.G h->∃n,h.SetOf (intKind P.prog P.w) a T n) (hl:eo P n K true l f) (hm:behindInMarks .In (.Name id p)=false):
  eo P n K lo (.Compare l [.In] [.Name id p] pos) (fun ρ=>(f ρ).bind (H5 T)):=fun A env out hid m B s ρ z E rm S hf=>by
 refine ak hf fun x zW gu=>?_
 clear hf;rename _=>hf
 refine cI hf fun k hk e=>?_
 cases V.nJ hk;subst e;refine wpAny_Compare1 (aD (hl A env out hid m B s ρ _ E rm S zW) (fun u s₁ aj=>?_) fun ø ø q=>q) hm;have bC:=S.after aj.1;refine bH bC hx hv hd ?_;obtain⟨t,rfl⟩:=aj.2.int_inv;obtain⟨n,hS⟩:=hG _ bC.G;exact wpAny_inSet_of (intKind_is P.prog P.w k t) rfl hS ⟨aj.1.trans (Kp.toks s₁ _),.ofBool _⟩
noncomputable def tabS(T:List Nat->Option Int)(x:V):Option V:=x.jO.bind fun l=>(T l).map .int
theorem AG{i:Expr}{id:Str}{p pos:Pos}{a:Addr}{T:List Nat->Option Int}{g}(hx:K.aV.contains id=true)(hv:P.glob id=some (.ref a))(hd:(id==("__debug__":Str))=false)
  (hG:∀h,P.G h->∃f:Str->Option Value,h.MapOf (strKind P.prog P.w) a f/\∀l k,T l=some k->∃t,f (pyStr l)=some (.int k t)) (hi:eo P n K true i g)
  (hs:∀u v,subscripted i false u v=operate [u,v] (getItem u v)):eo P n K lo (.Subscript (.Name id p) i pos) (fun ρ=>(g ρ).bind (tabS T)):=fun A env out hid m B s ρ z E rm S hf=>by
 refine ak hf fun y hy gu=>?_
 clear hf;rename _=>hf
 refine ak hf fun l hl hf=>cI hf fun k hk e=>?_
 cases V.kW hl;subst e;refine rz ?_ (fun u v=>⟨_,hs u v⟩);refine bH S hx hv hd ?_;refine aD (hi A env out hid m B s ρ _ E rm S hy) (fun v s₂ aM=>?_) fun ø ø q=>q
 obtain⟨t,rfl⟩:=aM.2.str_inv;obtain⟨f,hm,hf⟩:=hG _ (S.after aM.1).G;obtain⟨t',e⟩:=hf l k hk;exact⟨"dict","dict.__getitem__",slot_dict_getitem.lookup,hm.typeIs,wpAny_getItem_of (strKind_is P.prog P.w (pyStr l) t) hm e ⟨aM.1.trans (Kp.toks s₂ _),.ofInt _ _⟩⟩
end
section
section
variable{prog:Program}{w:World}{A:Around}{E:Value->Shared->Prop}{s:Shared}{KK:Type}[DecidableEq KK]{knd:KeyKind prog w KK}
end
end
section
variable{P:Pk}{n:Nat}{K K':Cx}{lo:Bool}
theorem fq{es:List Expr}{pos:Pos}{f}(hs:kl P n K false es f)(hl:es.length<=100)(hlen:∀ρ x,f ρ=some x->x.length=es.length):Hy P n K (.List es pos) (fun ρ=>(f ρ).map .list):=fun A env out hid m B s ρ x E rm S hf=>by
 refine cI hf ?_;clear hf;rintro y hy rfl;refine wpAny_List (aD (hs A env out hid m B s ρ y E pos rm S hy) (fun vs s₁ aj=>⟨?_,aj.1.trans (Kp.push s₁ _ _),?_⟩) fun ø ø q=>q)
 ·rw[aj.2.length,hlen _ _ hy,jQ];omega
 ·have jr:s.heap.get? s₁.heap.objs.size=none:=by
   cases e:s.heap.get? s₁.heap.objs.size with
   |none=>rfl
   |some o=>have:=aj.1.keep _ _ e;rw[bE]at this;cases this
  exact⟨_,vs,rfl,jr,⟨0,bJ _ rfl⟩,aj.2.grow (fun a o ø e=>bz _ e) fun a ha=>by
   rcases bI.mp ha with rfl|ha
   ·exact .inr (bE _)
   ·exact .inl ha⟩
theorem AH{pos:Pos}:Hy P n K (.Dict [] [] pos) (fun ø=>some (.dict [] [])):=fun A env out hid m B s ρ x E rm S hf=>by
 cases hf;refine wpAny_Dict_empty ⟨Kp.push s _ s.toks,?_⟩;have cZ:(s.heap.objs.size==sysModules)=false:=by
  obtain⟨mg,mb,h1,h2,_⟩:=P.aV S.G;rw[kQ];intro e;have:=h1.lt;rw[e]at this;exact absurd this (by decide)
 exact⟨_,[],rfl,bE _,cZ,rfl,Heap.DictOf.new _,bq.nil⟩
noncomputable def SM(x:V):Option V:=x.int?.map fun i=>.int (-i)
theorem FV{e:Expr}{pos:Pos}{f}(h:eo P n K lo e f):eo P n K lo (.UnaryOp .USub e pos) (fun ρ=>(f ρ).bind SM):=fun A env out hid m B s ρ x E rm S hf=>by
 refine ak hf fun y hy gu=>?_
 clear hf;rename _=>hf
 refine wpAny_UnaryOp (aD (h A env out hid m B s ρ y E rm S hy) (fun v s₁ aj=>?_) fun ø ø q=>q);refine cI hf fun i hi e=>?_
 cases V.nJ hi;subst e;obtain⟨t,rfl⟩:=aj.2.int_inv;exact PyProof.Rows.neg_int ⟨aj.1.trans (Kp.toks s₁ _),.ofInt _ _⟩
noncomputable def Vz(P:Pk)(n:Nat)(K:Cx)(e:Expr)(f:ao->Option V):Prop:=
 ∀(A:Around) (env:Env) (out hid:List Addr) (m:Str->Option Value) (B s:Shared) (ρ:ao) (l:List V) (E:Value->Shared->Prop),cJ n A->aU P K env out hid m B s ρ->f ρ=some (.list l)->
  wpAny (model P.prog P.w) A (eval e env) (fun v s'=>Kp s s'/\∃a vs,v= .ref a/\s'.heap.PlainList a vs.toArray/\bd P s'.heap hid l vs) E s
theorem H7{e f}(h:eo P n K false e f):Vz P n K e f:=fun A env out hid m B s ρ l E rm S hf=>
 aD (h A env out hid m B s ρ _ E rm S hf) (fun v s' q=>⟨q.1,by
  obtain⟨p,vs,rfl,d1,d2,d3⟩:=q.2.cK;exact⟨p,vs,rfl,d2,d3⟩⟩) fun ø ø q=>q
theorem FW(i:Nat){x:Str}{k:NameKind}{pos:Pos}(hi:K.vars[i]?=some (x,k,true))(hd:(x==("__debug__":Str))=false)(hc:(x==("__classdict__":Str))=false):
  Vz P n K (.Name x pos) fun ρ=>ρ i:=fun A env out hid m B s ρ y E r S hf=>
 fP (S.load hi hf hd hc fun v hv ø=>⟨Kp.refl s,by
  rw[aw rfl]at hv;obtain⟨a,vs,rfl,h1,h2,h3,h4,h5⟩:=eP.cK hv;exact⟨a,vs,rfl,h4,h5⟩⟩) hd
noncomputable def Pg:V->V->Option V:=qK V.gm V.gm fun a b=>if a.length+b.length<=most then some (.list (a++b))else none
theorem L3(a b:List V):Pg (.list a) (.list b)=if a.length+b.length<=most then some (.list (a++b))else none:=rfl
theorem Dc{l r:Expr}{pos:Pos}{f g}(hl:Vz P n K l f)(hr:Vz P n K r g):
  Hy P n K (.BinOp l .Add r pos) (iW Pg f g):=fun A env out hid m B s ρ z E rm S hf=>by
 refine ak hf fun x hx gu=>?_
 clear hf;rename _=>hf
 refine ak hf fun y hy gu=>?_
 clear hf;rename _=>hf
 refine bO hf fun a b ha hb hf=>eR hf fun hc he=>?_
 cases V.eO ha;cases V.eO hb;subst he;refine wpAny_BinOp (aD (hl A env out hid m B s ρ _ E rm S hx) (fun u s₁ aj=>?_) fun ø ø q=>q);refine aD (hr A env out hid m B s₁ ρ _ E rm (S.after aj.1) hy) (fun v s₂ aM=>?_) fun ø ø q=>q
 obtain⟨k1,p,vs,rfl,⟨n₁,d2⟩,d3⟩:=aj;obtain⟨k2,p',we,rfl,⟨OI,d2'⟩,ZM⟩:=aM;have jr:s.heap.get? s₂.heap.objs.size=none:=by
  cases e:s.heap.get? s₂.heap.objs.size with
  |none=>rfl
  |some o=>have:=k2.keep _ _ (k1.keep _ _ e);rw[bE]at this;cases this
 replace d3:=bd.kp (P:=P) d3 k2;refine PySem.P.add_list (n:=n₁) (n2:=OI) (k2.keep _ _ d2) d2' ⟨k1.trans (k2.trans (Kp.push s₂ _ s₂.toks)),?_⟩ (by rw[cb,cb,d3.length,ZM.length];exact az hc cR);rw[Co];exact⟨_,vs++we,rfl,jr,⟨0,bJ _ rfl⟩,bd.grow (P:=P) (d3.app ZM) (fun a o ø e=>bz _ e) fun a ha=>by
  rcases bI.mp ha with rfl|ha
  ·exact .inr (bE _)
  ·exact .inl ha⟩
end
section
variable{P:Pk}{n:Nat}{K K':Cx}{lo:Bool}
theorem w9{t e:Expr}{pos:Pos}{a f}(ha:Et P K false t a)(h:eo P n K false e f)(hs:∀env,swapsWithSole [t] e pos.line env=pure false)(hw:∀env,swappedStores [t] e env=pure none)
  (he:∀env,(assignEach [t] env).map (·.2)=[assign t env]):zU P n K (.Assign [t] e pos) fun ρ=>(f ρ).bind fun y=>(a ρ y).map fun aQ=>(aQ,.next):=fun A env out hid m B s ρ aQ fl E r S hf=>by
 refine ak hf fun y hy e'=>?_
 refine cI e' ?_;rintro am LT e';cases e';refine wpAny_Assign_stores (aD (h A env out hid m B s ρ y E r S hy) (fun v s₁ aj=>?_) fun ø ø x=>x) (hs env) (hw env);rw[he];refine aD (ha A env out hid m B s₁ ρ _ y v E r.handled (S.after aj.1) LT aj.2) (fun ø s₂ q=>?_) fun ø ø x=>x
 obtain⟨ar,m',S',K',_⟩:=q;exact⟨ar,m',S',(Ks.iO aj.1).trans K',rfl⟩
theorem Dd(i j k:Nat){x y z:Str}{kx ky kz:NameKind}{p1 p2 p3 pos:Pos}{e:Expr}{c:Int}(hi:K.vars[i]?=some (x,kx,false))(hj:K.vars[j]?=some (y,ky,false))(hk:K.vars[k]?=some (z,kz,false))
  (fx:kx≠ .free) (fy:ky≠ .free) (fz:kz≠ .free) (h:eo P n K false e fun ø=>some (.int c)) (hw:∀env,swappedStores [.Name x p1,.Name y p2,.Name z p3] e env=pure none)
  (he:∀env,(assignEach [.Name x p1,.Name y p2,.Name z p3] env).map (·.2)=[assign (.Name x p1) env,assign (.Name y p2) env,assign (.Name z p3) env]):
  zU P n K (.Assign [.Name x p1,.Name y p2,.Name z p3] e pos) fun ρ=>some (upd (upd (upd ρ i (.int c)) j (.int c)) k (.int c),.next):=fun A env out hid m B s ρ aQ fl E r S hf=>by
 cases hf;refine wpAny_Assign_three (aD (h A env out hid m B s ρ _ E r S rfl) (fun v s₁ aj=>?_) fun ø ø x=>x) (he env) (hw env);obtain⟨t,rfl⟩:=aj.2.int_inv;refine lI ((S.after aj.1).store hi (y:=.int c) (show Dn P s₁.heap hid (.int c) (.int c t)from .ofInt c t) (fun q=>by cases q) fx fun m₁ s₂ dI ru ø=>?_);refine lI (dI.store hj (y:=.int c) (show Dn P s₂.heap hid (.int c) (.int c t)from .ofInt c t) (fun q=>by cases q) fy fun m₂ s₃ rv Ph ø=>?_);exact lI (rv.store hk (y:=.int c) (show Dn P s₃.heap hid (.int c) (.int c t)from .ofInt c t) (fun q=>by cases q) fz fun SN km rx FX ø=>⟨hid,SN,rx,(Ks.iO aj.1).trans (ru.trans (Ph.trans FX)),rfl⟩)
end
section
section
variable{prog:Program}{w:World}{A:Around}{E:Value->Shared->Prop}{s:Shared}
theorem xa{it t:Addr}{items:Array Value}(cZ:t≠it):∀(n i:Nat) (s:Shared) (Q:List Value->Shared->Prop),s.heap.IsListIter it t i->s.heap.IsList t items->i+n<=items.size->
  (∀h',h'.IsListIter it t (i+n)->Heap.SameBut it s.heap h'->Q ((items.toList.drop i).take n) {s with heap:=h'})->wpAny (model prog w) A (draw (.ref it) n) Q E s
 |0,i,s,Q,hit,_,_,hQ=>by
  show wpAny _ _ (pure []) Q E s;exact bK (by simpa using hQ s.heap hit (Heap.SameBut.refl ..))
 |n+1,i,s,Q,hit,ht,hle,hQ=>by
  have ew:i<items.size:=by omega
  show wpAny _ _ (pyNext (.ref it)>>= _) Q E s;refine aA (wpAny_pyNext_list_item hit ht (x:=items[i]) (by simp[ew]) fun aj rC eS=>?_);refine aA (gI (xa cZ n (i+1) _ _ rC (ht.extBut eS.extBut cZ) (by omega) fun aM Pi lh=>bK ?_));have hd:items.toList.drop i=items[i]::items.toList.drop (i+1):=by simp[List.drop_eq_getElem_cons,ew]
  have:=hQ aM (by rw[show i+(n+1)=i+1+n by omega];exact Pi) (eS.trans lh);rw[hd,List.take_succ_cons]at this;exact this
theorem rD{t:Addr}{items:Array Value}{Q:List Value->Shared->Prop}(hh:A.handled=none)(ht:s.heap.IsList t items)
  (hQ:∀h',Heap.ExtBut s.heap.objs.size s.heap h'->Q items.toList {s with heap:=h'}):wpAny (model prog w) A (unpackItems (.ref t) items.size none) Q E s:=by
 have ew:t≠s.heap.objs.size:=by obtain⟨o,ho,_⟩:=ht;exact ny (ez ho)
 unfold unpackItems;refine aA ?_
 ·unfold notIterableAtAll
  refine aA (xL ht.typeIs slot_list_iter.lookup ?_);refine bK ?_;simp only[kN,gZ];refine aA (gI (tB ht ?_));refine aA (gI (xa ew items.size 0 _ _ ⟨_,bJ _ rfl,rfl,rfl⟩ (ht.push _) (by omega) fun aj rC eS=>?_));have Fy:List.take items.size (List.drop 0 items.toList)=items.toList:=by
   rw[List.drop_zero];exact qU (by simp)
  rw[Fy];rw[au (by simp)];have SO:aj.IsList t items:=(ht.push _).extBut eS.extBut ew;refine aA (gI (wpAny_pyNext_list_end hh rC SO (by simp) fun aM SQ=>?_));simp only[Option.isSome_none,kN,gZ];refine bK (hQ aM fun b o hb e=>SQ b o hb (eS.extBut b o hb (bz _ e)))
theorem AI{t:Addr}{items:Array Value}{targets:List (Bool×(Value->Sem Unit))}{Q:Unit->Shared->Prop}(hh:A.handled=none)(ht:s.heap.IsList t items)
  (hn:targets.length=items.size) (SR:targets.findIdx? (·.1)=none)
  (h:∀h',Heap.ExtBut s.heap.objs.size s.heap h'->wpAny (model prog w) A (assignInOrder (targets.map (·.2)) items.toList) Q E {s with heap:=h'}):
  wpAny (model prog w) A (unpack (.ref t) targets) Q E s:=by
 unfold unpack;rw[hn,SR];exact aA (gI (rD hh ht h))
end
variable{P:Pk}{n:Nat}{K K':Cx}{lo:Bool}
noncomputable def NS(b:ao->List V->Option ao):ao->V->Option ao:=fun ρ x=>match x with
 | .list l=>b ρ l
 |_=>none
set_option tactic.hygienic true in
theorem RD{lc:Bool}{ts:List Expr}{k:Nat}{p:Pos}{b}(h:HC P K lc ts b)(hl:∀ρ xs aQ,b ρ xs=some aQ->xs.length=ts.length)(he:∀env,assignEach ts env=ts.map fun t=>(false,assign t env)):Et P K lc (.Tuple ts k p) (NS b):=
 fun A env out hid m B s ρ aQ x v E hh S hf hv=>by
 cases x<;>simp only[NS]at hf<;>try cases hf
 rename_i l;obtain⟨a,vs,rfl,ha,ht,hd⟩:=hv.cK;rw[arm_assign_Tuple];refine aA (lK (AI hh ht.isList ?_ ?_ fun h' hx=>?_))
 ·rw[he,List.length_map,cb,hd.length,hl _ _ _ hf]
 ·rw[he]
  rw[List.findIdx?_eq_none_iff];intro q hq;obtain⟨t,_,rfl⟩:=dt.mp hq;rfl
 ·have e:(assignEach ts env).map (·.2)=ts.map fun t=>assign t env:=by rw[he];simp
  rw[e];have k1:Kp s {s with heap:=h'}:=.heap fun b o q=>hx b o (fun z=>by rw[z,bE]at q;cases q) q
  refine aD (h A env out hid m B {s with heap:=h'} ρ aQ l vs E hh (S.after k1) hf (hd.kp k1)) (fun ø s₂ q=>q.pre (Ks.iO k1) fun ø b o ø q=>k1.keep b o q) fun ø ø q=>q
end
section
variable{P:Pk}{n:Nat}{K K':Cx}{lo:Bool}
end
section
variable{P:Pk}{n:Nat}{K K':Cx}{lo:Bool}
end
theorem intLit(n:Nat):Int.ofNat (no_index (@OfNat.ofNat Nat n (instOfNatNat n)))= @OfNat.ofNat Int n instOfNat:=rfl
noncomputable def Xa:Stmt:=(PySem.Challenge.pw_sl0032_02.main.body[3]?).getD (.Pass default)
noncomputable def NT(S:Stmt):Program:={PySem.Challenge.pw_sl0032_02 with main:={PySem.Challenge.pw_sl0032_02.main with body:=PySem.Challenge.pw_sl0032_02.main.body.set 3 S} }
noncomputable def pqT:{q:Program//True}:=by
 refine⟨?q,(?f:(fun S:Stmt=>NT S) Xa=?q->True) ?p⟩
 case p=>conv=>lhs;arg 0;unfold NT PySem.Challenge.pw_sl0032_02;reduce;dsimp only[intLit]
 case f=>exact fun ø=>trivial
noncomputable abbrev pq:Program:=pqT.1
theorem ST:PySem.Challenge.pw_sl0032_02=pq:=by kernel_rfl!
noncomputable def aO(b:List Stmt)(i:Nat):Stmt:=match b[i]? with
 |some s=>s
 |none=>.Pass default
noncomputable def ym{α:Type}(d:α)(fD:Arguments->List Stmt->Scope->α)(fC:List Stmt->α)(fA:List Expr->Expr->Pos->α)(fF:Expr->Expr->List Stmt->α)(fI:Expr->List Stmt->List Stmt->α)(s:Stmt):α:=
 @Stmt.casesOn (fun ø=>α) s (fun ø a b ø ø ø s ø ø ø=>fD a b s) (fun ø ø ø ø ø ø ø ø ø ø=>d) (fun ø ø ø b ø ø ø ø ø ø ø=>fC b) (fun ø ø=>d) (fun ø ø=>d) (fun t v p=>fA t v p) (fun ø ø ø ø ø ø ø=>d) (fun ø ø ø ø=>d) (fun ø ø ø ø ø=>d) (fun t i b ø ø=>fF t i b) (fun ø ø ø ø ø=>d) (fun ø ø ø ø=>d) (fun t b e ø=>fI t b e) (fun ø ø ø=>d) (fun ø ø ø=>d) (fun ø ø ø=>d) (fun ø ø ø=>d) (fun ø ø ø ø ø=>d) (fun ø ø ø ø ø=>d) (fun ø ø ø=>d) (fun ø ø=>d) (fun ø ø ø ø=>d) (fun ø ø=>d) (fun ø ø=>d) (fun ø ø=>d) (fun ø=>d) (fun ø=>d) (fun ø=>d)
noncomputable def H8{α:Type}(d:α)(fK:List (Option Expr)->List Expr->Pos->α)(fN:Int->Nat->Pos->α)(fS:Str->Nat->Pos->α)(e:Expr):α:=
 @Expr.casesOn (fun ø=>α) e (fun ø ø ø=>d) (fun ø ø ø=>d) (fun ø ø ø ø=>d) (fun ø ø ø=>d) (fun ø ø ø ø=>d) (fun ø ø ø ø=>d) (fun k v p=>fK k v p) (fun ø ø ø=>d) (fun ø ø ø ø=>d) (fun ø ø ø ø=>d) (fun ø ø ø ø ø=>d) (fun ø ø ø ø=>d) (fun ø ø=>d) (fun ø ø=>d) (fun ø ø=>d) (fun ø ø ø ø=>d) (fun ø ø ø ø=>d) (fun ø ø ø ø=>d) (fun ø ø=>d) (fun c n p=> @Const.casesOn (fun ø=>α) c d (fun ø=>d) (fun i=>fN i n p) (fun ø=>d) (fun ø ø=>d) (fun x=>fS x n p) (fun ø=>d) d) (fun ø ø ø=>d) (fun ø ø ø=>d) (fun ø ø=>d) (fun ø ø=>d) (fun ø ø=>d) (fun ø ø ø=>d) (fun ø ø ø ø=>d)
noncomputable def dW:Stmt->List Stmt:=ym [] (fun ø b ø=>b) (fun ø=>[]) (fun ø ø ø=>[]) (fun ø ø ø=>[]) (fun ø ø ø=>[])
noncomputable def SU:Stmt->Arguments:=ym default (fun a ø ø=>a) (fun ø=>default) (fun ø ø ø=>default) (fun ø ø ø=>default) (fun ø ø ø=>default)
noncomputable def kA:Stmt->Scope:=ym default (fun ø ø s=>s) (fun ø=>default) (fun ø ø ø=>default) (fun ø ø ø=>default) (fun ø ø ø=>default)
noncomputable def dX:Stmt->List Stmt:=ym [] (fun ø ø ø=>[]) (fun b=>b) (fun ø ø ø=>[]) (fun ø ø ø=>[]) (fun ø ø ø=>[])
noncomputable def seg(i n:Nat):List Stmt:=(pq.main.body.drop i).take n
noncomputable def E:Env:={scope:=pq.main.scope,locals:=mainNs,globals:=mainNs,cells:=[],code:=.ref 13,frame:=some 14}
noncomputable abbrev cE:Code:=.body (behindTheImports pq) E
noncomputable abbrev SS(T:Params->BT)(n k:Nat)(w:World)(os:OsState):SharedT:=⟨T w.params,n,{},#[],{},k,os⟩
noncomputable abbrev fp:Pos:=⟨0,0,0,0⟩
noncomputable def dE(P:Params)(x:Str)(n:Nat)(v:Value):DictEntry:=⟨PySem.PyData.keyHash P x,.str x n,v⟩
noncomputable def mO(c:Value)(d:Data):Obj:={cls:=c,dict:=none,data:=d,slots:= #[]}
noncomputable def fD(a b:Str)(s:Stmt)(g:Addr)(m c:Value):Data:=.func {name:=a,qualname:=b,params:=SU s,body:=.stmts (dW s),scope:=kA s,globals:=g,closure:=[],defaults:=.none,kwdefaults:=.none,doc:=.none,pyModule:=m,annotations:=none,code:=c,closureTuple:=.none,builtins:=0}
noncomputable def lf(o:Obj):BT:=.node o .nil .nil
noncomputable def iv(n:Int):Value:=.int n 0
noncomputable def cO(a:Str)(t:Nat)(b:Str)(t2:Nat)(c:Str)(t3:Nat)(l m n o f:Int)(r:Addr)(k:Bool)(q:Int)(r2:Addr)(v w x:Value)(i j:Int)(d:Str)(t4:Nat):Obj:=mO (.type "code") (.fields #[.str a t,.str b t2,.str c t3,iv l,iv m,iv n,iv o,iv f,.ref r,.bool k,iv q,.ref r2,.none,v,w,x,iv i,iv j,.str d t4])
noncomputable def d0(P:Params):DictEntry:=dE P s0 165 (.str s1 187)
noncomputable def d1(P:Params):DictEntry:=dE P s2 166 .none
noncomputable def d2(P:Params):DictEntry:=dE P ⟨#[95,95,112,97,99,107,97,103,101,95,95]⟩ 167 .none
noncomputable def d3(P:Params):DictEntry:=dE P ⟨#[95,95,108,111,97,100,101,114,95,95]⟩ 168 (.builtin "__main__.__loader__#opaque")
noncomputable def d4(P:Params):DictEntry:=dE P ⟨#[95,95,115,112,101,99,95,95]⟩ 169 .none
noncomputable def d5(P:Params):DictEntry:=dE P ⟨#[95,95,97,110,110,111,116,97,116,105,111,110,115,95,95]⟩ 170 (.ref 6)
noncomputable def d6(P:Params):DictEntry:=dE P ⟨#[95,95,98,117,105,108,116,105,110,115,95,95]⟩ 171 (.ref 4)
noncomputable def d7(P:Params):DictEntry:=dE P ⟨#[95,95,102,105,108,101,95,95]⟩ 173 (.str s3 172)
noncomputable def d8(P:Params):DictEntry:=dE P ⟨#[95,95,99,97,99,104,101,100,95,95]⟩ 174 .none
noncomputable def d9(P:Params):DictEntry:=dE P s4 248 (.ref 22)
noncomputable def Pj(P:Params):DictEntry:=dE P s5 255 (.ref 32)
noncomputable def RE(P:Params):DictEntry:=dE P s6 2206 (.ref 33)
noncomputable def VA(P:Params):DictEntry:=dE P s0 165 (.str s7 2249)
noncomputable def SV(P:Params):DictEntry:=dE P s8 2214 (.ref 78)
noncomputable def SW(P:Params):DictEntry:=dE P s9 2226 (.ref 85)
noncomputable def SX(P:Params):DictEntry:=dE P Em 2238 (.ref 92)
noncomputable def SY(P:Params):DictEntry:=dE P Hc 2248 (.ref 99)
noncomputable def SZ(P:Params):DictEntry:=dE P CN 2356 (.ref 161)
noncomputable def ZN(P:Params):DictEntry:=dE P ⟨#[95,95,109,111,100,117,108,101,95,95]⟩ 2258 (.str s7 2249)
noncomputable def ZO(P:Params):DictEntry:=dE P ⟨#[95,95,102,105,114,115,116,108,105,110,101,110,111,95,95]⟩ 2262 (.int (55) 2261)
noncomputable def ZP(P:Params):DictEntry:=dE P R3 2266 (.str ⟨#[32]⟩ 2264)
noncomputable def ZQ(P:Params):DictEntry:=dE P R4 2267 (.str ⟨#[9]⟩ 2265)
noncomputable def ZR(P:Params):DictEntry:=dE P Vh 2282 (.ref 116)
noncomputable def ZS(P:Params):DictEntry:=dE P Hd 2291 (.ref 123)
noncomputable def ZT(P:Params):DictEntry:=dE P En 2303 (.ref 130)
noncomputable def ZU(P:Params):DictEntry:=dE P Nw 2311 (.ref 137)
noncomputable def ZV(P:Params):DictEntry:=dE P Nx 2322 (.ref 144)
noncomputable def ZW(P:Params):DictEntry:=dE P Ny 2332 (.ref 151)
noncomputable def ZX(P:Params):DictEntry:=dE P Nz 2343 (.ref 158)
noncomputable def ZY(P:Params):DictEntry:=dE P ⟨#[95,95,115,116,97,116,105,99,95,97,116,116,114,105,98,117,116,101,115,95,95]⟩ 2349 (.ref 159)
noncomputable def VB(P:Params):DictEntry:=dE P ⟨#[76,80,65,82]⟩ 2358 (.int (7) 2357)
noncomputable def VC(P:Params):DictEntry:=dE P ⟨#[82,80,65,82]⟩ 2360 (.int (8) 2359)
noncomputable def VD(P:Params):DictEntry:=dE P ⟨#[76,83,81,66]⟩ 2362 (.int (9) 2361)
noncomputable def VE(P:Params):DictEntry:=dE P ⟨#[82,83,81,66]⟩ 2364 (.int (10) 2363)
noncomputable def VF(P:Params):DictEntry:=dE P ⟨#[67,79,76,79,78]⟩ 2366 (.int (11) 2365)
noncomputable def VG(P:Params):DictEntry:=dE P ⟨#[67,79,77,77,65]⟩ 2368 (.int (12) 2367)
noncomputable def VH(P:Params):DictEntry:=dE P ⟨#[83,69,77,73]⟩ 2370 (.int (13) 2369)
noncomputable def VI(P:Params):DictEntry:=dE P ⟨#[80,76,85,83]⟩ 2372 (.int (14) 2371)
noncomputable def VJ(P:Params):DictEntry:=dE P ⟨#[77,73,78,85,83]⟩ 2374 (.int (15) 2373)
noncomputable def VK(P:Params):DictEntry:=dE P ⟨#[83,84,65,82]⟩ 2376 (.int (16) 2375)
noncomputable def VL(P:Params):DictEntry:=dE P ⟨#[83,76,65,83,72]⟩ 2378 (.int (17) 2377)
noncomputable def VM(P:Params):DictEntry:=dE P ⟨#[86,66,65,82]⟩ 2380 (.int (18) 2379)
noncomputable def VN(P:Params):DictEntry:=dE P ⟨#[65,77,80,69,82]⟩ 2382 (.int (19) 2381)
noncomputable def VO(P:Params):DictEntry:=dE P ⟨#[76,69,83,83]⟩ 2384 (.int (20) 2383)
noncomputable def VP(P:Params):DictEntry:=dE P ⟨#[71,82,69,65,84,69,82]⟩ 2386 (.int (21) 2385)
noncomputable def VR(P:Params):DictEntry:=dE P ⟨#[69,81,85,65,76]⟩ 2388 (.int (22) 2387)
noncomputable def VS(P:Params):DictEntry:=dE P ⟨#[68,79,84]⟩ 2390 (.int (23) 2389)
noncomputable def VT(P:Params):DictEntry:=dE P ⟨#[80,69,82,67,69,78,84]⟩ 2392 (.int (24) 2391)
noncomputable def VU(P:Params):DictEntry:=dE P ⟨#[76,66,82,65,67,69]⟩ 2394 (.int (25) 2393)
noncomputable def VV(P:Params):DictEntry:=dE P ⟨#[82,66,82,65,67,69]⟩ 2396 (.int (26) 2395)
noncomputable def VW(P:Params):DictEntry:=dE P ⟨#[69,81,69,81,85,65,76]⟩ 2398 (.int (27) 2397)
noncomputable def VX(P:Params):DictEntry:=dE P ⟨#[78,79,84,69,81,85,65,76]⟩ 2400 (.int (28) 2399)
noncomputable def VY(P:Params):DictEntry:=dE P ⟨#[76,69,83,83,69,81,85,65,76]⟩ 2402 (.int (29) 2401)
noncomputable def VZ(P:Params):DictEntry:=dE P ⟨#[71,82,69,65,84,69,82,69,81,85,65,76]⟩ 2404 (.int (30) 2403)
noncomputable def Xb(P:Params):DictEntry:=dE P ⟨#[84,73,76,68,69]⟩ 2406 (.int (31) 2405)
noncomputable def Xc(P:Params):DictEntry:=dE P ⟨#[67,73,82,67,85,77,70,76,69,88]⟩ 2408 (.int (32) 2407)
noncomputable def Xd(P:Params):DictEntry:=dE P ⟨#[76,69,70,84,83,72,73,70,84]⟩ 2410 (.int (33) 2409)
noncomputable def Xe(P:Params):DictEntry:=dE P ⟨#[82,73,71,72,84,83,72,73,70,84]⟩ 2412 (.int (34) 2411)
noncomputable def Xf(P:Params):DictEntry:=dE P ⟨#[68,79,85,66,76,69,83,84,65,82]⟩ 2414 (.int (35) 2413)
noncomputable def Xg(P:Params):DictEntry:=dE P ⟨#[80,76,85,83,69,81,85,65,76]⟩ 2416 (.int (36) 2415)
noncomputable def Xh(P:Params):DictEntry:=dE P ⟨#[77,73,78,69,81,85,65,76]⟩ 2418 (.int (37) 2417)
noncomputable def Xi(P:Params):DictEntry:=dE P ⟨#[83,84,65,82,69,81,85,65,76]⟩ 2420 (.int (38) 2419)
noncomputable def Xj(P:Params):DictEntry:=dE P ⟨#[83,76,65,83,72,69,81,85,65,76]⟩ 2422 (.int (39) 2421)
noncomputable def Xk(P:Params):DictEntry:=dE P ⟨#[80,69,82,67,69,78,84,69,81,85,65,76]⟩ 2424 (.int (40) 2423)
noncomputable def Xl(P:Params):DictEntry:=dE P ⟨#[65,77,80,69,82,69,81,85,65,76]⟩ 2426 (.int (41) 2425)
noncomputable def Xm(P:Params):DictEntry:=dE P ⟨#[86,66,65,82,69,81,85,65,76]⟩ 2428 (.int (42) 2427)
noncomputable def Xn(P:Params):DictEntry:=dE P ⟨#[67,73,82,67,85,77,70,76,69,88,69,81,85,65,76]⟩ 2430 (.int (43) 2429)
noncomputable def Xo(P:Params):DictEntry:=dE P ⟨#[76,69,70,84,83,72,73,70,84,69,81,85,65,76]⟩ 2432 (.int (44) 2431)
noncomputable def Xp(P:Params):DictEntry:=dE P ⟨#[82,73,71,72,84,83,72,73,70,84,69,81,85,65,76]⟩ 2434 (.int (45) 2433)
noncomputable def Xq(P:Params):DictEntry:=dE P ⟨#[68,79,85,66,76,69,83,84,65,82,69,81,85,65,76]⟩ 2436 (.int (46) 2435)
noncomputable def Xr(P:Params):DictEntry:=dE P ⟨#[68,79,85,66,76,69,83,76,65,83,72]⟩ 2438 (.int (47) 2437)
noncomputable def Xs(P:Params):DictEntry:=dE P ⟨#[68,79,85,66,76,69,83,76,65,83,72,69,81,85,65,76]⟩ 2440 (.int (48) 2439)
noncomputable def Xu(P:Params):DictEntry:=dE P ⟨#[65,84]⟩ 2442 (.int (49) 2441)
noncomputable def Xv(P:Params):DictEntry:=dE P ⟨#[65,84,69,81,85,65,76]⟩ 2444 (.int (50) 2443)
noncomputable def Xw(P:Params):DictEntry:=dE P ⟨#[82,65,82,82,79,87]⟩ 2446 (.int (51) 2445)
noncomputable def Xx(P:Params):DictEntry:=dE P ⟨#[69,76,76,73,80,83,73,83]⟩ 2448 (.int (52) 2447)
noncomputable def Xy(P:Params):DictEntry:=dE P ⟨#[67,79,76,79,78,69,81,85,65,76]⟩ 2450 (.int (53) 2449)
noncomputable def Xz(P:Params):DictEntry:=dE P ⟨#[69,88,67,76,65,77,65,84,73,79,78]⟩ 2452 (.int (54) 2451)
noncomputable def ZZ(P:Params):DictEntry:=dE P Vi 2549 (.ref 166)
noncomputable def Z0(P:Params):DictEntry:=dE P ⟨#[45,62]⟩ 2487 (.int (51) 2445)
noncomputable def Z1(P:Params):DictEntry:=dE P ⟨#[46]⟩ 2489 (.int (23) 2389)
noncomputable def Z2(P:Params):DictEntry:=dE P ⟨#[46,46,46]⟩ 2491 (.int (52) 2447)
noncomputable def Z3(P:Params):DictEntry:=dE P ⟨#[47]⟩ 2493 (.int (17) 2377)
noncomputable def Z4(P:Params):DictEntry:=dE P ⟨#[47,47]⟩ 2495 (.int (47) 2437)
noncomputable def Z5(P:Params):DictEntry:=dE P ⟨#[47,47,61]⟩ 2497 (.int (48) 2439)
noncomputable def Z6(P:Params):DictEntry:=dE P ⟨#[47,61]⟩ 2499 (.int (39) 2421)
noncomputable def Z7(P:Params):DictEntry:=dE P ⟨#[58]⟩ 2501 (.int (11) 2365)
noncomputable def Z8(P:Params):DictEntry:=dE P ⟨#[58,61]⟩ 2503 (.int (53) 2449)
noncomputable def Z9(P:Params):DictEntry:=dE P ⟨#[59]⟩ 2505 (.int (13) 2369)
noncomputable def d89(P:Params):DictEntry:=dE P ⟨#[60]⟩ 2507 (.int (20) 2383)
noncomputable def d90(P:Params):DictEntry:=dE P ⟨#[60,60]⟩ 2509 (.int (33) 2409)
noncomputable def d91(P:Params):DictEntry:=dE P ⟨#[60,60,61]⟩ 2511 (.int (44) 2431)
noncomputable def d92(P:Params):DictEntry:=dE P ⟨#[60,61]⟩ 2513 (.int (29) 2401)
noncomputable def d93(P:Params):DictEntry:=dE P ⟨#[61]⟩ 2515 (.int (22) 2387)
noncomputable def d94(P:Params):DictEntry:=dE P ⟨#[61,61]⟩ 2517 (.int (27) 2397)
noncomputable def d95(P:Params):DictEntry:=dE P ⟨#[62]⟩ 2519 (.int (21) 2385)
noncomputable def d96(P:Params):DictEntry:=dE P ⟨#[62,61]⟩ 2521 (.int (30) 2403)
noncomputable def d97(P:Params):DictEntry:=dE P ⟨#[62,62]⟩ 2522 (.int (34) 2411)
noncomputable def d98(P:Params):DictEntry:=dE P ⟨#[62,62,61]⟩ 2523 (.int (45) 2433)
noncomputable def d99(P:Params):DictEntry:=dE P ⟨#[64]⟩ 2524 (.int (49) 2441)
noncomputable def S2(P:Params):DictEntry:=dE P ⟨#[64,61]⟩ 2525 (.int (50) 2443)
noncomputable def S3(P:Params):DictEntry:=dE P ⟨#[91]⟩ 2526 (.int (9) 2361)
noncomputable def S4(P:Params):DictEntry:=dE P ⟨#[93]⟩ 2527 (.int (10) 2363)
noncomputable def S5(P:Params):DictEntry:=dE P ⟨#[94]⟩ 2528 (.int (32) 2407)
noncomputable def S6(P:Params):DictEntry:=dE P ⟨#[94,61]⟩ 2529 (.int (43) 2429)
noncomputable def S7(P:Params):DictEntry:=dE P ⟨#[123]⟩ 2530 (.int (25) 2393)
noncomputable def S8(P:Params):DictEntry:=dE P ⟨#[124]⟩ 2531 (.int (18) 2379)
noncomputable def S9(P:Params):DictEntry:=dE P ⟨#[124,61]⟩ 2532 (.int (42) 2427)
noncomputable def Ta(P:Params):DictEntry:=dE P ⟨#[125]⟩ 2533 (.int (26) 2395)
noncomputable def Tb(P:Params):DictEntry:=dE P ⟨#[126]⟩ 2534 (.int (31) 2405)
noncomputable def aq:Obj:=mO (.type "tuple") (.seq #[] 0)
noncomputable def bb:Obj:=mO .none (.fields #[])
noncomputable def nQ:Obj:=cO Zp 182 Zp 183 s3 184 1 0 0 0 0 11 false 181 12 .none .none .none 185 1 s3 186
noncomputable def mi:Obj:={cls:=(.type "frame"),dict:=none,data:=.plain,slots:= #[(some (.ref 13)),(some (.ref 3)),(some (.ref 3)),none,(some (.str ⟨#[95,95,109,97,105,110,95,95]⟩ 164)),none,(some (.ref 0))]}
noncomputable def b0(P:Params):BT:=(.node (boot_o_5 P) (lf (boot_o_9 P)) (lf nQ))
noncomputable def b1(P:Params):BT:=(.node (boot_o_2 P) (.node (boot_o_4 P) (lf (boot_o_8 P)) (lf bb)) (.node (boot_o_6 P) (lf (boot_o_10 P)) (lf mi)))
noncomputable def H_a(P:Params):Heap:=⟨#[(boot_o_0 P),(boot_o_1 P),(boot_o_2 P),(boot_o_3 P),(boot_o_4 P),(boot_o_5 P),(boot_o_6 P),(boot_o_7 P),(boot_o_8 P),(boot_o_9 P),(boot_o_10 P),aq,bb,nQ,mi],{ }⟩
noncomputable def T_b(P:Params):BT:=(.node (boot_o_0 P) (.node (boot_o_1 P) (.node (boot_o_3 P) (lf (boot_o_7 P)) (lf aq)) (b0 P)) (b1 P))
noncomputable def Tc(P:Params):Obj:=mO (.type "dict") (.dict #[(d0 P),(d1 P),(d2 P),(d3 P),(d4 P),(d5 P),(d6 P),(d7 P),(d8 P)] 9)
noncomputable def XA(P:Params):BT:=(.node (boot_o_0 P) (.node (boot_o_1 P) (.node (Tc P) (lf (boot_o_7 P)) (lf aq)) (b0 P)) (b1 P))
noncomputable def Td(P:Params):Obj:=mO (.type "dict") (.dict #[(d0 P),(d1 P),(d2 P),(d3 P),(d4 P),(d5 P),(d6 P),(d7 P),(d8 P),(d9 P)] 10)
noncomputable def rE:Obj:=mO (.type "list") (.seq #[(.int (173) 189),(.int (847) 190),(.int (6150) 191),(.int (6155) 192),(.int (6156) 193),(.int (6157) 194),(.int (8203) 195),(.int (8204) 196),(.int (8205) 197),(.int (8288) 198),(.int (65279) 199)] 0)
noncomputable def rF:Obj:=mO (.type "range") (.fields #[(.int (65024) 200),(.int (65040) 201),(.int (1) 202)])
noncomputable def ur:Obj:=mO (.type "list") (.seq #[(.int (65024) 205),(.int (65025) 206),(.int (65026) 207),(.int (65027) 208),(.int (65028) 209),(.int (65029) 210),(.int (65030) 211),(.int (65031) 212),(.int (65032) 213),(.int (65033) 214),(.int (65034) 215),(.int (65035) 216),(.int (65036) 217),(.int (65037) 218),(.int (65038) 219),(.int (65039) 220)] 18)
noncomputable def rG:Obj:=mO (.type "range_iterator") (.fields #[(iv 65040),(iv 0),(iv 1)])
noncomputable def rH:Obj:=mO (.type "StopIteration") (.fields #[(.ref 19),.none,.none,.none,(.bool false),.none])
noncomputable def rI:Obj:=mO (.type "list") (.seq #[(.int (173) 189),(.int (847) 190),(.int (6150) 191),(.int (6155) 192),(.int (6156) 193),(.int (6157) 194),(.int (8203) 195),(.int (8204) 196),(.int (8205) 197),(.int (8288) 198),(.int (65279) 199),(.int (65024) 205),(.int (65025) 206),(.int (65026) 207),(.int (65027) 208),(.int (65028) 209),(.int (65029) 210),(.int (65030) 211),(.int (65031) 212),(.int (65032) 213),(.int (65033) 214),(.int (65034) 215),(.int (65035) 216),(.int (65036) 217),(.int (65037) 218),(.int (65038) 219),(.int (65039) 220)] 0)
noncomputable def iF(P:Params):Obj:=mO (.type "set") (.set #[((65024),(.int (65024) 205)),((65025),(.int (65025) 206)),((65026),(.int (65026) 207)),((65027),(.int (65027) 208)),((65028),(.int (65028) 209)),((65029),(.int (65029) 210)),((6150),(.int (6150) 191)),((65030),(.int (65030) 211)),((65031),(.int (65031) 212)),((65032),(.int (65032) 213)),((65033),(.int (65033) 214)),((6155),(.int (6155) 192)),((6156),(.int (6156) 193)),((6157),(.int (6157) 194)),((8203),(.int (8203) 195)),((8204),(.int (8204) 196)),((8205),(.int (8205) 197)),((65034),(.int (65034) 215)),((65035),(.int (65035) 216)),((65036),(.int (65036) 217)),((65037),(.int (65037) 218)),((65038),(.int (65038) 219)),((65039),(.int (65039) 220)),((173),(.int (173) 189)),((847),(.int (847) 190)),((8288),(.int (8288) 198)),((65279),(.int (65279) 199))] 29 {mask:=127,place:= #[0,1,2,3,4,5,6,7,8,9,10,11,12,13,14,15,16,17,18,19,20,21,22,45,79,96,127],dummies:= #[],finger:=0,led:=!(P.followText "set-order"),moves:=2,plain:=true})
noncomputable def pA:Obj:=mO (.type "list_iterator") (.fields #[.none,(iv 27)])
noncomputable def ut:Obj:=mO (.type "StopIteration") (.fields #[(.ref 24),.none,.none,.none,(.bool false),.none])
noncomputable def b2:BT:=(.node aq (lf aq) .nil)
noncomputable def b3(P:Params):BT:=(.node (boot_o_9 P) (lf ur) (lf ut))
noncomputable def XB(P:Params):BT:=(.node (boot_o_0 P) (.node (boot_o_1 P) (.node (Td P) (.node (boot_o_7 P) (lf rE) (lf pA)) b2) (.node (boot_o_5 P) (b3 P) (.node nQ (lf rI) .nil))) (.node (boot_o_2 P) (.node (boot_o_4 P) (.node (boot_o_8 P) (lf rF) (lf aq)) (.node bb (lf rH) .nil)) (.node (boot_o_6 P) (.node (boot_o_10 P) (lf rG) .nil) (.node mi (lf (iF P)) .nil))))
noncomputable def NU(P:Params):Obj:=mO (.type "dict") (.dict #[(d0 P),(d1 P),(d2 P),(d3 P),(d4 P),(d5 P),(d6 P),(d7 P),(d8 P),(d9 P),(Pj P)] 11)
noncomputable def H9:Obj:=mO .none (.fields #[(iv 3),(iv 0),(.ref 31)])
noncomputable def uu:Obj:=mO (.type "tuple") (.seq #[(.str Vj 252)] 0)
noncomputable def uv:Obj:=mO .none (fD s5 s5 (aO pq.main.body 2) 0 .none .none)
noncomputable def rJ:Obj:=cO s5 249 s5 250 s3 251 3 1 0 0 3 26 true 181 27 (.ref 28) (.ref 29) (.ref 30) 253 3 s3 254
noncomputable def mj:Obj:=mO (.type "function") (fD s5 s5 (aO pq.main.body 2) 3 (.str s1 187) (.ref 31))
noncomputable def NV(P:Params):BT:=(.node (boot_o_0 P) (.node (boot_o_1 P) (.node (NU P) (.node (boot_o_7 P) (.node rE (lf rJ) .nil) (lf pA)) (.node aq (lf aq) (lf bb))) (.node (boot_o_5 P) (b3 P) (.node nQ (lf rI) (lf aq)))) (.node (boot_o_2 P) (.node (boot_o_4 P) (.node (boot_o_8 P) (.node rF (lf mj) .nil) (lf aq)) (.node H9 (lf rH) (lf uu))) (.node (boot_o_6 P) (.node (boot_o_10 P) (lf rG) (lf aq)) (.node mi (lf (iF P)) (lf uv)))))
theorem Te(w:World):(fun os=>topGo treeTable pq w 11 (some (.ref 6)) 12 ⟨boot_heap w.params,#[],boot_drawn,boot_toks,os⟩ (topStub pq))=fun os=>some (⟨H_a w.params,#[],{},187,os⟩,⟨denote treeTable cE,cE,⟨0,0,0,0⟩,[topFrame fp]⟩):=by
 rw[PySem.W.Fast.te15667345088766844465,gx,Cz]
 kernel_rfl!
theorem L4(w:World):(fun os=>segRun treeTable pq w 11 (some (.ref 6)) 1 1 ⟨H_a w.params,#[],{},187,os⟩ (blockOf (behindTheImports pq) E cE ⟨0,0,0,0⟩ [topFrame fp]))=fun os=>some (.next,(SS T_b 15 187 w os).abs,cE,⟨0,0,0,0⟩):=by
 rw[PySem.W.Fast.te14374325043358763698,gx]
 kernel_rfl!
theorem h_0(w:World):(fun os=>segRunT treeTable pq w 11 (some (.ref 6)) 1 10 (SS T_b 15 187 w os) (piecesOf (seg 0 1) E cE ⟨0,0,0,0⟩ [topFrame fp]))=fun os=>some (.next,SS XA 15 189 w os,cE,⟨1,0,1,8⟩):=by
 rw[jV,gx]
 kernel_rfl!
noncomputable def Ia(w:World):Prop:=(fun os=>segRunT treeTable pq w 11 (some (.ref 6)) 1 999 (SS XA 15 189 w os) (piecesOf (seg 1 1) E cE ⟨1,0,1,8⟩ [topFrame fp]))=fun os=>some (.next,SS XB 26 249 w os,cE,⟨2,0,2,6⟩)
theorem XC(w:World):Ia ((w.withFollow "special-get-raises" false).withFollow "set-order" false):=by
 unfold Ia;rw[jV,gx]
 kernel_rfl!
theorem XD(w:World):Ia ((w.withFollow "special-get-raises" true).withFollow "set-order" false):=by
 unfold Ia;rw[jV,gx]
 kernel_rfl!
theorem XE(w:World):Ia ((w.withFollow "special-get-raises" false).withFollow "set-order" true):=by
 unfold Ia;rw[jV,gx]
 kernel_rfl!
theorem XF(w:World):Ia ((w.withFollow "special-get-raises" true).withFollow "set-order" true):=by
 unfold Ia;rw[jV,gx]
 kernel_rfl!
theorem h_1(w:World):(fun os=>segRunT treeTable pq w 11 (some (.ref 6)) 1 999 (SS XA 15 189 w os) (piecesOf (seg 1 1) E cE ⟨1,0,1,8⟩ [topFrame fp]))=fun os=>some (.next,SS XB 26 249 w os,cE,⟨2,0,2,6⟩):=byRow2 "set-order" (P:=Ia) (byRow2 "special-get-raises" (P:=fun w=>Ia (w.withFollow "set-order" false)) XC XD) (byRow2 "special-get-raises" (P:=fun w=>Ia (w.withFollow "set-order" true)) XE XF) w
noncomputable def sr:Stmt->List (Option Expr):=ym [] (fun ø ø ø=>[]) (fun ø=>[]) (fun ø v ø=>H8 [] (fun k ø ø=>k) (fun ø ø ø=>[]) (fun ø ø ø=>[]) v) (fun ø ø ø=>[]) (fun ø ø ø=>[])
noncomputable def ss:Stmt->List Expr:=ym [] (fun ø ø ø=>[]) (fun ø=>[]) (fun ø v ø=>H8 [] (fun ø v ø=>v) (fun ø ø ø=>[]) (fun ø ø ø=>[]) v) (fun ø ø ø=>[]) (fun ø ø ø=>[])
noncomputable def L5:Stmt->List Expr:=ym [] (fun ø ø ø=>[]) (fun ø=>[]) (fun t ø ø=>t) (fun ø ø ø=>[]) (fun ø ø ø=>[])
noncomputable def De:Stmt->Pos:=ym default (fun ø ø ø=>default) (fun ø=>default) (fun ø ø p=>p) (fun ø ø ø=>default) (fun ø ø ø=>default)
noncomputable def m5:Stmt->Pos:=ym default (fun ø ø ø=>default) (fun ø=>default) (fun ø v ø=>H8 default (fun ø ø p=>p) (fun ø ø ø=>default) (fun ø ø ø=>default) v) (fun ø ø ø=>default) (fun ø ø ø=>default)
noncomputable def aR(l:List DictEntry)(n:Nat):Obj:={cls:=.type "dict",data:=.dict l.toArray n}
noncomputable def FY(a b:Int):Bool:= @Int.rec (fun ø=>Bool) (fun m=> @Int.rec (fun ø=>Bool) (fun n=>Nat.beq m n) (fun ø=>false) b) (fun ø=>a==b) a
theorem Pl{a b:Int}(h:FY a b=false):a≠b:=by
 intro e;subst e
 cases a with
 |ofNat m=>simp[FY,Nat.beq_refl]at h
 |negSucc m=>simp[FY]at h
noncomputable def ml(h:Int)(l:List DictEntry):Bool:= @List.rec DictEntry (fun ø=>Bool) true (fun e ø ih=> @Bool.rec (fun ø=>Bool) ih false (FY e.hash h)) l
theorem xb{h:Int}:∀{l:List DictEntry},ml h l=true->∀e∈l,e.hash≠h
 |[],_,e,he=>by cases he
 |a::l,q,e,he=>by
  have q': @Bool.rec (fun ø=>Bool) (ml h l) false (FY a.hash h)=true:=q
  cases hb:FY a.hash h with
  |true=>rw[hb]at q';cases q'
  |false=>
   rw[hb]at q';rcases bI.mp he with rfl|he
   ·exact Pl hb
   ·exact xb (l:=l) q' e he
noncomputable def RF{α:Type}(x:Sem α)(o:Obj):Sem α:= @Sem.casesOn α (fun ø=>Sem α) x (fun ø=>x) (fun ø=>x) (fun ø=>x) (fun ø=>x) (fun ø ø=>x) (fun ø ø=>x) (fun ø ø k=>k o) (fun ø ø ø ø=>x) (fun ø ø=>x) (fun ø ø=>x) (fun ø ø=>x) (fun ø ø=>x) (fun ø=>x) (fun ø=>x) (fun ø ø ø=>x) (fun ø ø ø=>x) (fun ø ø ø ø ø=>x) (fun ø ø=>x) (fun ø ø=>x) (fun ø ø=>x) (fun ø ø ø ø=>x) (fun ø ø ø ø=>x) (fun ø=>x) (fun ø ø=>x) (fun ø=>x) (fun ø ø ø ø ø=>x)
noncomputable def FZ(d:Addr)(key:Value)(h:Int):Sem (Option Nat):=match key with
 | .int k t=>.load d (keyPart (.int k t)) fun o=>match o.data with
   | .dict es n=> @Bool.rec (fun ø=>Sem (Option Nat)) (RF (dictFind d (.int k t) h) o) (.pure none) (ml h es.toList)
   |_=>RF (dictFind d (.int k t) h) o
 |key=>dictFind d key h
theorem Df{es:Array DictEntry}{h:Int}(q:ml h es.toList=true):placesWithHash es.size (fun i=>es[i]?.map (·.hash)) h=[]:=by
 unfold placesWithHash;rw[xO];intro i hi;have hi:=ec.mp hi;have:=xb q es[i] (by simp);simp[hi,this]
set_option tactic.hygienic true in
theorem AJ: @dictFind=FZ:=by
 funext d key h
 cases key<;>try rfl
 rename_i k t;show dictFind d (.int k t) h= .load d (keyPart (.int k t)) _;have e1:dictFind d (.int k t) h= .load d (keyPart (.int k t)) (fun o=>RF (dictFind d (.int k t) h) o):=rfl;rw[e1]
 congr 1
 funext o
 obtain⟨c,dd,data,sl⟩:=o
 cases data with
 |dict es n=>
  show RF (dictFind d (.int k t) h) _= @Bool.rec (fun ø=>Sem (Option Nat)) (RF (dictFind d (.int k t) h) _) (.pure none) (ml h es.toList)
  cases q:ml h es.toList with
  |false=>rfl
  |true=>
   show RF (dictFind d (.int k t) h) _= .pure none;have hp:=Df q;show(if(Value.int k t::List.filterMap (fun i=>Option.map (fun x=>x.key) es[i]?) (placesWithHash es.size (fun i=>Option.map (fun x=>x.hash) es[i]?) h)).all carriedByValue=true then dictWalkPlain d (Value.int k t) h es (placesWithHash es.size (fun i=>Option.map (fun x=>x.hash) es[i]?) h)else _)=_;rw[hp];rfl
 |_=>rfl
section
section
variable{tb:String->Option Builtin}{p:Program}{w:World}{n₀:Nat}{ann:Option Value}
noncomputable def mm(tb:String->Option Builtin)(p:Program)(w:World)(n₀:Nat)(ann:Option Value)(b:Nat)(s:Shared)(t:Thread)(s':Shared)(t':Thread):Prop:=
 ∀N r,topRun tb p w n₀ ann N s' t'=some r->topRun tb p w n₀ ann (b+N) s t=some r
theorem mm.refl(s t):mm tb p w n₀ ann 0 s t s t:=fun N r h=>by rw[gg];exact h
theorem mm.trans{b b' s t s' t' hU WZ}(h:mm tb p w n₀ ann b s t s' t')(h':mm tb p w n₀ ann b' s' t' hU WZ):mm tb p w n₀ ann (b+b') s t hU WZ:=fun N r q=>by
 rw[Nat.add_assoc];exact h _ _ (h' _ _ q)
theorem mm.mono{b b' s t s' t'}(h:mm tb p w n₀ ann b s t s' t')(hb:b<=b'):mm tb p w n₀ ann b' s t s' t':=fun N r q=>by
 have:=topRun_mono (b'-b) _ _ _ _ (h N r q);rwa[show b+N+(b'-b)=b'+N by omega]at this
theorem mm.step{s t s' t'}(ht:through t=false)(hk:stepOk n₀ ann t=true)(hs:step (denote tb) p w s t= .go s' t'):mm tb p w n₀ ann 1 s t s' t':=fun N r q=>by
 rw[qZ];show topRun tb p w n₀ ann (N+1) s t=some r;unfold topRun;rw[ht,hk,hs];exact q
noncomputable def Ev(tb:String->Option Builtin)(p:Program)(w:World)(n₀:Nat)(ann:Option Value)(c:Code){α:Type}(b:Nat)(x:Sem α)(s:Shared)(pos:Pos)(a:α)(s':Shared)(pos':Pos):Prop:=
 ∀(K:α->Sem Fin) (H:Value->Sem Fin) (gd:Bool->Bool) (lv:List Value->List Value) (f:Frame) (B:List Frame),mm tb p w n₀ ann b s ⟨x.wrap K H gd lv,c,pos,f::B⟩ s' ⟨K a,c,pos',f::B⟩
variable{c:Code}{α β:Type}{s s':Shared}{pos pos':Pos}{a:α}{b:Nat}
theorem Ev.mono{x:Sem α}{b'}(h:Ev tb p w n₀ ann c b x s pos a s' pos')(hb:b<=b'):Ev tb p w n₀ ann c b' x s pos a s' pos':=fun K H gd lv f B=>(h K H gd lv f B).mono hb
theorem Ev.pure:Ev tb p w n₀ ann c 0 (.pure a) s pos a s pos:=fun K H gd lv f B=>mm.refl _ _
theorem Ev.bind{m:Sem α}{f:α->Sem β}{y:β}{b' hU ik}(h:Ev tb p w n₀ ann c b m s pos a s' pos')(h':Ev tb p w n₀ ann c b' (f a) s' pos' y hU ik):Ev tb p w n₀ ann c (b+b') (m>>= f) s pos y hU ik:=fun K H gd lv fr B=>by
 show mm tb p w n₀ ann _ s ⟨(m.bind f).wrap K H gd lv,c,pos,fr::B⟩ _ _;rw[Sem.bind_eq_wrap,nD];exact(h _ _ _ _ fr B).trans (h' K H gd lv fr B)
theorem Ev.NW{m:Sem α}{f:α->Sem β}{y:β}{b' hU ik}(h:Ev tb p w n₀ ann c 0 m s pos a s' pos')(h':Ev tb p w n₀ ann c b' (f a) s' pos' y hU ik):Ev tb p w n₀ ann c b' (m>>= f) s pos y hU ik:=by
 have:=h.bind h';rwa[gg]at this
theorem Ev.keep{x:Sem α}{vs}(h:Ev tb p w n₀ ann c b x s pos a s' pos'):Ev tb p w n₀ ann c b (x.keep vs) s pos a s' pos':=fun K H gd lv f B=>by
 rw[Sem.keep_eq_wrap,nD];exact h _ _ _ _ f B
theorem Ev.holding{x:Sem α}{vs}(h:Ev tb p w n₀ ann c b x s pos a s' pos'):Ev tb p w n₀ ann c b (holding vs x) s pos a s' pos':=by
 unfold PySem.holding;split
 ·exact h
 ·exact h.keep
theorem Ev.onRaise{x:Sem α}{g}(h:Ev tb p w n₀ ann c b x s pos a s' pos'):Ev tb p w n₀ ann c b (x.onRaise g) s pos a s' pos':=fun K H gd lv f B=>by
 rw[Sem.onRaise_eq_wrap,nD];exact h _ _ _ _ f B
theorem Ev.tryCatch{x:Sem α}{g}(h:Ev tb p w n₀ ann c b x s pos a s' pos'):Ev tb p w n₀ ann c b (x.tryCatch g) s pos a s' pos':=fun K H gd lv f B=>by
 rw[Sem.tryCatch_eq_wrap,nD];exact h _ _ _ _ f B
theorem Ev.rule{t}{k:Unit->Sem α}(h:Ev tb p w n₀ ann c b (k ()) s pos a s' pos'):Ev tb p w n₀ ann c (1+b) (.rule t k) s pos a s' pos':=fun K H gd lv f B=>
 mm.trans (mm.step rfl rfl (by obtain⟨h,g,d,tk,os⟩:=s;rfl)) (h K H gd lv f B)
theorem Ev.at{q}{k:Unit->Sem α}(h:Ev tb p w n₀ ann c b (k ()) s q a s' pos'):Ev tb p w n₀ ann c (1+b) (.at q k) s pos a s' pos':=fun K H gd lv f B=>
 mm.trans (mm.step rfl rfl (by obtain⟨h,g,d,tk,os⟩:=s;rfl)) (h K H gd lv f B)
theorem Ev.fresh{k:Tok->Sem α}(h:Ev tb p w n₀ ann c b (k s.toks) {s with toks:=s.toks+1} pos a s' pos'):Ev tb p w n₀ ann c (1+b) (.fresh k) s pos a s' pos':=fun K H gd lv f B=>
 mm.trans (mm.step rfl rfl (by obtain⟨h,g,d,tk,os⟩:=s;rfl)) (h K H gd lv f B)
theorem Ev.ask{k:Setting->Sem α}(h:Ev tb p w n₀ ann c b (k ⟨p,w.params⟩) s pos a s' pos'):Ev tb p w n₀ ann c (1+b) (.ask k) s pos a s' pos':=fun K H gd lv f B=>
 mm.trans (mm.step rfl rfl (by obtain⟨h,g,d,tk,os⟩:=s;rfl)) (h K H gd lv f B)
theorem Ev.alloc{o}{k:Addr->Sem α}(h:Ev tb p w n₀ ann c b (k s.heap.objs.size) {s with heap:=s.heap.push o} pos a s' pos'):Ev tb p w n₀ ann c (1+b) (.alloc o k) s pos a s' pos':=fun K H gd lv f B=>
 mm.trans (mm.step rfl rfl (by obtain⟨h,g,d,tk,os⟩:=s;rfl)) (h K H gd lv f B)
theorem Ev.load{d:Addr}{q o}{k:Obj->Sem α}(ho:s.heap.get? d=some o)(h:Ev tb p w n₀ ann c b (k o) s pos a s' pos'):Ev tb p w n₀ ann c (1+b) (.load d q k) s pos a s' pos':=fun K H gd lv f B=>
 mm.trans (mm.step rfl rfl (by obtain⟨hp,gs,dd,tk,os⟩:=s;show(match hp.get? d with|some o=>_|none=>_)=_;rw[show hp.get? d=some o from ho])) (h K H gd lv f B)
theorem Ev.update{d:Addr}{q o g}{k:Unit->Sem α}(ho:s.heap.get? d=some o)(hn:n₀<=d)(h:Ev tb p w n₀ ann c b (k ()) {s with heap:=s.heap.update d g} pos a s' pos'):Ev tb p w n₀ ann c (1+b) (.update d q g k) s pos a s' pos':=fun K H gd lv f B=>
 mm.trans (mm.step rfl (by
    show(true&&(Nat.ble n₀ d||d==mainNs||d==cStatics||ann==some (.ref d)))=true;rw[Nat.ble_eq_true_of_le hn];rfl)
  (by obtain⟨hp,gs,dd,tk,os⟩:=s;show(if(hp.get? d).isSome then _ else _)=_;rw[show hp.get? d=some o from ho];rfl)) (h K H gd lv f B)
theorem Ev.call{id:String}{args:Args}{hd g l}{k:Result->Sem α}{r:Result}{y:Sem Fin}(h1:denote tb (.call (.builtin id) args)= .pure (.again (.builtin id args)))(h2:denote tb (.builtin id args)=y)(hid:id.startsWith "lifetime."=false)
  {b' hU ik} (hy:∀f B,mm tb p w n₀ ann b s ⟨y,.builtin id args,pos,f::B⟩ s' ⟨.pure (match r with| .ok f=>.done f| .error _=>.done .next),.builtin id args,pos',f::B⟩) (hr:∃v,r= .ok v)
  (h:Ev tb p w n₀ ann c b' (k r) s' pos a hU ik):Ev tb p w n₀ ann c (1+(1+(b+(1+b')))) (.call (.call (.builtin id) args) hd g l k) s pos a hU ik:=fun K H gd lv f B=>by
 obtain⟨v,rfl⟩:=hr;obtain⟨hp,gs,dd,tk,os⟩:=s;obtain⟨W4,gs',dd',V0,os'⟩:=s';refine mm.trans (t':=⟨denote tb (.call (.builtin id) args),.call (.builtin id) args,pos,.ret (fun x=>(k x).wrap K H gd lv) hd (gd g) (lv l) c pos _::f::B⟩) (mm.step rfl rfl rfl) ?_;rw[h1];refine mm.trans (mm.step rfl (by
  show((!(id.startsWith "lifetime.")||_)&&_&&_&&_)=true;rw[hid];rfl) step_again) ?_
 rw[h2];refine mm.trans (hy _ _) (mm.trans (mm.step rfl rfl rfl) (h K H gd lv f B))
end
theorem Ib(k:Int)(t:Tok):denote treeTable (.call (.builtin "int.__hash__") ⟨[.int k t],[]⟩)= .pure (.again (.builtin "int.__hash__" ⟨[.int k t],[]⟩)):=by
 rw[Cz,gx]
 kernel_rfl!
theorem Ic(k:Int)(t:Tok):denote treeTable (.builtin "int.__hash__" ⟨[.int k t],[]⟩)= .fresh fun tk=>.pure (.done (.ret (.int (rawHash k) tk))):=by
 rw[Cz,gx]
 kernel_rfl!
section
variable{p:Program}{w:World}{n₀:Nat}{ann:Option Value}{c:Code}{s:Shared}{pos:Pos}
theorem AK(k:Int)(t:Tok):Ev treeTable p w n₀ ann c 4 (PySem.call (.builtin "int.__hash__") [.int k t]) s pos (.int (rawHash k) s.toks) {s with toks:=s.toks+1} pos:=by
 refine Ev.mono (b:=1+(1+(1+(1+0)))+0) ?_ (bL _);unfold PySem.call runValue run;refine Ev.bind (a:=.ret (.int (rawHash k) s.toks)) (s':={s with toks:=s.toks+1}) (pos':=pos) ?_ Ev.pure;refine Ev.call (pos':=pos) (r:=.ok (.ret (.int (rawHash k) s.toks))) (Ib k t) (Ic k t) (by decide+kernel) (b:=1) (fun f B=>?_) ⟨_,rfl⟩ Ev.pure;exact mm.step rfl rfl (by obtain⟨h,g,d,tk,os⟩:=s;rfl)
theorem L6(k:Int)(t:Tok):Ev treeTable p w n₀ ann c 5 (pyHash (.int k t)) s pos (hashInt k) {s with toks:=s.toks+1} pos:=by
 have hr:=rawHash_range k;show Ev treeTable p w n₀ ann c 5 (pyHashByItsType (.int k t)) s pos (hashInt k) {s with toks:=s.toks+1} pos;unfold pyHashByItsType;have hv:cRoomFor "hash" [Value.int k t]=(Pure.pure ():Sem Unit):=rfl;have hs:specialOf (.int k t) "__hash__"=(Pure.pure (some (.builtin "int.__hash__")):Sem _):=slot_int_hash.lookup;rw[hv,hs];refine Ev.bind (b:=0) (b':=5) Ev.pure (Ev.bind (b:=0) (b':=5) Ev.pure ?_);dsimp only;rw[au (by rw[beq_builtin_none];exact nE)];refine Ev.bind (b:=0) (b':=5) Ev.pure ?_;rw[au (by exact nE)];refine Ev.bind (b:=5) (b':=0) (a:=some (.int (rawHash k) s.toks)) (s':={s with toks:=s.toks+1}) (pos':=pos) ?_ ?_
 ·simp only[callSpecialIfBoundUnlessNone?,bindSpecialIfBound?,hs]
  refine Ev.holding (Ev.bind (b:=1) (b':=4) (a:=some (.builtin "int.__hash__",[.int k t])) (s':=s) (pos':=pos) ?_ ?_)
  ·show Ev treeTable p w n₀ ann c 1 (.ask fun st=>_) s pos _ s pos
   refine Ev.ask (b:=0) ?_;simp only[slot_int_hash.bind];refine Ev.bind (b:=0) (b':=0) Ev.pure ?_;dsimp only;split
   ·exact Ev.pure
   ·exact Ev.tryCatch (x:=(Sem.pure (some (Value.builtin "int.__hash__",[Value.int k t])):Sem (Option (Value×List Value)))) Ev.pure
  ·show Ev treeTable p w n₀ ann c 4 (if(Value.builtin "int.__hash__"==Value.none)=true then _ else _) s pos _ _ pos
   rw[au (by simp only[builtin_beq_none];exact nE)];exact Ev.bind (b:=4) (b':=0) (AK k t) Ev.pure
 ·show Ev treeTable p w n₀ ann c 0 (if(decide (-(2:Int)^63<=rawHash k)&&decide (rawHash k<2^63))=true then _ else _) _ pos _ _ pos
  rw[aw (by rw[bo hr.1,bo hr.2];rfl)];exact Ev.pure
end
end
section
noncomputable def hp(h:Heap)(l:List Obj):Heap:=⟨h.objs++l.toArray,h.life⟩
theorem Pm(h:Heap):hp h []=h:=by simp[hp]
theorem EL(h:Heap)(l:List Obj)(o:Obj):(hp h l).push o=hp h (l++[o]):=by
 show Heap.mk ((h.objs++l.toArray).push o) h.life=Heap.mk (h.objs++(l++[o]).toArray) h.life
 congr 1
 apply Array.toList_inj.mp;simp
theorem EM(h:Heap)(l:List Obj):(hp h l).objs.size=h.objs.size+l.length:=by simp[hp]
theorem pB(h:Heap)(l₁ l₂:List Obj)(es n):(hp h (l₁++aR es n::l₂)).get? (h.objs.size+l₁.length)=some (aR es n):=by
 unfold Heap.get?;have:(hp h (l₁++aR es n::l₂)).objs[h.objs.size+l₁.length]?=some (aR es n):=by
  show(h.objs++(l₁++aR es n::l₂).toArray)[h.objs.size+l₁.length]?=_;rw[Array.getElem?_append_right (by omega)];simp
 rw[this];rfl
theorem Ga(h:Heap)(l₁ l₂:List Obj)(o)(f:Obj->Obj):(hp h (l₁++o::l₂)).update (h.objs.size+l₁.length) f=hp h (l₁++f o::l₂):=by
 show Heap.mk ((h.objs++(l₁++o::l₂).toArray).modify _ f) h.life=Heap.mk _ h.life
 congr 1
 apply Array.ext
 ·simp
 ·intro i h1 h2
  rw[Array.getElem_modify];by_cases hi:i<h.objs.size
  ·rw[au (by omega),Array.getElem_append_left hi,Array.getElem_append_left hi]
  ·rw[Array.getElem_append_right (by omega),Array.getElem_append_right (by omega)]
   simp only[List.getElem_toArray];by_cases hj:h.objs.size+l₁.length=i
   ·subst hj
    simp
   ·rw[au hj]
    by_cases hk:i-h.objs.size<l₁.length
    ·rw[List.getElem_append_left hk,List.getElem_append_left hk]
    ·rw[List.getElem_append_right (by omega),List.getElem_append_right (by omega)]
     have:i-h.objs.size-l₁.length≠0:=by omega
     obtain⟨j,hj⟩:=Nat.exists_eq_succ_of_ne_zero this;simp[hj]
noncomputable def AL(h:Int)(es:List DictEntry):Prop:=∀e∈es,e.hash≠h
theorem p5{h:Int}:∀{l:List DictEntry},AL h l->ml h l=true
 |[],_=>rfl
 |a::l,q=>by
  show @Bool.rec (fun ø=>Bool) (ml h l) false (FY a.hash h)=true;have:FY a.hash h=false:=by
   cases hb:FY a.hash h with
   |false=>rfl
   |true=>
    exfalso;refine q a (by simp) ?_;revert hb;generalize a.hash=x;intro hb;cases x<;>cases h
    ·simp only[FY]at hb;rw[Nat.eq_of_beq_eq_true hb]
    ·simp[FY]at hb
    ·simp[FY]at hb
    ·simpa[FY]using hb
  rw[this];exact p5 fun e he=>q e (ge _ he)
section
variable{p:Program}{w:World}{n₀:Nat}{ann:Option Value}{c:Code}{h:Heap}{g:Array GenState}{dr:Drawn}{tk:Nat}{os:OsState}{pos:Pos}
theorem EN{l₁ l₂:List Obj}{es n}{k:Int}{t:Tok}{x:Int}(hf:AL x es):
  Ev treeTable p w n₀ ann c 1 (dictFind (h.objs.size+l₁.length) (.int k t) x) ⟨hp h (l₁++aR es n::l₂),g,dr,tk,os⟩ pos none ⟨hp h (l₁++aR es n::l₂),g,dr,tk,os⟩ pos:=by
 rw[AJ];refine Ev.load (b:=0) (pB h l₁ l₂ es n) ?_;show Ev treeTable p w n₀ ann c 0 (@Bool.rec (fun ø=>Sem (Option Nat)) _ (.pure none) (ml x es.toArray.toList)) _ pos none _ pos;rw[p5 hf];exact Ev.pure
theorem uw{l₁ l₂:List Obj}{es n}{e:DictEntry}{part}(hn:n₀<=h.objs.size+l₁.length)(hl:es.length<1000):
  Ev treeTable p w n₀ ann c 3 (updateDictKeys (h.objs.size+l₁.length) (·.push e) part) ⟨hp h (l₁++aR es n::l₂),g,dr,tk,os⟩ pos () ⟨hp h (l₁++aR (es++[e]) (n+1)::l₂),g,dr,tk,os⟩ pos:=by
 unfold updateDictKeys;have hm:(aR es n).mapDictKeys (·.push e)=aR (es++[e]) (n+1):=by
  show Obj.mk _ _ (.dict (es.toArray.push e) (n+1)) _=Obj.mk _ _ (.dict (es++[e]).toArray (n+1)) _;rw[List.push_toArray]
 refine Ev.load (b:=2) (pB h l₁ l₂ es n) ?_;refine Ev.update (b:=1) (pB h l₁ l₂ es n) hn ?_;rw[Ga,hm];refine Ev.load (b:=0) (pB h l₁ l₂ (es++[e]) (n+1)) ?_;refine Ev.bind (b:=0) (b':=0) Ev.pure ?_;have:(aR (es++[e]) (n+1)).data.pastItsLine=none:=by
  show(if(es++[e]).toArray.size>sizeLine+1 then _ else _)=_;rw[au (by rw[jQ];simp;omega)]
 rw[this];exact Ev.pure
theorem Pn{l₁ l₂:List Obj}{es n}{k:Int}{t:Tok}{v:Value}{x:Int}(hf:AL x es)(hn:n₀<=h.objs.size+l₁.length)(hl:es.length<1000):
  Ev treeTable p w n₀ ann c 4 (dictPut (h.objs.size+l₁.length) x (.int k t) v) ⟨hp h (l₁++aR es n::l₂),g,dr,tk,os⟩ pos () ⟨hp h (l₁++aR (es++[⟨x,.int k t,v⟩]) (n+1)::l₂),g,dr,tk,os⟩ pos:=by
 unfold dictPut;exact Ev.bind (b:=1) (b':=3) (EN hf) (uw hn hl)
theorem Id{l₁ l₂:List Obj}{es n}{k:Int}{t:Tok}{v:Value}(hf:AL (hashInt k) es)(hn:n₀<=h.objs.size+l₁.length)(hl:es.length<1000):
  Ev treeTable p w n₀ ann c 10 (dictSet (h.objs.size+l₁.length) (.int k t) v) ⟨hp h (l₁++aR es n::l₂),g,dr,tk,os⟩ pos () ⟨hp h (l₁++aR (es++[⟨hashInt k,.int k t,v⟩]) (n+1)::l₂),g,dr,tk+1,os⟩ pos:=by
 unfold dictSet;refine Ev.holding (Ev.bind (b:=5) (b':=5) (L6 k t) ?_);unfold dictSetHashed;refine Ev.holding (Ev.bind (b:=1) (b':=4) (EN hf) ?_);exact Ev.rule (b:=3) (uw hn hl)
noncomputable def ba:Nat->List (Int×Str)->List DictEntry
 |_,[]=>[]
 |T,(k,x)::r=>⟨hashInt k,.int k T,.str x (T+1)⟩::ba (T+3) r
theorem p6(T:Nat):ba T []=[]:=rfl
theorem p7(T:Nat)(k:Int)(x:Str)(r:List (Int×Str)):ba T ((k,x)::r)=⟨hashInt k,.int k T,.str x (T+1)⟩::ba (T+3) r:=rfl
noncomputable def gL:Nat->List (Int×Str)->List DictEntry
 |_,[]=>[]
 |T,(k,x)::r=>⟨hashInt k,.int k T,.str x (T+1)⟩::gL (T+2) r
theorem p8(T:Nat):gL T []=[]:=rfl
theorem p9(T:Nat)(k:Int)(x:Str)(r:List (Int×Str)):gL T ((k,x)::r)=⟨hashInt k,.int k T,.str x (T+1)⟩::gL (T+2) r:=rfl
noncomputable def wq(k:Int):Sem Value:=mkInt k
noncomputable def wu(q:Pos)(x:Str):Sem Value:=do let v <-mkText x;standAt q;pure v
noncomputable def dw(q:Pos)(l:List (Int×Str)):List (Sem Value×Sem Value):=l.map fun(k,x)=>(wq k,wu q x)
theorem Ie{s:Shared}(k:Int):Ev treeTable p w n₀ ann c 1 (wq k) s pos (.int k s.toks) {s with toks:=s.toks+1} pos:=Ev.fresh (b:=0) Ev.pure
theorem Ig{s:Shared}(q:Pos)(x:Str):Ev treeTable p w n₀ ann c 2 (wu q x) s pos (.str x s.toks) {s with toks:=s.toks+1} q:=Ev.fresh (b:=1) (Ev.at (b:=0) Ev.pure)
noncomputable def Apart(es:List DictEntry):List (Int×Str)->Prop
 |[]=>True
 |(k,_)::r=>AL (hashInt k) es/\(∀y∈r,hashInt y.1≠hashInt k)/\Apart es r
theorem Apart.push{es:List DictEntry}{k x v}:∀{l:List (Int×Str)},Apart es l->(∀y∈l,hashInt y.1≠hashInt k)->Apart (es++[⟨hashInt k,x,v⟩]) l
 |[],_,_=>trivial
 |(k',_)::r,h,hk=>⟨fun e he=>by
  rcases bZ.mp he with he|he
  ·exact h.1 e he
  ·obtain rfl:=cq.mp he
   exact fun q=>hk (k',_) (gJ) q.symm,h.2.1,Apart.push h.2.2 fun y hy=>hk y (by simp[hy])⟩
theorem AM{l₁ l₂:List Obj}(q:Pos)(hn:n₀<=h.objs.size+l₁.length):∀(l:List (Int×Str)) (es:List DictEntry) (n tk:Nat) (pos:Pos),Apart es l->es.length+l.length<1000->
  Ev treeTable p w n₀ ann c (13*l.length) (forIn (dw q l) PUnit.unit fun(x:Sem Value×Sem Value) (_:PUnit)=>(do
    let kv <-x.1
    let vv <-holding [kv] x.2
    holding [kv,vv] (dictSet (h.objs.size+l₁.length) kv vv)
    pure (ForInStep.yield PUnit.unit):Sem (ForInStep PUnit))) ⟨hp h (l₁++aR es n::l₂),g,dr,tk,os⟩ pos PUnit.unit
   ⟨hp h (l₁++aR (es++ba tk l) (n+l.length)::l₂),g,dr,tk+3*l.length,os⟩ (if l=[]then pos else q)
 |[],es,n,tk,pos,_,_=>by
  simp only[dw,po,nC,p6,p7,ea,gy,pp,lO,jP];exact Ev.pure
 |(k,x)::r,es,n,tk,pos,ha,hl=>by
  simp only[dw,bB,oR];simp only[cr]at hl;refine Ev.mono (b:=(1+(2+(10+0)))+13*r.length) ?_ (by simp only[cr];omega);refine Ev.bind (a:=ForInStep.yield PUnit.unit) (s':=⟨hp h (l₁++aR (es++[⟨hashInt k,.int k tk,.str x (tk+1)⟩]) (n+1)::l₂),g,dr,tk+3,os⟩) (pos':=q) ?_ ?_
  ·refine Ev.bind (Ie k) (Ev.bind (Ev.holding (Ig q x)) (Ev.bind (Ev.holding (Id ha.1 hn (by omega))) Ev.pure))
  ·have:=AM (l₂:=l₂) q hn r (es++[⟨hashInt k,.int k tk,.str x (tk+1)⟩]) (n+1) (tk+3) q (ha.2.2.push ha.2.1) (by simp only[aY,List.length_singleton];omega)
   simp only[List.append_assoc,tG,ite_self]at this;simp only[p6,p7,cr,gZ,reduceCtorEq];rw[show n+(r.length+1)=n+1+r.length by omega,show tk+3*(r.length+1)=tk+3+3*r.length by omega];exact this
theorem EO{l₁:List Obj}(q:Pos)(l:List (Int×Str))(hn:n₀<=h.objs.size+l₁.length)(ha:Apart [] l)(hl:l.length=17):
  Ev treeTable p w n₀ ann c 223 (subDict (dw q l)) ⟨hp h l₁,g,dr,tk,os⟩ pos (h.objs.size+l₁.length) ⟨hp h (l₁++[aR (ba tk l) 17]),g,dr,tk+51,os⟩ q:=by
 unfold subDict;refine Ev.alloc (b:=222) ?_;rw[EL,EM];refine Ev.bind (b:=0) (b':=222) Ev.pure ?_;have cZ:l≠[]:=fun e=>by rw[e]at hl;cases hl
 have key:=AM (p:=p) (w:=w) (ann:=ann) (c:=c) (g:=g) (dr:=dr) (os:=os) (l₂:=[]) q hn l [] 0 tk pos ha (by simp[hl]);rw[au cZ,hl]at key;refine Ev.bind (b:=222) (b':=0) (a:=()) (Ev.holding ?_) Ev.pure;rw[au (by simp[dw,hl])];exact Ev.mono (b:=1+(0+(13*17+0))) (Ev.rule (Ev.bind Ev.pure (Ev.bind key Ev.pure))) (by omega)
noncomputable def RG:Nat->List (Int×Str)->List (Value×Value)
 |_,[]=>[]
 |T,(k,x)::r=>(.int k T,.str x (T+1))::RG (T+2) r
theorem yn(T:Nat):RG T []=[]:=rfl
theorem yo(T:Nat)(k:Int)(x:Str)(r:List (Int×Str)):RG T ((k,x)::r)=(.int k T,.str x (T+1))::RG (T+2) r:=rfl
theorem AN(q:Pos):∀(l:List (Int×Str)) (s:Shared) (pos:Pos),Ev treeTable p w n₀ ann c (3*l.length) (evalPairs (dw q l)) s pos (RG s.toks l) {s with toks:=s.toks+2*l.length} (if l=[]then pos else q)
 |[],s,pos=>by
  simp only[dw,po,evalPairs,yn,yo,gy,pp,lO,jP];exact Ev.pure
 |(k,x)::r,s,pos=>by
  simp only[dw,bB,evalPairs];refine Ev.mono (b:=1+(2+(3*r.length+0))) ?_ (by simp only[cr];omega);have:=AN q r {s with toks:=s.toks+2} q;simp only[ite_self]at this;simp only[gZ,reduceCtorEq,yn,yo,cr];rw[show s.toks+2*(r.length+1)=s.toks+2+2*r.length by omega];exact Ev.bind (Ie k) (Ev.bind (Ev.holding (Ig q x)) (Ev.bind (Ev.holding this) Ev.pure))
theorem AO{l₁ l₂:List Obj}(hn:n₀<=h.objs.size+l₁.length):∀(l:List (Int×Str)) (T:Nat) (es:List DictEntry) (n tk:Nat) (pos:Pos),Apart es l->es.length+l.length<1000->
  Ev treeTable p w n₀ ann c (10*l.length) (forIn (RG T l) PUnit.unit fun(x:Value×Value) (_:PUnit)=>(do
    dictSet (h.objs.size+l₁.length) x.1 x.2
    pure (ForInStep.yield PUnit.unit):Sem (ForInStep PUnit))) ⟨hp h (l₁++aR es n::l₂),g,dr,tk,os⟩ pos PUnit.unit
   ⟨hp h (l₁++aR (es++gL T l) (n+l.length)::l₂),g,dr,tk+l.length,os⟩ pos
 |[],T,es,n,tk,pos,_,_=>by
  simp only[yn,yo,nC,p8,p9,ea,gy,pp,lO];exact Ev.pure
 |(k,x)::r,T,es,n,tk,pos,ha,hl=>by
  simp only[yn,yo,oR];simp only[cr]at hl;refine Ev.mono (b:=(10+0)+10*r.length) ?_ (by simp only[cr];omega);refine Ev.bind (a:=ForInStep.yield PUnit.unit) (s':=⟨hp h (l₁++aR (es++[⟨hashInt k,.int k T,.str x (T+1)⟩]) (n+1)::l₂),g,dr,tk+1,os⟩) (pos':=pos) ?_ ?_
  ·exact Ev.bind (Id ha.1 hn (by omega)) Ev.pure
  ·have:=AO (l₂:=l₂) hn r (T+2) (es++[⟨hashInt k,.int k T,.str x (T+1)⟩]) (n+1) (tk+1) pos (ha.2.2.push ha.2.1) (by simp only[aY,List.length_singleton];omega)
   simp only[List.append_assoc,tG]at this;simp only[p8,p9,cr];rw[show n+(r.length+1)=n+1+r.length by omega,show tk+(r.length+1)=tk+1+r.length by omega];exact this
theorem L7{l₁:List Obj}(q:Pos)(l:List (Int×Str))(hn:n₀<=h.objs.size+l₁.length)(ha:Apart [] l)(hl:l.length<=15)(cZ:l≠[]):
  Ev treeTable p w n₀ ann c (1+13*l.length) (subDict (dw q l)) ⟨hp h l₁,g,dr,tk,os⟩ pos (h.objs.size+l₁.length) ⟨hp h (l₁++[aR (gL tk l) l.length]),g,dr,tk+2*l.length+l.length,os⟩ q:=by
 unfold subDict;refine Ev.alloc (b:=13*l.length) ?_;rw[EL,EM];refine Ev.mono (b:=0+(3*l.length+(10*l.length+0)+0)) ?_ (by omega);refine Ev.bind Ev.pure ?_;refine Ev.bind (a:=()) (Ev.holding ?_) Ev.pure;rw[aw (by simpa[dw]using hl)];have k1:=AN (p:=p) (w:=w) (n₀:=n₀) (ann:=ann) (c:=c) q l ⟨hp h (l₁++[aR [] 0]),g,dr,tk,os⟩ pos;rw[au cZ]at k1;refine Ev.bind k1 (Ev.holding ?_);have k2:=AO (p:=p) (w:=w) (ann:=ann) (c:=c) (g:=g) (dr:=dr) (os:=os) (l₂:=[]) hn l tk [] 0 (tk+2*l.length) q ha (by simp;omega);rw[gh,gg]at k2;exact Ev.bind k2 Ev.pure
theorem pC{l₁ l₂:List Obj}{es:List DictEntry}{n:Nat}{part}:Ev treeTable p w n₀ ann c 1 (dictEntries (h.objs.size+l₁.length) part) ⟨hp h (l₁++aR es n::l₂),g,dr,tk,os⟩ pos es.toArray ⟨hp h (l₁++aR es n::l₂),g,dr,tk,os⟩ pos:=
 Ev.load (b:=0) (pB h l₁ l₂ es n) Ev.pure
theorem AP{l₁ l₂:List Obj}{es:List DictEntry}{n:Nat}{part}:Ev treeTable p w n₀ ann c 1 (dictEpoch (h.objs.size+l₁.length) part) ⟨hp h (l₁++aR es n::l₂),g,dr,tk,os⟩ pos n ⟨hp h (l₁++aR es n::l₂),g,dr,tk,os⟩ pos:=
 Ev.load (b:=0) (pB h l₁ l₂ es n) Ev.pure
theorem AQ{l₁ l₂:List Obj}{es':List DictEntry}{n':Nat}(hn:n₀<=h.objs.size+l₁.length)
  (hk:∀e∈es',∃k t,e.key= .int k t):∀(m i:Nat) (es:List DictEntry) (n:Nat),i+m=es'.length->es.length+m<1000->(es'.drop i).Pairwise (fun a b=>a.hash≠b.hash)->(∀a∈es,∀b∈es'.drop i,a.hash≠b.hash)->
  Ev treeTable p w n₀ ann c (6*m) (forIn (List.range' i m) PUnit.unit fun(i:Nat) (_:PUnit)=>(do
    let x <-dictEntries (h.objs.size+(l₁++aR es n::l₂).length)
    match x[i]? with
    |some e=>do
     holding [e.key,e.val] (dictPut (h.objs.size+l₁.length) e.hash e.key e.val)
     let ep <-dictEpoch (h.objs.size+(l₁++aR es n::l₂).length)
     if(ep != n')=true then do
      unsupported "dict.changed-during-merge"
      pure (ForInStep.yield PUnit.unit)
     else pure (ForInStep.yield PUnit.unit)
    |x=>do
     unsupported "dict.changed-during-merge"
     pure (ForInStep.yield PUnit.unit):Sem (ForInStep PUnit))) ⟨hp h ((l₁++aR es n::l₂)++[aR es' n']),g,dr,tk,os⟩ pos PUnit.unit
   ⟨hp h ((l₁++aR (es++es'.drop i) (n+m)::l₂)++[aR es' n']),g,dr,tk,os⟩ pos
 |0,i,es,n,hi,hl,W4,hf=>by
  have:es'.drop i=[]:=tD (by omega);simp only[List.range'_zero,nC,this,ea,pp,lO];exact Ev.pure
 |m+1,i,es,n,hi,hl,Ch,hf=>by
  have ew:i<es'.length:=by omega
  have hd:es'.drop i=es'[i]::es'.drop (i+1):=(List.drop_eq_getElem_cons ew);rw[hd]at Ch hf ⊢;obtain⟨k,t,Po⟩:=hk es'[i] (by simp);simp only[List.range'_succ,oR];refine Ev.mono (b:=(1+(4+(1+0)))+6*m) ?_ (by omega);refine Ev.bind (a:=ForInStep.yield PUnit.unit) (s':=⟨hp h ((l₁++aR (es++[es'[i]]) (n+1)::l₂)++[aR es' n']),g,dr,tk,os⟩) (pos':=pos) ?_ ?_
  ·refine Ev.bind (pC (l₁:=l₁++aR es n::l₂) (l₂:=[])) ?_
   have he:es'.toArray[i]?=some es'[i]:=by simp[ew]
   rw[he];have Ii:=Pn (p:=p) (w:=w) (n₀:=n₀) (ann:=ann) (c:=c) (h:=h) (g:=g) (dr:=dr) (tk:=tk) (os:=os) (pos:=pos) (l₁:=l₁) (l₂:=l₂++[aR es' n']) (es:=es) (n:=n) (k:=k) (t:=t) (v:=es'[i].val) (x:=es'[i].hash) (fun e Hj=>hf e Hj _ gJ) hn (by omega);rw[<-Po]at Ii;have e0:(⟨es'[i].hash,es'[i].key,es'[i].val⟩:DictEntry)=es'[i]:=rfl;rw[e0]at Ii;simp only[List.append_assoc,List.cons_append]at Ii ⊢;refine Ev.bind (Ev.holding Ii) ?_;have hep:=AP (p:=p) (w:=w) (n₀:=n₀) (ann:=ann) (c:=c) (h:=h) (g:=g) (dr:=dr) (tk:=tk) (os:=os) (pos:=pos) (l₁:=l₁++aR (es++[es'[i]]) (n+1)::l₂) (l₂:=[]) (es:=es') (n:=n') (part:=none);simp only[List.append_assoc,List.cons_append,aY,cr]at hep ⊢;refine Ev.bind hep ?_;rw[au (by simp)];exact Ev.pure
  ·have:=AQ (l₁:=l₁) (l₂:=l₂) (n':=n') hn hk m (i+1) (es++[es'[i]]) (n+1) (by omega) (by simp;omega) (List.Pairwise.of_cons Ch) (fun a ha b hb=>by
    rcases bZ.mp ha with ha|ha
    ·exact hf a ha b (ge _ hb)
    ·obtain rfl:=cq.mp ha
     exact(List.pairwise_cons.mp Ch).1 b hb)
   simp only[List.append_assoc,tG,aY,cr]at this ⊢;rw[show n+(m+1)=n+1+m by omega];exact this
theorem AR{l₁ l₂:List Obj}{es es':List DictEntry}{n n':Nat}(hn:n₀<=h.objs.size+l₁.length)(cZ:es≠[])(lE:(h.objs.size+(l₁++aR es n::l₂).length==sysModules)=false)
  (hk:∀e∈es',∃k t,e.key= .int k t) (Ch:es'.Pairwise fun a b=>a.hash≠b.hash) (hf:∀a∈es,∀b∈es',a.hash≠b.hash) (hl:es.length+es'.length<1000):
  Ev treeTable p w n₀ ann c (5+6*es'.length) (mergeMapping (h.objs.size+l₁.length) (.ref (h.objs.size+(l₁++aR es n::l₂).length)) false) ⟨hp h ((l₁++aR es n::l₂)++[aR es' n']),g,dr,tk,os⟩ pos ()
   ⟨hp h ((l₁++aR (es++es') (n+es'.length)::l₂)++[aR es' n']),g,dr,tk,os⟩ pos:=by
 unfold mergeMapping;have s0:=pB h (l₁++aR es n::l₂) [] es' n';have Vw:Ev treeTable p w n₀ ann c 1 (PySem.typeOf (.ref (h.objs.size+(l₁++aR es n::l₂).length))) ⟨hp h ((l₁++aR es n::l₂)++[aR es' n']),g,dr,tk,os⟩ pos (.type "dict") ⟨hp h ((l₁++aR es n::l₂)++[aR es' n']),g,dr,tk,os⟩ pos:=Ev.load (b:=0) s0 Ev.pure;refine Ev.mono (b:=(1+0)+((1+0)+(1+(1+(1+(6*es'.length+0)))))) ?_ (by omega);refine Ev.bind (a:=true) (s':=⟨hp h ((l₁++aR es n::l₂)++[aR es' n']),g,dr,tk,os⟩) (pos':=pos) ?_ ?_
 ·unfold isInstance
  refine Ev.bind Vw ?_;rw[isSubtype_dict_dict];exact Ev.pure
 ·dsimp only
  rw[aw rfl];refine Ev.bind (a:=some (.builtin "dict.__iter__")) (s':=⟨hp h ((l₁++aR es n::l₂)++[aR es' n']),g,dr,tk,os⟩) (pos':=pos) ?_ ?_
  ·unfold specialOf
   refine Ev.bind Vw ?_;rw[PySem.F.slot_dict_iter.lookup];exact Ev.pure
  ·have e1:(some (Value.builtin "dict.__iter__")==some (Value.builtin "dict.__iter__"))=true:=by simp
   rw[e1];refine Ev.NW Ev.pure ?_;dsimp only;rw[au (by rw[lE];exact nE)];have k1:=pC (p:=p) (w:=w) (n₀:=n₀) (ann:=ann) (c:=c) (h:=h) (g:=g) (dr:=dr) (tk:=tk) (os:=os) (pos:=pos) (l₁:=l₁) (l₂:=l₂++[aR es' n']) (es:=es) (n:=n) (part:=none);have k2:=pC (p:=p) (w:=w) (n₀:=n₀) (ann:=ann) (c:=c) (h:=h) (g:=g) (dr:=dr) (tk:=tk) (os:=os) (pos:=pos) (l₁:=l₁++aR es n::l₂) (l₂:=[]) (es:=es') (n:=n') (part:=none);have k3:=AP (p:=p) (w:=w) (n₀:=n₀) (ann:=ann) (c:=c) (h:=h) (g:=g) (dr:=dr) (tk:=tk) (os:=os) (pos:=pos) (l₁:=l₁++aR es n::l₂) (l₂:=[]) (es:=es') (n:=n') (part:=none);have k4:=AQ (p:=p) (w:=w) (n₀:=n₀) (ann:=ann) (c:=c) (h:=h) (g:=g) (dr:=dr) (tk:=tk) (os:=os) (pos:=pos) (l₁:=l₁) (l₂:=l₂) (es':=es') (n':=n') hn hk es'.length 0 es n (by omega) hl (by simpa using Ch) (by simpa using hf);rw[<-List.cons_append,<-List.append_assoc]at k1;refine Ev.bind k1 ?_;rw[au (by simpa using cZ)];refine Ev.bind k2 (Ev.bind k3 ?_);rw[List.range_eq_range'];simp only[List.drop_zero]at k4;refine Ev.bind (a:=PUnit.unit) ?_ Ev.pure;exact k4
noncomputable def gM:Nat->List (List (Int×Str))->List DictEntry
 |_,[]=>[]
 |T,l::r=>ba T l++gM (T+51) r
theorem ux(T:Nat):gM T []=[]:=rfl
theorem uy(T:Nat)(l:List (Int×Str))(r:List (List (Int×Str))):gM T (l::r)=ba T l++gM (T+51) r:=rfl
noncomputable def o0:Nat->List (List (Int×Str))->List Obj
 |_,[]=>[]
 |T,l::r=>aR (ba T l) 17::o0 (T+51) r
theorem AS(T:Nat):o0 T []=[]:=rfl
theorem AT(T:Nat)(l:List (Int×Str))(r:List (List (Int×Str))):o0 T (l::r)=aR (ba T l) 17::o0 (T+51) r:=rfl
noncomputable def cM(q:Pos)(l:List (Int×Str)):List (Option (Sem Value)×Sem Value):=l.map fun(k,x)=>(some (wq k),wu q x)
noncomputable def hs(l:List (Int×Str)):List Int:=l.map fun y=>hashInt y.1
theorem jw:∀(l:List (Int×Str)) (T:Nat),(ba T l).map (·.hash)=hs l
 |[],_=>rfl
 |(k,x)::r,T=>by simp only[p6,p7,bB,jw r,hs]
theorem uz:∀(l:List (Int×Str)) (T:Nat),(gL T l).map (·.hash)=hs l
 |[],_=>rfl
 |(k,x)::r,T=>by simp only[p8,p9,bB,uz r,hs]
theorem gq:∀(l:List (Int×Str)) (T:Nat),(ba T l).length=l.length
 |[],_=>rfl
 |(k,x)::r,T=>by simp only[p6,p7,cr,gq r]
theorem rK:∀(l:List (Int×Str)) (T:Nat),(gL T l).length=l.length
 |[],_=>rfl
 |(k,x)::r,T=>by simp only[p8,p9,cr,rK r]
theorem xc:∀(l:List (Int×Str)) (T:Nat),∀e∈ba T l,∃k t,e.key= .int k t
 |[],_,e,he=>by cases he
 |(k,x)::r,T,e,he=>by
  rcases bI.mp he with rfl|he
  ·exact⟨_,_,rfl⟩
  ·exact xc r _ e he
theorem xd:∀(l:List (Int×Str)) (T:Nat),∀e∈gL T l,∃k t,e.key= .int k t
 |[],_,e,he=>by cases he
 |(k,x)::r,T,e,he=>by
  rcases bI.mp he with rfl|he
  ·exact⟨_,_,rfl⟩
  ·exact xd r _ e he
theorem su{es:List DictEntry}(h:(es.map (·.hash)).Nodup):es.Pairwise fun a b=>a.hash≠b.hash:=List.pairwise_map.mp h
theorem qb:∀{l:List (Int×Str)} {es:List DictEntry},(es.map (·.hash)++hs l).Nodup->Apart es l
 |[],_,_=>trivial
 |(k,x)::r,es,hn=>by
  have h2:=(lP.mp hn);refine⟨fun e he q=>h2.2.2 _ (dt.mpr ⟨e,he,rfl⟩) _ (gJ) q,fun y hy q=>?_,qb ?_⟩
  ·exact(mU.mp h2.2.1).1 (dt.mpr ⟨y,hy,q⟩)
  ·exact hn.sublist (List.sublist_append_right [_] _ |>.append_left _)
theorem AU(q:Pos)(k:Int)(x:Str)(r:List (Int×Str)):cM q ((k,x)::r)=(some (wq k),wu q x)::cM q r:=rfl
section
variable{F:Option (Sem Value)×Sem Value->Option Addr×List (Sem Value×Sem Value)->Sem (ForInStep (Option Addr×List (Sem Value×Sem Value)))}
theorem fill(uA:∀k v main run,run.length+1≠17->F (some k,v) (main,run)=pure (.yield (main,run++[(k,v)])))(q:Pos)(rest:List (Option (Sem Value)×Sem Value))(main:Option Addr):
  ∀(l:List (Int×Str)) (run:List (Sem Value×Sem Value)),run.length+l.length<17->forIn (cM q l++rest) (main,run) F=forIn rest (main,run++dw q l) F
 |[],run,_=>by simp[cM,dw]
 |(k,x)::r,run,hl=>by
  simp only[cr]at hl;rw[AU,List.cons_append,oR,uA _ _ _ _ (by omega)];have:=fill uA q rest main r (run++[(wq k,wu q x)]) (by simp;omega);show forIn (cM q r++rest) (main,run++[(wq k,wu q x)]) F=_;rw[this,List.append_assoc];rfl
variable{R:Addr->Value->Sem Unit}
variable(uA:∀k v main run,run.length+1≠17->F (some k,v) (main,run)=pure (.yield (main,run++[(k,v)])))
 (NX:∀k v run,run.length+1=17->F (some k,v) (none,run)=(do let d <-(do let d <-subDict (run++[(k,v)]);pure (some d));pure (.yield (d,[]))))
 (RH:∀k v d run,run.length+1=17->F (some k,v) (some d,run)=(do
  let m <-(do
   let sub <-holding [.ref d] (subDict (run++[(k,v)]))
   (holding [.ref d,.ref sub] (mergeMapping d (.ref sub) false)).onRaise (R d)
   pure (some d))
  pure (.yield (m,[]))))
include uA
theorem EP{l:List (Int×Str)}(hl:l.length=17):∃l' k x,l=l'++[(k,x)]/\l'.length=16:=by
 refine⟨l.dropLast,(l.getLast (by intro e;rw[e]at hl;cases hl)).1,(l.getLast (by intro e;rw[e]at hl;cases hl)).2,?_,by simp[hl]⟩;exact(List.dropLast_concat_getLast (by intro e;rw[e]at hl;cases hl)).symm
include RH
theorem Ij{q:Pos}{l:List (Int×Str)}{rest:List (Option (Sem Value)×Sem Value)}(hl:l.length=17){E:List DictEntry}{n:Nat}{subs:List Obj}(hE:E≠[])(EQ:(E.map (·.hash)++hs l).Nodup)(hlen:E.length+17<1000)
  (hn:n₀<=h.objs.size) (lE:sysModules<h.objs.size) {b:Nat} {a hU ik}
  (k:Ev treeTable p w n₀ ann c b (forIn rest (some h.objs.size,[]) F) ⟨hp h (aR (E++ba tk l) (n+17)::subs++[aR (ba tk l) 17]),g,dr,tk+51,os⟩ q a hU ik):
  Ev treeTable p w n₀ ann c (400+b) (forIn (cM q l++rest) (some h.objs.size,[]) F) ⟨hp h (aR E n::subs),g,dr,tk,os⟩ pos a hU ik:=by
 obtain⟨l',k',x',rfl,l7⟩:=EP uA hl;have e1:cM q (l'++[(k',x')])++rest=cM q l'++((some (wq k'),wu q x')::rest):=by simp[cM]
 rw[e1,fill uA q _ _ l' [] (by simp[l7]),gh,oR,RH _ _ _ _ (by simp[dw,l7])];have e2:dw q l'++[(wq k',wu q x')]=dw q (l'++[(k',x')]):=by simp[dw]
 rw[e2];generalize hL:l'++[(k',x')]=L at*;have d0:(hs L).Nodup:=(lP.mp EQ).2.1;have dd:=(lP.mp EQ).2.2;have k1:=EO (p:=p) (w:=w) (n₀:=n₀) (ann:=ann) (c:=c) (h:=h) (g:=g) (dr:=dr) (tk:=tk) (os:=os) (pos:=pos) (l₁:=aR E n::subs) q L (by omega) (qb (by simpa using d0)) hl;have k2:=AR (p:=p) (w:=w) (n₀:=n₀) (ann:=ann) (c:=c) (h:=h) (g:=g) (dr:=dr) (tk:=tk+51) (os:=os) (pos:=q) (l₁:=[]) (l₂:=subs) (es:=E) (es':=ba tk L) (n:=n) (n':=17) (by simpa using hn) hE
  (kQ.mpr (lQ (fw lE (fB _ _)))) (xc L tk) (su (by rw[jw];exact d0)) (fun a ha b hb=>dd _ (dt.mpr ⟨a,ha,rfl⟩) _ (by rw[<-jw L tk];exact dt.mpr ⟨b,hb,rfl⟩)) (by rw[gq,hl];exact hlen)
 simp only[gh,gy,lO,gq,hl]at k2;refine Ev.mono (b:=(((223+(5+6*17+0))+0)+b)) ?_ (by omega);refine Ev.bind (a:=ForInStep.yield (some h.objs.size,[])) (Ev.bind (a:=some h.objs.size) (Ev.bind (Ev.holding k1) (Ev.bind (Ev.onRaise (Ev.holding k2)) Ev.pure)) Ev.pure) k
theorem xe{q:Pos}{rest:List (Option (Sem Value)×Sem Value)}(hn:n₀<=h.objs.size)(lE:sysModules<h.objs.size){b:Nat}{a hU ik}:∀(cs:List (List (Int×Str))) (E:List DictEntry) (n:Nat) (subs:List Obj) (tk:Nat),
  (∀l∈cs,l.length=17)->E≠[]->(E.map (·.hash)++hs cs.flatten).Nodup->E.length+17*cs.length<1000->
  (Ev treeTable p w n₀ ann c b (forIn rest (some h.objs.size,[]) F) ⟨hp h (aR (E++gM tk cs) (n+17*cs.length)::subs++o0 tk cs),g,dr,tk+51*cs.length,os⟩ q a hU ik)->
  Ev treeTable p w n₀ ann c (400*cs.length+b) (forIn (cM q cs.flatten++rest) (some h.objs.size,[]) F) ⟨hp h (aR E n::subs),g,dr,tk,os⟩ q a hU ik
 |[],E,n,subs,tk,_,_,_,_,k=>by
  simp only[List.flatten_nil,cM,po,gh,gy,pp,gg];simpa only[ux,uy,AS,AT,ea,gy,pp,lO]using k
 |l::cs,E,n,subs,tk,hl,hE,EQ,hlen,k=>by
  simp only[cr]at hlen;have h1:l.length=17:=hl l (by simp);have Tf:hs (l++cs.flatten)=hs l++hs cs.flatten:=by simp[hs]
  rw[eQ,Tf,<-List.append_assoc]at EQ;have e1:cM q (l::cs).flatten++rest=cM q l++(cM q cs.flatten++rest):=by simp[cM]
  rw[e1];refine Ev.mono (b:=400+(400*cs.length+b)) ?_ (by simp only[cr];omega);refine Ij uA RH h1 hE (lP.mp EQ).1 (by omega) hn lE ?_;have:=xe hn lE cs (E++ba tk l) (n+17) (subs++[aR (ba tk l) 17]) (tk+51) (fun y hy=>hl y (by simp[hy])) (by simp[hE]) (by rw[List.map_append,jw];exact EQ) (by rw[aY,gq,h1];omega)
   (by
    simp only[ux,uy,AS,AT,cr]at k;rw[show n+17+17*cs.length=n+17*(cs.length+1) by omega,show tk+51+51*cs.length=tk+51*(cs.length+1) by omega];simpa only[List.append_assoc,List.cons_append,gh,tG]using k)
  simpa only[List.cons_append]using this
omit RH in
include NX in
theorem Ik{q:Pos}{l:List (Int×Str)}{rest:List (Option (Sem Value)×Sem Value)}(hl:l.length=17)(EQ:(hs l).Nodup)(hn:n₀<=h.objs.size){b:Nat}{a hU ik}
  (k:Ev treeTable p w n₀ ann c b (forIn rest (some h.objs.size,[]) F) ⟨hp h [aR (ba tk l) 17],g,dr,tk+51,os⟩ q a hU ik):
  Ev treeTable p w n₀ ann c (400+b) (forIn (cM q l++rest) (none,[]) F) ⟨h,g,dr,tk,os⟩ pos a hU ik:=by
 obtain⟨l',k',x',rfl,l7⟩:=EP uA hl;have e1:cM q (l'++[(k',x')])++rest=cM q l'++((some (wq k'),wu q x')::rest):=by simp[cM]
 rw[e1,fill uA q _ _ l' [] (by simp[l7]),gh,oR,NX _ _ _ (by simp[dw,l7])];have e2:dw q l'++[(wq k',wu q x')]=dw q (l'++[(k',x')]):=by simp[dw]
 rw[e2];generalize hL:l'++[(k',x')]=L at*;have k1:=EO (p:=p) (w:=w) (n₀:=n₀) (ann:=ann) (c:=c) (h:=h) (g:=g) (dr:=dr) (tk:=tk) (os:=os) (pos:=pos) (l₁:=[]) q L (by simpa using hn) (qb (by simpa using EQ)) hl;simp only[Pm,gy,lO,gh]at k1;refine Ev.mono (b:=(((223+0)+0)+b)) ?_ (by omega);exact Ev.bind (a:=ForInStep.yield (some h.objs.size,[])) (Ev.bind (a:=some h.objs.size) (Ev.bind k1 Ev.pure) Ev.pure) k
end
theorem xg:∀(cs:List (List (Int×Str))),(∀l∈cs,l.length=17)->∀T,(gM T cs).length=17*cs.length
 |[],_,_=>rfl
 |l::cs,hc,T=>by
  simp only[ux,uy,aY,gq,cr,xg cs (fun y hy=>hc y (by simp[hy])),hc l (by simp)];omega
theorem AV:∀(cs:List (List (Int×Str))) (T:Nat),(gM T cs).map (·.hash)=hs cs.flatten
 |[],_=>rfl
 |l::cs,T=>by
  have:hs (l++cs.flatten)=hs l++hs cs.flatten:=by simp[hs]
  rw[gM,List.map_append,jw,AV cs,eQ,this]
theorem Dg{q:Pos}(qc:List (Int×Str))(cs:List (List (Int×Str)))(l:List (Int×Str))(h0:qc.length=17)(hc:∀l∈cs,l.length=17)(hl:l.length<=15)(cZ:l≠[])(EQ:(hs qc++hs cs.flatten++hs l).Nodup)
  (hlen:17*cs.length<900) (hn:n₀<=h.objs.size) (lE:sysModules<h.objs.size):
  Ev treeTable p w n₀ ann c (400*cs.length+1000) (dictDisplay (cM q (qc++(cs.flatten++l)))) ⟨h,g,dr,tk,os⟩ pos (.ref h.objs.size)
   ⟨hp h (aR (ba tk qc++gM (tk+51) cs++gL (tk+51+51*cs.length) l) (17+17*cs.length+l.length)::o0 (tk+51) cs++[aR (gL (tk+51+51*cs.length) l) l.length]),g,dr,tk+51+51*cs.length+3*l.length,os⟩ q:=by
 have e1:cM q (qc++(cs.flatten++l))=cM q qc++(cM q cs.flatten++(cM q l++[])):=by simp[cM]
 unfold dictDisplay;dsimp only;rw[e1];refine Ev.mono (b:=(400+(400*cs.length+0))+((1+13*l.length)+((5+6*l.length)+0)+0)) ?_ (by omega);have Il:=lP.mp EQ;have XG:=lP.mp Il.1;refine Ev.bind (a:=(some h.objs.size,dw q l)) (s':=⟨hp h (aR (ba tk qc++gM (tk+51) cs) (17+17*cs.length)::o0 (tk+51) cs),g,dr,tk+51+51*cs.length,os⟩) (pos':=q) ?_ ?_
 ·have uA:∀(k:Sem Value) (v:Sem Value) (main:Option Addr) (run:List (Sem Value×Sem Value)),run.length+1≠17->(((run++[(k,v)]).length==17)=true)=False:=fun k v main run hr=>by simpa using hr
  have NX:∀(k:Sem Value) (v:Sem Value) (run:List (Sem Value×Sem Value)),run.length+1=17->(((run++[(k,v)]).length==17)=true)=True:=fun k v run hr=>by simpa using hr
  have hE:∀(k:Sem Value) (v:Sem Value) (run:List (Sem Value×Sem Value)),((run++[(k,v)]).isEmpty=true)=False:=fun k v run=>by simp
  refine Ik (fun k v main run hr=>?_) (fun k v run hr=>?_) h0 XG.1 hn (xe (R:=fun d x=>do let _ <-holding [Value.ref d,x] (runValue (Code.builtin "proto.let_go" { }));pure ()) (fun k v main run hr=>?_) (fun k v d run hr=>?_) hn lE cs (ba tk qc) 17 [] (tk+51) hc (fun e=>?_) (by rw[jw];exact Il.1) (by rw[gq,h0];omega) ?_)
  ·dsimp only;rw[au (by rw[uA k v main run hr];exact id)]
  ·dsimp only;rw[aw (by rw[NX k v run hr];trivial),au (by rw[hE];exact id)]
  ·dsimp only;rw[au (by rw[uA k v main run hr];exact id)]
  ·dsimp only;rw[aw (by rw[NX k v run hr];trivial),au (by rw[hE];exact id)]
  ·have:=gq qc tk
   rw[e,h0]at this;cases this
  ·rw[fill (fun k v main run hr=>by dsimp only;rw[au (by rw[uA k v main run hr];exact id)]) q [] _ l [] (by simp;omega)]
   simp only[nC,gh];exact Ev.pure
 ·have hlp:(dw q l).isEmpty=false:=by
   cases l with
   |nil=>exact absurd rfl cZ
   |cons=>rfl
  dsimp only;rw[au (by rw[hlp];exact nE)];have len:(ba tk qc++gM (tk+51) cs).length=17+17*cs.length:=by rw[aY,gq,h0,xg cs hc]
  have hsE:(ba tk qc++gM (tk+51) cs).map (·.hash)=hs qc++hs cs.flatten:=by rw[List.map_append,jw,AV]
  have k1:=L7 (p:=p) (w:=w) (n₀:=n₀) (ann:=ann) (c:=c) (h:=h) (g:=g) (dr:=dr) (tk:=tk+51+51*cs.length) (os:=os) (pos:=q) (l₁:=aR (ba tk qc++gM (tk+51) cs) (17+17*cs.length)::o0 (tk+51) cs) q l (by omega) (qb (by simpa using Il.2.1)) hl cZ;have k2:=AR (p:=p) (w:=w) (n₀:=n₀) (ann:=ann) (c:=c) (h:=h) (g:=g) (dr:=dr) (tk:=tk+51+51*cs.length+2*l.length+l.length) (os:=os) (pos:=q) (l₁:=[]) (l₂:=o0 (tk+51) cs) (es:=ba tk qc++gM (tk+51) cs) (es':=gL (tk+51+51*cs.length) l) (n:=17+17*cs.length) (n':=l.length) (by simpa using hn)
   (by intro e;rw[e,gy]at len;omega)
   (kQ.mpr (lQ (fw lE (fB _ _)))) (xd l _) (su (by rw[uz];exact Il.2.1))
   (fun a ha b hb=>Il.2.2 _ (by rw[<-hsE];exact dt.mpr ⟨a,ha,rfl⟩) _ (by rw[<-uz l (tk+51+51*cs.length)];exact dt.mpr ⟨b,hb,rfl⟩)) (by rw[len,rK];omega)
  simp only[gh,gy,lO,rK]at k2;rw[show tk+51+51*cs.length+3*l.length=tk+51+51*cs.length+2*l.length+l.length by omega];refine Ev.bind (a:=some h.objs.size) (Ev.bind (Ev.holding k1) (Ev.bind (Ev.onRaise (Ev.holding k2)) Ev.pure)) Ev.pure
end
noncomputable abbrev Ent:=(Int×Nat×Pos)×(Str×Nat×Pos)
noncomputable def kE(d:Ent):Option Expr:=some (.Constant (.int d.1.1) d.1.2.1 d.1.2.2)
noncomputable def vE(d:Ent):Expr:=.Constant (.str d.2.1) d.2.2.1 d.2.2.2
theorem Im(q:Pos)(env:Env)(D:List Ent):(evalEachOpt (D.map kE) env).zip ((evalEach (D.map vE) env).map fun v=>do let x <-v;standAt q;pure x)=cM q (D.map fun d=>(d.1.1,d.2.1)):=by
 induction D with
 |nil=>rfl
 |cons d D ih=>exact congrArg (List.cons _) ih
noncomputable def mn:Nat->List (Int×Str)->Bool
 |_,[]=>true
 |n,(.ofNat k,_)::r=>Nat.ble n k&&mn (k+1) r
 |_,(.negSucc _,_)::_=>false
theorem mq(n k:Nat)(x:Str)(r:List (Int×Str)):mn n ((.ofNat k,x)::r)=(Nat.ble n k&&mn (k+1) r):=rfl
theorem mr(n k:Nat)(x:Str)(r:List (Int×Str)):mn n ((.negSucc k,x)::r)=false:=rfl
set_option tactic.hygienic true in
theorem o6{k:Nat}(hk:k<2^61-1):hashInt (Int.ofNat k)=Int.ofNat k:=by
 have h1:rawHash (Int.ofNat k)=Int.ofNat k:=by
  have e:((k:Int) % ((2^61-1:Nat):Int))=(k:Int):=Int.emod_eq_of_lt (by omega) (by omega);simp only[rawHash,Int.ofNat_eq_natCast,Int.natAbs_natCast,e];split
  ·omega
  ·split
   ·rename_i h;have:=eq_of_beq h;omega
   ·rfl
 unfold hashInt;rw[h1,au];intro h;have:=eq_of_beq h;have:(0:Int)<=Int.ofNat k:=mW k;omega
theorem Io:∀{l:List (Int×Str)} {n:Nat},mn n l=true->∀y∈l,∃k:Nat,y.1=Int.ofNat k/\n<=k
 |[],_,_,y,hy=>by cases hy
 |(.ofNat k,x)::r,n,h,y,hy=>by
  simp only[mq,mr,bX,Nat.ble_eq]at h;rcases bI.mp hy with rfl|hy
  ·exact⟨k,rfl,h.1⟩
  ·obtain⟨k',e,hk⟩:=Io h.2 y hy
   exact⟨k',e,by omega⟩
 |(.negSucc _,_)::_,_,h,_,_=>by simp[mq,mr]at h
theorem xh:∀{l:List (Int×Str)} {n:Nat},mn n l=true->(∀y∈l,y.1<2^31)->(hs l).Nodup
 |[],_,_,_=>xP
 |(.ofNat k,x)::r,n,h,hb=>by
  simp only[mq,mr,bX,Nat.ble_eq]at h;refine mU.mpr ⟨fun hm=>?_,xh h.2 fun y hy=>hb y (by simp[hy])⟩;obtain⟨y,hy,e⟩:=dt.mp hm;obtain⟨k',e',hk⟩:=Io h.2 y hy;have b1:=hb y (by simp[hy]);have b2:=hb (Int.ofNat k,x) (by simp);rw[e']at e b1;have b1':((k':Nat):Int)<2147483648:=b1;have b2':((k:Nat):Int)<2147483648:=b2;dsimp only at e;rw[o6 (by omega),o6 (by omega)]at e;have:=Int.ofNat.inj e;omega
 |(.negSucc _,_)::_,_,h,_=>by simp[mq,mr]at h
end
noncomputable def kB:Stmt:=aO pq.main.body 3
noncomputable def Tg(k:Option Expr)(v:Expr):Ent:=(k.elim (0,0,default) (H8 (0,0,default) (fun ø ø ø=>(0,0,default)) (fun i n p=>(i,n,p)) (fun ø ø ø=>(0,0,default))),H8 (default,0,default) (fun ø ø ø=>(default,0,default)) (fun ø ø ø=>(default,0,default)) (fun x n p=>(x,n,p)) v)
noncomputable def XH:List Ent:=(sr kB).zipWith Tg (ss kB)
noncomputable def ER:List (Int×Str):=XH.map fun d=>(d.1.1,d.2.1)
noncomputable def c0:List (Int×Str):=ER.take 17
noncomputable def cn(j:Nat):List (Int×Str):=(ER.drop (17*j)).take 17
noncomputable def cs:List (List (Int×Str)):=[cn 1,cn 2,cn 3,cn 4,cn 5,cn 6,cn 7,cn 8,cn 9,cn 10,cn 11,cn 12,cn 13,cn 14,cn 15,cn 16,cn 17,cn 18,cn 19,cn 20,cn 21,cn 22,cn 23,cn 24,cn 25,cn 26,cn 27,cn 28,cn 29,cn 30,cn 31,cn 32,cn 33,cn 34,cn 35,cn 36,cn 37]
noncomputable def cl:List (Int×Str):=ER.drop 646
noncomputable def rL:Obj:=aR (ba 256 c0++gM 307 cs++gL 2194 cl) 650
noncomputable def yp:Obj:=aR (ba 307 (cn 1)) 17
noncomputable def yq:Obj:=aR (ba 358 (cn 2)) 17
noncomputable def yr:Obj:=aR (ba 409 (cn 3)) 17
noncomputable def yt:Obj:=aR (ba 460 (cn 4)) 17
noncomputable def uB:Obj:=aR (ba 511 (cn 5)) 17
noncomputable def uC:Obj:=aR (ba 562 (cn 6)) 17
noncomputable def uD:Obj:=aR (ba 613 (cn 7)) 17
noncomputable def yu:Obj:=aR (ba 664 (cn 8)) 17
noncomputable def yv:Obj:=aR (ba 715 (cn 9)) 17
noncomputable def yw:Obj:=aR (ba 766 (cn 10)) 17
noncomputable def yx:Obj:=aR (ba 817 (cn 11)) 17
noncomputable def yy:Obj:=aR (ba 868 (cn 12)) 17
noncomputable def yz:Obj:=aR (ba 919 (cn 13)) 17
noncomputable def yA:Obj:=aR (ba 970 (cn 14)) 17
noncomputable def yB:Obj:=aR (ba 1021 (cn 15)) 17
noncomputable def yC:Obj:=aR (ba 1072 (cn 16)) 17
noncomputable def yD:Obj:=aR (ba 1123 (cn 17)) 17
noncomputable def yE:Obj:=aR (ba 1174 (cn 18)) 17
noncomputable def yF:Obj:=aR (ba 1225 (cn 19)) 17
noncomputable def yG:Obj:=aR (ba 1276 (cn 20)) 17
noncomputable def yH:Obj:=aR (ba 1327 (cn 21)) 17
noncomputable def yI:Obj:=aR (ba 1378 (cn 22)) 17
noncomputable def yJ:Obj:=aR (ba 1429 (cn 23)) 17
noncomputable def yK:Obj:=aR (ba 1480 (cn 24)) 17
noncomputable def yL:Obj:=aR (ba 1531 (cn 25)) 17
noncomputable def yM:Obj:=aR (ba 1582 (cn 26)) 17
noncomputable def yN:Obj:=aR (ba 1633 (cn 27)) 17
noncomputable def yO:Obj:=aR (ba 1684 (cn 28)) 17
noncomputable def yP:Obj:=aR (ba 1735 (cn 29)) 17
noncomputable def yQ:Obj:=aR (ba 1786 (cn 30)) 17
noncomputable def yR:Obj:=aR (ba 1837 (cn 31)) 17
noncomputable def yS:Obj:=aR (ba 1888 (cn 32)) 17
noncomputable def yT:Obj:=aR (ba 1939 (cn 33)) 17
noncomputable def yU:Obj:=aR (ba 1990 (cn 34)) 17
noncomputable def yV:Obj:=aR (ba 2041 (cn 35)) 17
noncomputable def yW:Obj:=aR (ba 2092 (cn 36)) 17
noncomputable def yX:Obj:=aR (ba 2143 (cn 37)) 17
noncomputable def yY:Obj:=aR (gL 2194 cl) 4
noncomputable def Th(P:Params):Obj:=mO (.type "dict") (.dict #[(d0 P),(d1 P),(d2 P),(d3 P),(d4 P),(d5 P),(d6 P),(d7 P),(d8 P),(d9 P),(Pj P),(RE P)] 12)
noncomputable def b4(P:Params):BT:=(.node (boot_o_7 P) (.node rE (.node rJ (lf yQ) .nil) (lf yA)) (.node pA (.node uC (lf yY) .nil) (lf yI)))
noncomputable def b5:BT:=(.node aq (.node aq (.node yq (lf yU) .nil) (lf yE)) (.node bb (lf yw) (lf yM)))
noncomputable def b6(P:Params):BT:=(.node (boot_o_5 P) (.node (boot_o_9 P) (.node ur (.node rL (lf yS) .nil) (lf yC)) (.node ut (lf yu) (lf yK))) (.node nQ (.node rI (.node yt (lf yW) .nil) (lf yG)) (.node aq (lf yy) (lf yO))))
noncomputable def b7(P:Params):BT:=(.node (boot_o_2 P) (.node (boot_o_4 P) (.node (boot_o_8 P) (.node rF (.node mj (lf yR) .nil) (lf yB)) (.node aq (lf uD) (lf yJ))) (.node H9 (.node rH (.node yr (lf yV) .nil) (lf yF)) (.node uu (lf yx) (lf yN)))) (.node (boot_o_6 P) (.node (boot_o_10 P) (.node rG (.node yp (lf yT) .nil) (lf yD)) (.node aq (lf yv) (lf yL))) (.node mi (.node (iF P) (.node uB (lf yX) .nil) (lf yH)) (.node uv (lf yz) (lf yP)))))
noncomputable def Ti(P:Params):BT:=(.node (boot_o_0 P) (.node (boot_o_1 P) (.node (Th P) (b4 P) b5) (b6 P)) (b7 P))
noncomputable def Gb(P:Params):BT:=(.node (boot_o_0 P) (.node (boot_o_1 P) (.node (NU P) (b4 P) b5) (b6 P)) (b7 P))
theorem h_2(w:World):(fun os=>segRunT treeTable pq w 11 (some (.ref 6)) 1 30 (SS XB 26 249 w os) (piecesOf (seg 2 1) E cE ⟨2,0,2,6⟩ [topFrame fp]))=fun os=>some (.next,SS NV 33 256 w os,cE,⟨3,0,4,30⟩):=by
 rw[jV,gx]
 kernel_rfl!
theorem uE:ER=c0++(cs.flatten++cl):=by kernel_rfl!
theorem XI:sr kB=XH.map kE:=by kernel_rfl!
theorem XJ:ss kB=XH.map vE:=by kernel_rfl!
theorem Pq:mn 0 ER=true:=by kernel_rfl!
theorem Ip:(ER.all fun y=>y.1<2147483648)=true:=by kernel_rfl!
theorem AW:(hs c0++hs cs.flatten++hs cl).Nodup:=by
 have h:=xh Pq fun y hy=>by
  have:=cH.mp Ip y hy;simpa using this
 rw[uE]at h;simpa[hs]using h
theorem Pr:kB= .Assign (L5 kB) (.Dict (sr kB) (ss kB) (m5 kB)) (De kB):=by kernel_rfl!
theorem L8:seg 3 1=[kB]:=by kernel_rfl!
theorem Iq(env:Env):swapsWithSole (L5 kB) (.Dict (sr kB) (ss kB) (m5 kB)) (De kB).line E=pure false:=by kernel_rfl!
noncomputable def uF(v:Value):Sem Flow:=do assignStores E v (<-swappedStores (L5 kB) (.Dict (sr kB) (ss kB) (m5 kB)) E) ((assignEach (L5 kB) E).map (·.2))
theorem XK(w:World):(fun os=>segRunT treeTable pq w 11 (some (.ref 6)) 1 8 (SS Gb 72 2206 w os) ⟨(uF (.ref 33)).wrap doneF deadEnd id id,cE,m5 kB,[topFrame fp]⟩)=fun os=>some (.next,SS Ti 72 2207 w os,cE,⟨5,0,5,13⟩):=by
 rw[jV,gx]
 kernel_rfl!
theorem XL(P:Params):hp (absHeap (NV P) 33 {}) (aR (ba 256 c0++gM 307 cs++gL 2194 cl) 650::o0 307 cs++[aR (gL 2194 cl) 4])=absHeap (Gb P) 72 {}:=by kernel_rfl!
theorem Ps(P:Params):(absHeap (NV P) 33 {}).objs.size=33:=by kernel_rfl!
theorem Ir:cs.length=37:=by kernel_rfl!
theorem Dh:cl.length=4:=by kernel_rfl!
theorem Pt:c0.length=17:=by kernel_rfl!
theorem Pu:(cs.all fun l=>l.length==17)=true:=by kernel_rfl!
theorem h_8(w:World)(os:OsState){rest:List Stmt}{N:Nat}{r:Shared}
  (k:topRun treeTable pq w 11 (some (.ref 6)) N (SS Ti 72 2207 w os).abs (restOf rest E cE ⟨5,0,5,13⟩ [topFrame fp])=some r):
  topRun treeTable pq w 11 (some (.ref 6)) (16000+N) (SS NV 33 256 w os).abs (restOf (seg 3 1++rest) E cE ⟨3,0,4,30⟩ [topFrame fp])=some r:=by
 rw[L8];unfold restOf;rw[tG,execs_cons_wrap];generalize hK:(fun f:Flow=>_)=K at*;have Tj:=Dg (p:=pq) (w:=w) (n₀:=11) (ann:=some (.ref 6)) (c:=cE) (h:=absHeap (NV w.params) 33 {}) (g:= #[]) (dr:={}) (tk:=256) (os:=os) (pos:=m5 kB) (q:=m5 kB) c0 cs cl Pt (fun l hl=>by simpa using cH.mp Pu l hl) (by rw[Dh];decide) (by intro e;have:=Dh;rw[e]at this;cases this) AW (by rw[Ir];decide) (by rw[Ps];decide) (by rw[Ps];decide);rw[Ir,Dh,Ps,<-uE]at Tj;have hh:=XL w.params;have hd:Ev treeTable pq w 11 (some (.ref 6)) cE (1+(400*37+1000)) (eval (.Dict (sr kB) (ss kB) (m5 kB)) E) (SS NV 33 256 w os).abs (De kB) (.ref 33) (SS Gb 72 2206 w os).abs (m5 kB):=by
  rw[arm_eval_Dict,XI,XJ,Im];refine Ev.at (Ev.NW Ev.pure ?_);rw[show(SS Gb 72 2206 w os).abs=⟨absHeap (Gb w.params) 72 {},#[],{},2206,os⟩from rfl,<-hh];exact Tj
 have e8:exec kB E=(standAt (De kB)).bind fun ø=>(eval (.Dict (sr kB) (ss kB) (m5 kB)) E).bind uF:=by
  conv=>lhs;rw[Pr]
  rw[arm_exec_Assign,Iq E];rfl
 generalize hD:eval (.Dict (sr kB) (ss kB) (m5 kB)) E=D at*;have hE:(D.bind uF).wrap K (leaveH E) id id=D.wrap (fun v=>(uF v).wrap K (leaveH E) id id) (leaveH E) id id:=by rw[Sem.bind_eq_wrap,nD];rfl
 have hS:(exec kB E).wrap K (leaveH E) id id=(standAt (De kB)).wrap (fun ø=>(D.bind uF).wrap K (leaveH E) id id) (leaveH E) id id:=by rw[e8,Sem.bind_eq_wrap,nD];rfl
 rw[hS];have s1:mm treeTable pq w 11 (some (.ref 6)) 1 (SS NV 33 256 w os).abs ⟨(standAt (De kB)).wrap (fun ø=>(D.bind uF).wrap K (leaveH E) id id) (leaveH E) id id,cE,⟨3,0,4,30⟩,[topFrame fp]⟩ (SS NV 33 256 w os).abs ⟨(D.bind uF).wrap K (leaveH E) id id,cE,De kB,[topFrame fp]⟩:=
  Ev.at (b:=0) Ev.pure (fun ø=>(D.bind uF).wrap K (leaveH E) id id) (leaveH E) id id (topFrame fp) []
 have s2:=hd (fun v=>(uF v).wrap K (leaveH E) id id) (leaveH E) id id (topFrame fp) [];rw[hE]at s1 ⊢;obtain⟨a,ha,s3⟩:=seg_top (res:=id) (K':=K) (H':=leaveH E) (gd:=id) (lv:=id) (B:=[topFrame fp]) rfl 8 (SS Gb 72 2206 w os).abs ⟨(uF (.ref 33)).wrap doneF deadEnd id id,cE,m5 kB,[topFrame fp]⟩ ⟨(uF (.ref 33)).wrap K (leaveH E) id id,cE,m5 kB,[topFrame fp]⟩ _ _ _ _ ⟨rfl,rfl,.inl ⟨rfl,rfl,_,rfl,rfl⟩⟩ (lR (congrFun (XK w) os));obtain rfl:a= .next:=ha
 have s4:topRun treeTable pq w 11 (some (.ref 6)) N (SS Ti 72 2207 w os).abs ⟨K .next,cE,⟨5,0,5,13⟩,[topFrame fp]⟩=some r:=by
  rw[<-hK];exact k
 have s5:=mm.mono (s1.trans s2) (Nat.le_of_ble_eq_true rfl:1+(1+(400*37+1000))<=15992) (8+N) r (s3 N r s4);rw[<-Nat.add_assoc]at s5;exact s5
noncomputable def Pw(P:Params):Obj:=mO (.type "dict") (.dict #[(VA P),(d1 P),(d2 P),(d3 P),(d4 P),(d5 P),(d6 P),(d7 P),(d8 P),(d9 P),(Pj P),(RE P),(SV P),(SW P),(SX P),(SY P),(SZ P)] 17)
noncomputable def L9:Obj:=mO .none (.fields #[(iv 3),(iv 0),(.ref 31),(iv 6),(iv 0),(.ref 77),(iv 12),(iv 0),(.ref 84),(iv 25),(iv 0),(.ref 91),(iv 43),(iv 0),(.ref 98),(iv 55),(iv 0),(.ref 105)])
noncomputable def yZ:Obj:=mO (.type "tuple") (.seq #[(.str Vj 2210),(.str ⟨#[114]⟩ 2211)] 0)
noncomputable def y0:Obj:=mO .none (fD s8 s8 (aO pq.main.body 4) 0 .none .none)
noncomputable def sY:Obj:=cO s8 2207 s8 2208 s3 2209 6 1 0 0 3 72 true 181 73 (.ref 74) (.ref 75) (.ref 76) 2212 6 s3 2213
noncomputable def ms:Obj:=mO (.type "function") (fD s8 s8 (aO pq.main.body 4) 3 (.str s1 187) (.ref 77))
noncomputable def y4:Obj:=mO (.type "tuple") (.seq #[(.str Oz 2220),(.str R5 2221),(.str ⟨#[101,115,99,97,112,101]⟩ 2222),(.str OA 2223)] 0)
noncomputable def y5:Obj:=mO .none (fD s9 s9 (aO pq.main.body 6) 0 .none .none)
noncomputable def sZ:Obj:=cO s9 2217 s9 2218 s3 2219 12 1 0 0 35 79 true 181 80 (.ref 81) (.ref 82) (.ref 83) 2224 12 s3 2225
noncomputable def mt:Obj:=mO (.type "function") (fD s9 s9 (aO pq.main.body 6) 3 (.str Wp 2215) (.ref 84))
noncomputable def y6:Obj:=mO (.type "tuple") (.seq #[(.str Oz 2230),(.str Wq 2231),(.str Zq 2232),(.str Zr 2233),(.str R5 2234),(.str OA 2235)] 0)
noncomputable def y8:Obj:=mO .none (fD Em Em (aO pq.main.body 7) 0 .none .none)
noncomputable def tc:Obj:=cO Em 2227 Em 2228 s3 2229 25 1 0 0 3 86 true 181 87 (.ref 88) (.ref 89) (.ref 90) 2236 25 s3 2237
noncomputable def qe:Obj:=mO (.type "function") (fD Em Em (aO pq.main.body 7) 3 (.str Wp 2215) (.ref 91))
noncomputable def Ma:Obj:=mO (.type "tuple") (.seq #[(.str Oz 2242),(.str ⟨#[111,112,101,110,115]⟩ 2243),(.str R5 2244),(.str OA 2245)] 0)
noncomputable def Mb:Obj:=mO .none (fD Hc Hc (aO pq.main.body 8) 0 .none .none)
noncomputable def ES:Obj:=cO Hc 2239 Hc 2240 s3 2241 43 1 0 0 3 93 true 181 94 (.ref 95) (.ref 96) (.ref 97) 2246 43 s3 2247
noncomputable def qf:Obj:=mO (.type "function") (fD Hc Hc (aO pq.main.body 8) 3 (.str Wp 2215) (.ref 98))
noncomputable def It:Obj:=mO (.type "builtin_function_or_method") (.fields #[(.builtin "type.__prepare__"),(.type "type")])
noncomputable def AX(P:Params):Obj:=mO (.type "dict") (.dict #[(ZN P),(dE P ⟨#[95,95,113,117,97,108,110,97,109,101,95,95]⟩ 2260 (.str CN 2259)),(ZO P),(ZP P),(ZQ P),(ZR P),(ZS P),(ZT P),(ZU P),(ZV P),(ZW P),(ZX P),(ZY P)] 13)
noncomputable def AY:Obj:=mO .none (.fields #[(iv 58),(iv 4),(.ref 115),(iv 81),(iv 4),(.ref 122),(iv 85),(iv 4),(.ref 129),(iv 92),(iv 4),(.ref 136),(iv 95),(iv 4),(.ref 143),(iv 103),(iv 4),(.ref 150),(iv 114),(iv 4),(.ref 157)])
noncomputable def uG:Obj:=cO CN 2253 CN 2254 s3 2255 55 0 0 0 0 103 false 181 104 .none .none .none 2256 55 s3 2257
noncomputable def uH:Obj:={cls:=(.type "frame"),dict:=none,data:=.plain,slots:= #[(some (.ref 105)),(some (.ref 3)),(some (.ref 102)),none,(some (.str s7 2249)),none,(some (.ref 0))]}
noncomputable def uI:Obj:=mO (.type "str_ascii_iterator") (.fields #[.none,(iv 2)])
noncomputable def uJ:Obj:=mO (.type "StopIteration") (.fields #[(.ref 108),.none,.none,.none,(.bool false),.none])
noncomputable def uK:Obj:=mO (.type "tuple") (.seq #[(.str wi 2271),(.str ⟨#[119,115]⟩ 2272),(.str R3 2273),(.str R4 2274),(.str Ro 2275),(.str ⟨#[98]⟩ 2276),(.str Ls 2277),(.str ⟨#[110,116]⟩ 2278),(.str OA 2279)] 0)
noncomputable def uL:Obj:=mO .none (fD Vh Wr (aO (dX (aO pq.main.body 10)) 1) 0 .none .none)
noncomputable def qg:Obj:=cO Vh 2268 Wr 2269 s3 2270 58 2 0 0 3 110 true 181 111 (.ref 112) (.ref 113) (.ref 114) 2280 58 s3 2281
noncomputable def im:Obj:=mO (.type "function") (fD Vh Wr (aO (dX (aO pq.main.body 10)) 1) 3 (.str s7 2249) (.ref 115))
noncomputable def uM:Obj:=mO (.type "tuple") (.seq #[(.str wi 2286),(.str Ro 2287),(.str Vk 2288)] 0)
noncomputable def uN:Obj:=mO .none (fD Hd Ws (aO (dX (aO pq.main.body 10)) 2) 0 .none .none)
noncomputable def qh:Obj:=cO Hd 2283 Ws 2284 s3 2285 81 1 0 0 3 117 true 181 118 (.ref 119) (.ref 120) (.ref 121) 2289 81 s3 2290
noncomputable def jx:Obj:=mO (.type "function") (fD Hd Ws (aO (dX (aO pq.main.body 10)) 2) 3 (.str s7 2249) (.ref 122))
noncomputable def uO:Obj:=mO (.type "tuple") (.seq #[(.str wi 2295),(.str Wt 2296),(.str Ro 2297),(.str Vk 2298),(.str ⟨#[105,108]⟩ 2299),(.str ⟨#[105]⟩ 2300)] 0)
noncomputable def uP:Obj:=mO .none (fD En Wu (aO (dX (aO pq.main.body 10)) 3) 0 .none .none)
noncomputable def qj:Obj:=cO En 2292 Wu 2293 s3 2294 85 2 0 0 3 124 true 181 125 (.ref 126) (.ref 127) (.ref 128) 2301 85 s3 2302
noncomputable def jy:Obj:=mO (.type "function") (fD En Wu (aO (dX (aO pq.main.body 10)) 3) 3 (.str s7 2249) (.ref 129))
noncomputable def uQ:Obj:=mO (.type "tuple") (.seq #[(.str wi 2307),(.str Fx 2308)] 0)
noncomputable def uR:Obj:=mO .none (fD Nw Wv (aO (dX (aO pq.main.body 10)) 4) 0 .none .none)
noncomputable def qk:Obj:=cO Nw 2304 Wv 2305 s3 2306 92 2 0 0 3 131 true 181 132 (.ref 133) (.ref 134) (.ref 135) 2309 92 s3 2310
noncomputable def jz:Obj:=mO (.type "function") (fD Nw Wv (aO (dX (aO pq.main.body 10)) 4) 3 (.str s7 2249) (.ref 136))
noncomputable def uS:Obj:=mO (.type "tuple") (.seq #[(.str wi 2315),(.str Fx 2316),(.str Ls 2317),(.str ⟨#[97]⟩ 2318),(.str Rp 2319)] 0)
noncomputable def uT:Obj:=mO .none (fD Nx Ww (aO (dX (aO pq.main.body 10)) 5) 0 .none .none)
noncomputable def ql:Obj:=cO Nx 2312 Ww 2313 s3 2314 95 2 0 0 3 138 true 181 139 (.ref 140) (.ref 141) (.ref 142) 2320 95 s3 2321
noncomputable def jA:Obj:=mO (.type "function") (fD Nx Ww (aO (dX (aO pq.main.body 10)) 5) 3 (.str s7 2249) (.ref 143))
noncomputable def uU:Obj:=mO (.type "tuple") (.seq #[(.str wi 2326),(.str Fx 2327),(.str Ls 2328),(.str Rp 2329)] 0)
noncomputable def uV:Obj:=mO .none (fD Ny Wx (aO (dX (aO pq.main.body 10)) 6) 0 .none .none)
noncomputable def qm:Obj:=cO Ny 2323 Wx 2324 s3 2325 103 2 0 0 3 145 true 181 146 (.ref 147) (.ref 148) (.ref 149) 2330 103 s3 2331
noncomputable def jB:Obj:=mO (.type "function") (fD Ny Wx (aO (dX (aO pq.main.body 10)) 6) 3 (.str s7 2249) (.ref 150))
noncomputable def uW:Obj:=mO (.type "tuple") (.seq #[(.str wi 2336),(.str Fx 2337),(.str Ls 2338),(.str ⟨#[97]⟩ 2339),(.str Rp 2340)] 0)
noncomputable def Iu:Obj:=mO .none (fD Nz Wy (aO (dX (aO pq.main.body 10)) 7) 0 .none .none)
noncomputable def AZ:Obj:=cO Nz 2333 Wy 2334 s3 2335 114 2 0 0 3 152 true 181 153 (.ref 154) (.ref 155) (.ref 156) 2341 114 s3 2342
noncomputable def nR:Obj:=mO (.type "function") (fD Nz Wy (aO (dX (aO pq.main.body 10)) 7) 3 (.str s7 2249) (.ref 157))
noncomputable def Iv:Obj:=mO (.type "tuple") (.seq #[(.str ⟨#[105,115,95,115,105,109,112,108,101]⟩ 2344),(.str Ls 2345),(.str ⟨#[110,111,114,109]⟩ 2346),(.str ⟨#[110,116]⟩ 2347),(.str ⟨#[114,97,119]⟩ 2348)] 0)
noncomputable def io(P:Params):Obj:=mO (.type "dict") (.dict #[(ZN P),(ZO P),(ZP P),(ZQ P),(ZR P),(ZS P),(ZT P),(ZU P),(ZV P),(ZW P),(ZX P),(ZY P),(dE P Zs 2351 (.ref 162)),(dE P Zt 2353 (.ref 163)),(dE P s2 2354 .none)] 4)
noncomputable def uX:Obj:={cls:=(.type "type"),dict:=none,data:=(.cls {name:=CN,bases:=[(.type "object")],mro:=[(.ref 161),(.type "object")],ns:=160,qualname:=CN,hasDict:=true,slotNames:=[],subclasses:=[],abstract:=false,collection:=none,hasDel:=false}),slots:= #[none,none,(some (.str CN 2251)),(some (.str CN 2259)),(some (.builtin "object.__new__")),(some (.bool true))]}
noncomputable def Iw:Obj:=mO (.type "getset_descriptor") (.fields #[(.str Zs 2350),(.ref 161),(.builtin "function.__dict__"),(.builtin "function.__dict__#set")])
noncomputable def Ix:Obj:=mO (.type "getset_descriptor") (.fields #[(.str Zt 2352),(.ref 161),(.builtin "ExceptionGroup.__weakref__"),.none])
noncomputable def Iy:Obj:=mO (.type "super") (.fields #[(.ref 161),(.ref 161),(.ref 161)])
noncomputable def Iz:Obj:=mO (.type "builtin_function_or_method") (.fields #[(.builtin "object.__init_subclass__"),(.ref 161)])
noncomputable def b8:BT:=(.node Ma (lf Iv) .nil)
noncomputable def b9:BT:=(.node rE (.node rJ (.node yQ (lf aq) .nil) b8) (.node yA (.node aq (lf ql) .nil) (lf bb)))
noncomputable def b10:BT:=(.node yY (lf uR) .nil)
noncomputable def b11:BT:=(.node yI (.node bb (lf jB) .nil) (lf uM))
noncomputable def XM(P:Params):BT:=(.node (boot_o_7 P) b9 (.node pA (.node uC b10 (lf aq)) b11))
noncomputable def XN:BT:=(.node qf (lf Ix) .nil)
noncomputable def XO:BT:=(.node aq (lf bb) .nil)
noncomputable def V1:BT:=(.node aq (.node aq (.node yq (.node yU (lf aq) .nil) XN) (.node yE (.node y5 (lf uU) .nil) (lf qg))) (.node bb (.node yw XO (lf uI)) (.node yM (.node tc (lf aq) .nil) (lf jx))))
noncomputable def XQ:BT:=(.node Mb (lf uX) .nil)
noncomputable def XR:BT:=(.node It (lf Iz) .nil)
noncomputable def XS:BT:=(.node aq (lf AZ) .nil)
noncomputable def V2(P:Params):BT:=(.node (boot_o_5 P) (.node (boot_o_9 P) (.node ur (.node rL (.node yS (lf qj) .nil) XQ) (.node yC (.node y4 (lf aq) .nil) (lf aq))) (.node ut (.node yu (.node bb (lf jz) .nil) (lf uG)) (.node yK XO (lf uN)))) (.node nQ (.node rI (.node yt (.node yW (lf uQ) .nil) XR) (.node yG (.node mt (lf uV) .nil) (lf aq))) (.node aq (.node yy (.node sY (lf aq) .nil) (lf uJ)) (.node yO XS (lf bb)))))
noncomputable def XU(P:Params):BT:=(.node aq (lf (io P)) .nil)
noncomputable def b21(P:Params):BT:=(.node rF (.node mj (.node yR (lf uP) .nil) (XU P)) (.node yB (.node bb (lf jA) .nil) (lf uK)))
noncomputable def b22:BT:=(.node aq (lf qk) .nil)
noncomputable def b23:BT:=(.node yJ (.node y6 (lf aq) .nil) (lf aq))
noncomputable def XV:BT:=(.node aq (lf Iy) .nil)
noncomputable def XW:BT:=(.node qe (lf Iu) .nil)
noncomputable def b26:BT:=(.node L9 (.node rH (.node yr (.node yV (lf bb) .nil) XV) (.node yF (.node sZ (lf aq) .nil) (lf im))) (.node uu (.node yx (.node y0 (lf uS) .nil) (lf aq)) (.node yN XW (lf aq))))
noncomputable def XX:BT:=(.node ES (lf Iw) .nil)
noncomputable def b28(P:Params):BT:=(.node (boot_o_10 P) (.node rG (.node yp (.node yT (lf jy) .nil) XX) (.node yD XO (lf uL))) (.node aq (.node yv (.node yZ (lf aq) .nil) (lf uH)) (.node yL (.node y8 (lf uW) .nil) (lf qh))))
noncomputable def b29:BT:=(.node yX (lf aq) .nil)
noncomputable def b30:BT:=(.node yH (.node aq (lf qm) .nil) (lf bb))
noncomputable def XY:BT:=(.node bb (lf nR) .nil)
noncomputable def b32:BT:=(.node uv (.node yz (.node ms (lf uT) .nil) (lf aq)) (.node yP XY (lf uO)))
noncomputable def XZ(P:Params):BT:=(.node (boot_o_2 P) (.node (boot_o_4 P) (.node (boot_o_8 P) (b21 P) (.node aq (.node uD b22 (lf AY)) b23)) b26) (.node (boot_o_6 P) (b28 P) (.node mi (.node (iF P) (.node uB b29 (lf (AX P))) b30) b32)))
noncomputable def Px(P:Params):BT:=(.node (boot_o_0 P) (.node (boot_o_1 P) (.node (Pw P) (XM P) V1) (V2 P)) (XZ P))
noncomputable def Py(P:Params):Obj:=mO (.type "dict") (.dict #[(VA P),(d1 P),(d2 P),(d3 P),(d4 P),(d5 P),(d6 P),(d7 P),(d8 P),(d9 P),(Pj P),(RE P),(SV P),(SW P),(SX P),(SY P),(SZ P),(VB P),(VC P),(VD P),(VE P),(VF P),(VG P),(VH P),(VI P),(VJ P),(VK P),(VL P),(VM P),(VN P),(VO P),(VP P),(VR P),(VS P),(VT P),(VU P),(VV P),(VW P),(VX P),(VY P),(VZ P)] 41)
noncomputable def Tk(P:Params):BT:=(.node (boot_o_0 P) (.node (boot_o_1 P) (.node (Py P) (XM P) V1) (V2 P)) (XZ P))
noncomputable def Pz(P:Params):Obj:=mO (.type "dict") (.dict #[(VA P),(d1 P),(d2 P),(d3 P),(d4 P),(d5 P),(d6 P),(d7 P),(d8 P),(d9 P),(Pj P),(RE P),(SV P),(SW P),(SX P),(SY P),(SZ P),(VB P),(VC P),(VD P),(VE P),(VF P),(VG P),(VH P),(VI P),(VJ P),(VK P),(VL P),(VM P),(VN P),(VO P),(VP P),(VR P),(VS P),(VT P),(VU P),(VV P),(VW P),(VX P),(VY P),(VZ P),(Xb P),(Xc P),(Xd P),(Xe P),(Xf P),(Xg P),(Xh P),(Xi P),(Xj P),(Xk P),(Xl P),(Xm P),(Xn P),(Xo P),(Xp P),(Xq P),(Xr P),(Xs P),(Xu P),(Xv P),(Xw P),(Xx P),(Xy P),(Xz P)] 65)
noncomputable def PA(P:Params):BT:=(.node (boot_o_0 P) (.node (boot_o_1 P) (.node (Pz P) (XM P) V1) (V2 P)) (XZ P))
noncomputable def PB(P:Params):Obj:=mO (.type "dict") (.dict #[(VA P),(d1 P),(d2 P),(d3 P),(d4 P),(d5 P),(d6 P),(d7 P),(d8 P),(d9 P),(Pj P),(RE P),(SV P),(SW P),(SX P),(SY P),(SZ P),(VB P),(VC P),(VD P),(VE P),(VF P),(VG P),(VH P),(VI P),(VJ P),(VK P),(VL P),(VM P),(VN P),(VO P),(VP P),(VR P),(VS P),(VT P),(VU P),(VV P),(VW P),(VX P),(VY P),(VZ P),(Xb P),(Xc P),(Xd P),(Xe P),(Xf P),(Xg P),(Xh P),(Xi P),(Xj P),(Xk P),(Xl P),(Xm P),(Xn P),(Xo P),(Xp P),(Xq P),(Xr P),(Xs P),(Xu P),(Xv P),(Xw P),(Xx P),(Xy P),(Xz P),(ZZ P)] 66)
noncomputable def fc(P:Params):Obj:=mO (.type "dict") (.dict #[(dE P ⟨#[33]⟩ 2453 (.int (54) 2451)),(dE P ⟨#[33,61]⟩ 2455 (.int (28) 2399)),(dE P ⟨#[37]⟩ 2457 (.int (24) 2391)),(dE P ⟨#[37,61]⟩ 2459 (.int (40) 2423)),(dE P ⟨#[38]⟩ 2461 (.int (19) 2381)),(dE P ⟨#[38,61]⟩ 2463 (.int (41) 2425)),(dE P ⟨#[40]⟩ 2465 (.int (7) 2357)),(dE P ⟨#[41]⟩ 2467 (.int (8) 2359)),(dE P ⟨#[42]⟩ 2469 (.int (16) 2375)),(dE P ⟨#[42,42]⟩ 2471 (.int (35) 2413)),(dE P ⟨#[42,42,61]⟩ 2473 (.int (46) 2435)),(dE P ⟨#[42,61]⟩ 2475 (.int (38) 2419)),(dE P ⟨#[43]⟩ 2477 (.int (14) 2371)),(dE P ⟨#[43,61]⟩ 2479 (.int (36) 2415)),(dE P ⟨#[44]⟩ 2481 (.int (12) 2367)),(dE P ⟨#[45]⟩ 2483 (.int (15) 2373)),(dE P ⟨#[45,61]⟩ 2485 (.int (37) 2417)),(Z0 P),(Z1 P),(Z2 P),(Z3 P),(Z4 P),(Z5 P),(Z6 P),(Z7 P),(Z8 P),(Z9 P),(d89 P),(d90 P),(d91 P),(d92 P),(d93 P),(d94 P),(d95 P),(d96 P),(d97 P),(d98 P),(d99 P),(S2 P),(S3 P),(S4 P),(S5 P),(S6 P),(S7 P),(S8 P),(S9 P),(Ta P),(Tb P)] 48)
noncomputable def IB(P:Params):Obj:=mO (.type "dict") (.dict #[(Z0 P),(Z1 P),(Z2 P),(Z3 P),(Z4 P),(Z5 P),(Z6 P),(Z7 P),(Z8 P),(Z9 P),(d89 P),(d90 P),(d91 P),(d92 P),(d93 P),(d94 P),(d95 P)] 17)
noncomputable def IC(P:Params):Obj:=mO (.type "dict") (.dict #[(d96 P),(d97 P),(d98 P),(d99 P),(S2 P),(S3 P),(S4 P),(S5 P),(S6 P),(S7 P),(S8 P),(S9 P),(Ta P),(Tb P)] 14)
noncomputable def X0(P:Params):BT:=(.node aq (lf (IB P)) .nil)
noncomputable def X1(P:Params):BT:=(.node AY (lf (IC P)) .nil)
noncomputable def X2(P:Params):BT:=(.node (AX P) (lf (fc P)) .nil)
noncomputable def PC(P:Params):BT:=(.node (boot_o_0 P) (.node (boot_o_1 P) (.node (PB P) (.node (boot_o_7 P) b9 (.node pA (.node uC b10 (X0 P)) b11)) V1) (V2 P)) (.node (boot_o_2 P) (.node (boot_o_4 P) (.node (boot_o_8 P) (b21 P) (.node aq (.node uD b22 (X1 P)) b23)) b26) (.node (boot_o_6 P) (b28 P) (.node mi (.node (iF P) (.node uB b29 (X2 P)) b30) b32))))
noncomputable def nS(P:Params):Obj:=mO (.type "dict") (.dict #[(dE P s0 165 (.str K6 2550)),(d1 P),(d2 P),(d3 P),(d4 P),(d5 P),(d6 P),(d7 P),(d8 P),(d9 P),(Pj P),(RE P),(SV P),(SW P),(SX P),(SY P),(SZ P),(VB P),(VC P),(VD P),(VE P),(VF P),(VG P),(VH P),(VI P),(VJ P),(VK P),(VL P),(VM P),(VN P),(VO P),(VP P),(VR P),(VS P),(VT P),(VU P),(VV P),(VW P),(VX P),(VY P),(VZ P),(Xb P),(Xc P),(Xd P),(Xe P),(Xf P),(Xg P),(Xh P),(Xi P),(Xj P),(Xk P),(Xl P),(Xm P),(Xn P),(Xo P),(Xp P),(Xq P),(Xr P),(Xs P),(Xu P),(Xv P),(Xw P),(Xx P),(Xy P),(Xz P),(ZZ P),(dE P K7 2557 (.ref 173)),(dE P He 2566 (.ref 180)),(dE P K8 2572 (.ref 185)),(dE P K9 2585 (.ref 192)),(dE P La 2599 (.ref 199)),(dE P Lb 2605 (.ref 204)),(dE P Lc 2611 (.ref 209)),(dE P Ld 2617 (.ref 214)),(dE P OC 2623 (.ref 219))] 75)
noncomputable def ET:Obj:=mO .none (.fields #[(iv 3),(iv 0),(.ref 31),(iv 6),(iv 0),(.ref 77),(iv 12),(iv 0),(.ref 84),(iv 25),(iv 0),(.ref 91),(iv 43),(iv 0),(.ref 98),(iv 55),(iv 0),(.ref 105),(iv 171),(iv 0),(.ref 172),(iv 185),(iv 0),(.ref 179),(iv 189),(iv 0),(.ref 184),(iv 198),(iv 0),(.ref 191),(iv 209),(iv 0),(.ref 198),(iv 224),(iv 0),(.ref 203),(iv 235),(iv 0),(.ref 208),(iv 244),(iv 0),(.ref 213),(iv 257),(iv 0),(.ref 218)])
noncomputable def A0:Obj:=mO .none (fD K7 K7 (aO pq.main.body 61) 0 .none .none)
noncomputable def uY:Obj:=cO K7 2552 K7 2553 s3 2554 171 1 0 0 3 169 true 181 170 .none .none (.ref 171) 2555 171 s3 2556
noncomputable def lj:Obj:=mO (.type "function") (fD K7 K7 (aO pq.main.body 61) 3 (.str K6 2550) (.ref 172))
noncomputable def A1:Obj:=mO (.type "tuple") (.seq #[(.str Lu 2561),(.str ⟨#[101,100,103,101,115]⟩ 2562),(.str Zu 2563)] 0)
noncomputable def A2:Obj:=mO .none (fD He He (aO pq.main.body 62) 0 .none .none)
noncomputable def uZ:Obj:=cO He 2558 He 2559 s3 2560 185 1 0 0 3 174 true 181 175 (.ref 176) (.ref 177) (.ref 178) 2564 185 s3 2565
noncomputable def ll:Obj:=mO (.type "function") (fD He He (aO pq.main.body 62) 3 (.str K6 2550) (.ref 179))
noncomputable def A3:Obj:=mO .none (fD K8 K8 (aO pq.main.body 63) 0 .none .none)
noncomputable def u0:Obj:=cO K8 2567 K8 2568 s3 2569 189 3 0 0 3 181 true 181 182 .none .none (.ref 183) 2570 189 s3 2571
noncomputable def lm:Obj:=mO (.type "function") (fD K8 K8 (aO pq.main.body 63) 3 (.str K6 2550) (.ref 184))
noncomputable def A4:Obj:=mO (.type "tuple") (.seq #[(.str Le 2576),(.str Lu 2577),(.str R6 2578),(.str R7 2579),(.str Rq 2580),(.str OD 2581),(.str Zv 2582)] 0)
noncomputable def A5:Obj:=mO .none (fD K9 K9 (aO pq.main.body 64) 0 .none .none)
noncomputable def u3:Obj:=cO K9 2573 K9 2574 s3 2575 198 2 0 0 3 186 true 181 187 (.ref 188) (.ref 189) (.ref 190) 2583 198 s3 2584
noncomputable def ln:Obj:=mO (.type "function") (fD K9 K9 (aO pq.main.body 64) 3 (.str K6 2550) (.ref 191))
noncomputable def A6:Obj:=mO (.type "tuple") (.seq #[(.str R6 2589),(.str ⟨#[108,101,102,116]⟩ 2590),(.str Hf 2591),(.str Hg 2592),(.str Wz 2593),(.str R8 2594),(.str ⟨#[117,110,105,116]⟩ 2595),(.str WA 2596)] 0)
noncomputable def A7:Obj:=mO .none (fD La La (aO pq.main.body 65) 0 .none .none)
noncomputable def u4:Obj:=cO La 2586 La 2587 s3 2588 209 1 0 0 3 193 true 181 194 (.ref 195) (.ref 196) (.ref 197) 2597 209 s3 2598
noncomputable def lp:Obj:=mO (.type "function") (fD La La (aO pq.main.body 65) 3 (.str K6 2550) (.ref 198))
noncomputable def A8:Obj:=mO .none (fD Lb Lb (aO pq.main.body 66) 0 .none .none)
noncomputable def u5:Obj:=cO Lb 2600 Lb 2601 s3 2602 224 1 0 0 3 200 true 181 201 .none .none (.ref 202) 2603 224 s3 2604
noncomputable def lq:Obj:=mO (.type "function") (fD Lb Lb (aO pq.main.body 66) 3 (.str K6 2550) (.ref 203))
noncomputable def A9:Obj:=mO .none (fD Lc Lc (aO pq.main.body 67) 0 .none .none)
noncomputable def u6:Obj:=cO Lc 2606 Lc 2607 s3 2608 235 3 0 0 3 205 true 181 206 .none .none (.ref 207) 2609 235 s3 2610
noncomputable def lr:Obj:=mO (.type "function") (fD Lc Lc (aO pq.main.body 67) 3 (.str K6 2550) (.ref 208))
noncomputable def Ba:Obj:=mO .none (fD Ld Ld (aO pq.main.body 68) 0 .none .none)
noncomputable def u7:Obj:=cO Ld 2612 Ld 2613 s3 2614 244 2 0 0 3 210 true 181 211 .none .none (.ref 212) 2615 244 s3 2616
noncomputable def jC:Obj:=mO (.type "function") (fD Ld Ld (aO pq.main.body 68) 3 (.str K6 2550) (.ref 213))
noncomputable def Bb:Obj:=mO .none (fD OC OC (aO pq.main.body 69) 0 .none .none)
noncomputable def Bc:Obj:=cO OC 2618 OC 2619 s3 2620 257 1 0 0 3 215 true 181 216 .none .none (.ref 217) 2621 257 s3 2622
noncomputable def Bd:Obj:=mO (.type "function") (fD OC OC (aO pq.main.body 69) 3 (.str K6 2550) (.ref 218))
noncomputable def V3:BT:=(.node bb (lf bb) .nil)
noncomputable def Tl(P:Params):BT:=(.node (boot_o_0 P) (.node (boot_o_1 P) (.node (nS P) (.node (boot_o_7 P) (.node rE (.node rJ (.node yQ (lf aq) (lf u3)) b8) (.node yA (.node aq (lf ql) (lf A9)) V3)) (.node pA (.node uC (.node yY (lf uR) (lf lp)) (X0 P)) (.node yI (.node bb (lf jB) (lf aq)) (.node uM (lf A3) .nil)))) (.node aq (.node aq (.node yq (.node yU (lf aq) (lf A6)) XN) (.node yE (.node y5 (lf uU) (lf bb)) (.node qg (lf uZ) .nil))) (.node bb (.node yw (.node aq (lf bb) (lf u5)) (.node uI (lf A0) .nil)) (.node yM (.node tc (lf aq) (lf Bd)) (.node jx (lf bb) .nil))))) (.node (boot_o_5 P) (.node (boot_o_9 P) (.node ur (.node rL (.node yS (lf qj) (lf aq)) XQ) (.node yC (.node y4 (lf aq) (lf lr)) b2)) (.node ut (.node yu (.node bb (lf jz) (lf bb)) (.node uG (lf aq) .nil)) (.node yK (.node aq (lf bb) (lf Bb)) (.node uN (lf lm) .nil)))) (.node nQ (.node rI (.node yt (.node yW (lf uQ) (lf A7)) XR) (.node yG (.node mt (lf uV) (lf u7)) b2)) (.node aq (.node yy (.node sY (lf aq) (lf aq)) (.node uJ (lf lj) .nil)) (.node yO XS (.node bb (lf aq) .nil)))))) (.node (boot_o_2 P) (.node (boot_o_4 P) (.node (boot_o_8 P) (.node rF (.node mj (.node yR (lf uP) (lf ln)) (XU P)) (.node yB (.node bb (lf jA) (lf u6)) (.node uK (lf A1) .nil))) (.node aq (.node uD (.node aq (lf qk) (lf aq)) (X1 P)) (.node yJ (.node y6 (lf aq) (lf bb)) (.node aq (lf u0) .nil)))) (.node ET (.node rH (.node yr (.node yV (lf bb) (lf aq)) XV) (.node yF (.node sZ (lf aq) (lf Ba)) (.node im (lf ll) .nil))) (.node uu (.node yx (.node y0 (lf uS) (lf lq)) (.node aq (lf uY) .nil)) (.node yN XW (.node aq (lf A4) .nil))))) (.node (boot_o_6 P) (.node (boot_o_10 P) (.node rG (.node yp (.node yT (lf jy) (lf bb)) XX) (.node yD (.node aq (lf bb) (lf aq)) (.node uL (lf A2) .nil))) (.node aq (.node yv (.node yZ (lf aq) (lf A8)) (.node uH (lf bb) .nil)) (.node yL (.node y8 (lf uW) (lf Bc)) (.node qh (lf aq) .nil)))) (.node mi (.node (iF P) (.node uB (.node yX (lf aq) (lf u4)) (X2 P)) (.node yH (.node aq (lf qm) (lf jC)) V3)) (.node uv (.node yz (.node ms (lf uT) (lf bb)) b2) (.node yP XY (.node uO (lf A5) .nil)))))))
noncomputable def RI(P:Params):BT:=(.node (boot_o_0 P) (.node (boot_o_1 P) (.node (nS P) (.node (boot_o_7 P) (.node rE (.node rJ (.node yQ (lf aq) (lf u3)) b8) (.node yA (.node aq (lf ql) (lf A9)) V3)) (.node pA (.node uC (.node yY (lf uR) (lf lp)) (X0 P)) (.node yI (.node bb (lf jB) (lf aq)) (.node uM (lf A3) .nil)))) (.node aq (.node aq (.node yq (.node yU (lf aq) (lf A6)) XN) (.node yE (.node y5 (lf uU) (lf bb)) (.node qg (lf uZ) .nil))) (.node bb (.node yw (.node aq (lf bb) (lf u5)) (.node uI (lf A0) .nil)) (.node yM (.node tc (lf aq) (lf Bd)) (.node jx (lf bb) .nil))))) (.node (boot_o_5 P) (.node (boot_o_9 P) (.node ur (.node rL (.node yS (lf qj) (lf aq)) XQ) (.node yC (.node y4 (lf aq) (lf lr)) b2)) (.node ut (.node yu (.node bb (lf jz) (lf bb)) (.node uG (lf aq) .nil)) (.node yK (.node aq (lf bb) (lf Bb)) (.node uN (lf lm) .nil)))) (.node nQ (.node rI (.node yt (.node yW (lf uQ) (lf A7)) XR) (.node yG (.node mt (lf uV) (lf u7)) b2)) (.node aq (.node yy (.node sY (lf aq) (lf aq)) (.node uJ (lf lj) .nil)) (.node yO XS (.node bb (lf aq) .nil)))))) (.node (boot_o_2 P) (.node (boot_o_4 P) (.node (boot_o_8 P) (.node rF (.node mj (.node yR (lf uP) (lf ln)) (XU P)) (.node yB (.node bb (lf jA) (lf u6)) (.node uK (lf A1) .nil))) (.node aq (.node uD (.node aq (lf qk) (lf aq)) (X1 P)) (.node yJ (.node y6 (lf aq) (lf bb)) (.node aq (lf u0) .nil)))) (.node ET (.node rH (.node yr (.node yV (lf bb) (lf aq)) XV) (.node yF (.node sZ (lf aq) (lf Ba)) (.node im (lf ll) .nil))) (.node uu (.node yx (.node y0 (lf uS) (lf lq)) (.node aq (lf uY) .nil)) (.node yN XW (.node aq (lf A4) .nil))))) (.node (boot_o_6 P) (.node (boot_o_10 P) (.node rG (.node yp (.node yT (lf jy) (lf bb)) XX) (.node yD (.node aq (lf bb) (lf aq)) (.node uL (lf A2) .nil))) (.node aq (.node yv (.node yZ (lf aq) (lf A8)) (.node uH (lf bb) .nil)) (.node yL (.node y8 (lf uW) (lf Bc)) (.node qh (lf aq) .nil)))) (.node mi (.node (iF P) (.node uB (.node yX (lf aq) (lf u4)) (X2 P)) (.node yH (.node aq (lf qm) (lf jC)) V3)) (.node uv (.node yz (.node ms (lf uT) (lf bb)) b2) (.node yP XY (.node uO (lf A5) .nil)))))))
noncomputable def ID(w:World):Prop:=(fun os=>segRunT treeTable pq w 11 (some (.ref 6)) 1 700 (SS Ti 72 2207 w os) (piecesOf (seg 4 7) E cE ⟨5,0,5,13⟩ [topFrame fp]))=fun os=>some (.next,SS Px 166 2357 w os,cE,⟨55,0,120,16⟩)
theorem Tm(w:World):ID (w.withFollow "special-get-raises" false):=by
 unfold ID;rw[jV,gx]
 kernel_rfl!
theorem Tn(w:World):ID (w.withFollow "special-get-raises" true):=by
 unfold ID;rw[jV,gx]
 kernel_rfl!
theorem X3(w:World):(fun os=>segRunT treeTable pq w 11 (some (.ref 6)) 1 700 (SS Ti 72 2207 w os) (piecesOf (seg 4 7) E cE ⟨5,0,5,13⟩ [topFrame fp]))=fun os=>some (.next,SS Px 166 2357 w os,cE,⟨55,0,120,16⟩):=byRow2 "special-get-raises" (P:=ID) Tm Tn w
theorem X4(w:World):(fun os=>segRunT treeTable pq w 11 (some (.ref 6)) 1 217 (SS Px 166 2357 w os) (piecesOf (seg 11 24) E cE ⟨55,0,120,16⟩ [topFrame fp]))=fun os=>some (.next,SS Tk 166 2405 w os,cE,⟨144,0,144,12⟩):=by
 rw[jV,gx]
 kernel_rfl!
theorem X5(w:World):(fun os=>segRunT treeTable pq w 11 (some (.ref 6)) 1 217 (SS Tk 166 2405 w os) (piecesOf (seg 35 24) E cE ⟨144,0,144,12⟩ [topFrame fp]))=fun os=>some (.next,SS PA 166 2453 w os,cE,⟨168,0,168,11⟩):=by
 rw[jV,gx]
 kernel_rfl!
noncomputable def IE(w:World):Prop:=(fun os=>segRunT treeTable pq w 11 (some (.ref 6)) 1 979 (SS PA 166 2453 w os) (piecesOf (seg 59 1) E cE ⟨168,0,168,11⟩ [topFrame fp]))=fun os=>some (.next,SS PC 169 2550 w os,cE,⟨169,0,169,17⟩)
theorem To(w:World):IE (w.withFollow "special-get-raises" false):=by
 unfold IE;rw[jV,gx]
 kernel_rfl!
theorem Tp(w:World):IE (w.withFollow "special-get-raises" true):=by
 unfold IE;rw[jV,gx]
 kernel_rfl!
theorem X6(w:World):(fun os=>segRunT treeTable pq w 11 (some (.ref 6)) 1 979 (SS PA 166 2453 w os) (piecesOf (seg 59 1) E cE ⟨168,0,168,11⟩ [topFrame fp]))=fun os=>some (.next,SS PC 169 2550 w os,cE,⟨169,0,169,17⟩):=byRow2 "special-get-raises" (P:=IE) To Tp w
theorem X7(w:World):(fun os=>segRunT treeTable pq w 11 (some (.ref 6)) 1 300 (SS PC 169 2550 w os) (piecesOf (seg 60 10) E cE ⟨169,0,169,17⟩ [topFrame fp]))=fun os=>some (.next,SS Tl 220 2624 w os,cE,⟨257,0,276,15⟩):=by
 rw[jV,gx]
 kernel_rfl!
theorem Tq(w:World):(fun os=>topRun treeTable pq w 11 (some (.ref 6)) 2 (SS Tl 220 2624 w os).abs ⟨doneF .next,cE,⟨257,0,276,15⟩,[topFrame fp]⟩)=fun os=>some (SS RI 220 2624 w os).abs:=by
 rw[PySem.W.Fast.te14082659384304107361,gx]
 kernel_rfl!
theorem Mc:behindTheImports pq=seg 0 1++(seg 1 1++(seg 2 1++(seg 3 1++(seg 4 7++(seg 11 24++(seg 35 24++(seg 59 1++(seg 60 10++[])))))))):=by kernel_rfl!
theorem Tr(w:World)(os:OsState):topRun treeTable pq w 11 (some (.ref 6)) (12+(1+(10+(999+(30+(16000+(700+(217+(217+(979+(300+2))))))))))) ⟨boot_heap w.params,#[],boot_drawn,boot_toks,os⟩ (topStub pq)=some (SS RI 220 2624 w os).abs:=by
 refine go_top (congrFun (Te w) os) ?_;refine piece_block (congrFun (L4 w) os) ?_;have k9:=nF (rest:=[]) (lR (congrFun (X7 w) os)) (piece_nil (congrFun (Tq w) os));have k8:=nF (lR (congrFun (X6 w) os)) k9;have k7:=nF (lR (congrFun (X5 w) os)) k8;have k6:=nF (lR (congrFun (X4 w) os)) k7;have k5:=nF (lR (congrFun (X3 w) os)) k6;have k4:=h_8 w os k5;have k3:=nF (lR (congrFun (h_2 w) os)) k4;have k2:=nF (lR (congrFun (h_1 w) os)) k3;have k1:=nF (lR (congrFun (h_0 w) os)) k2;rw[<-Mc]at k1;exact k1
noncomputable def VQ:Program:={pq with main:={pq.main with body:=seg 69 1} }
noncomputable def LS:List Str:=pq.boundNames.filter fun x=>!(x==(Str.ofString "law"))
noncomputable def HZ(P:Params):Heap:=absHeap (RI P) 220 {}
theorem PD(w:World):((boot_heap w.params).isNs mainGlobals&&(#[]:Array GenState).size==0,(boot_heap w.params).objs.size,(boot_heap w.params).nsMap mainGlobals "__annotations__")=(true,11,some (.ref 6)):=by kernel_rfl!
theorem Md(w:World):(fun os=>(staticsOk (importedModules pq.main.body) (boot_heap w.params) (HZ w.params)&&namesBound pq (HZ w.params)&&gensDone ⟨HZ w.params,#[],{},2624,os⟩&&laidKept (boot_heap w.params) (HZ w.params)))=fun(_:OsState)=>true:=by kernel_rfl!
noncomputable def XT(s:Shared):Bool:=recOk (RowW.records (OpenRow.toRowW (OpenLaw.row PySem.Challenge.rw_sl0032_02))) s
theorem Me(w:World):(fun os=>openSeen VQ LS (importedModules pq.main.body) XT true ⟨HZ w.params,#[],{},2624,os⟩)=fun ø=>openGood VQ LS:=by
 rw[PySem.W.Fast.te4187177175401517315]
 kernel_rfl!
theorem PE:LeftO pq VQ LS XT (fun s=>s.heap) (fun w=>HZ w.params) 40000 true:=
 LeftO.of_pieces (H₀:=boot_heap) (H₁:=HZ) (gs₀:=Array.mk []) (gs₁:= #[]) (d₀:=boot_drawn) (d₁:={}) (k₀:=boot_toks) (k₁:=2624) (m₀:=11) (ann:=some (.ref 6)) (M:=12+(1+(10+(999+(30+(16000+(700+(217+(217+(979+(300+2)))))))))))
  (boot_open (by kernel_rfl!) (by decide) fun s=>by kernel_rfl!) PD Tr (by decide)
  fun w=>by
   funext os
   exact Prod.ext (congrFun (Md w) os) (Prod.ext (congrFun (Me w) os) rfl)
noncomputable def rq:OpenLaw:={prog:=pq,name:=(PySem.Str.ofString "law"),about:=[(PySem.Str.ofString "map_table_b3")],foot:=9,most:=some 63,bound:=none,writes:=false}
theorem Ts:PySem.Challenge.rw_sl0032_02=rq:=congrArg (fun p=>({prog:=p,name:=(PySem.Str.ofString "law"),about:=[(PySem.Str.ofString "map_table_b3")],foot:=9,most:=some 63,bound:=none,writes:=false}:OpenLaw)) ST
theorem Tt:OpenLaw.wellSaid rq=true:=by
 rw[PySem.W.Fast.te9446332074065402090]
 delta PySem.W.Fast.tw9446332074065402090 PySem.W.Fast.tw17960256430627541270 PySem.W.Fast.tw2436336058641802641 PySem.W.Fast.tw12908688711261696721
 repeat' (with_reducible refine look_both ?_ ?_)
 all_goals as_aux_lemma=>kernel_rfl!
noncomputable abbrev RW:OpenRow:=OpenLaw.row rq
noncomputable def oA:DefRec:=⟨Str.ofString "law",SU (aO pq.main.body 69),dW (aO pq.main.body 69),kA (aO pq.main.body 69),(aO pq.main.body 69).pos⟩
noncomputable abbrev YP(w:World)(h:Heap):Prop:=∀a o,(HZ w.params).get? a=some o->h.get? a=some o
theorem top_holds(hw:RW.toRowW.promised)(walk:WalkO VQ LS (fun ø ø=>True) YP RW.toRowW oA [] fun f vs=>PySem.call f vs):PySem.Challenge.rw_sl0032_02.Holds:=by
 rw[Ts];refine holds_law Tt fun X8=>?_
 have hl:=PE;exact PySem.W.holds_open (q:=VQ) (loose:=LS) (Xt:=XT) (XP:=fun ø ø=>True) (Yf:=fun s=>s.heap) (Ya:=fun w=>HZ w.params) (YP:=YP) (N:=40000) hl
  (fun w s e a o h=>by rw[show s.heap=HZ w.params from e];exact h) (fun w h h' y k a o e=>k a o (y a o e)) (fun ø ø=>trivial) (fun ø ø ø ø ø=>trivial)
  (d:=oA) (kwd:=[]) (by kernel_rfl!) (by kernel_rfl!) (by kernel_rfl!) (fun s e=>recFacts_of e) (by kernel_rfl!) X8 (by kernel_rfl!) ⟨rfl,rfl,rfl,rfl,rfl,by decide+kernel⟩ hw walk
theorem prom:RW.toRowW.promised:=RowW.promised_of_found (by decide+kernel)
noncomputable def IF(prog:Program)(w:World)(OB:Heap->Addr->List Value->(Addr->Prop)->Prop)(ok:Hm OB)(aj:Heap)(mg mb:Str->Option Value)(hg:aj.Ns mainGlobals mg)(hb:aj.Ns builtinsNs mb)(nl:aj.NoLimit):Pk where
 prog:=prog
 w:=w
 OB:=OB
 ok:=ok
 G:=fun h=>∀b o,aj.get? b=some o->h.get? b=some o
 Gk:=fun g k b o e=>k b o (g b o e)
 glob:=fun x=>match mg x with
  |some v=>some v
  |none=>mb x
 nolim:=fun g=>by
  obtain⟨mc,h1,h2⟩:=nl;exact⟨mc,h1.keeps g,h2⟩
 aV:=fun g=>⟨mg,mb,hg.keeps g,hb.keeps g,fun x v e=>by
  cases q:mg x with
  |some u=>rw[q]at e;exact .inl e
  |none=>rw[q]at e;exact .inr ⟨rfl,e⟩⟩
theorem Mf(w:World)(cl:Str->Option Addr)(X9:ExcName->Option Value)(args:List WData)(s₁ s':Shared)(k:Kp s₁ s')(hg:s₁.gens= #[]):GoodWG RW.toRowW.claim cl X9 args s₁ (.ok (.ret (.bool true))) s':=by
 refine⟨.inl ⟨_,.bool true,[],rfl,fun cls=>rfl,.bool true,?_,fun ø=>⟨xP,fun a h=>(nomatch h)⟩⟩,.of_keep k.keep,k.os,k.gens.2 (.of_eq hg)⟩
 kernel_rfl
set_option tactic.hygienic true in
theorem items_int{R:WRecords}:∀{xs:List WData},WShape.hasItems R xs .int=true->∃ns:List Int,xs=ns.map .int
 |[],_=>⟨[],rfl⟩
 |x::xs,h=>by
  simp only[WShape.hasItems,bX]at h;obtain⟨h1,h2⟩:=h;obtain⟨ns,rfl⟩:=items_int h2;cases x<;>try cases h1
  rename_i i;exact⟨i::ns,rfl⟩
set_option tactic.hygienic true in
theorem Mg{R:WRecords}{args:List WData}(h:WShape.hasAll R args [.list .int]=true):∃ns:List Int,args=[.list (ns.map .int)]:=by
 cases args with
 |nil=>simp[WShape.hasAll]at h
 |cons x xs=>
  cases xs with
  |cons y ys=>simp[WShape.hasAll]at h
  |nil=>
   simp only[WShape.hasAll,bX]at h;obtain⟨h1,_⟩:=h;cases x<;>try(first|cases h1|exact absurd h1 nE)
   rename_i _ xs;have h2:(WShape.hasItems R xs .int||false)=true:=h1;obtain⟨ns,rfl⟩:=items_int ((Bool.or_false _).symm.trans h2);exact⟨ns,rfl⟩
theorem Mh{args:List WData}(h:RW.toRowW.claim.pre args=true):∃ns:List Int,args=[.list (ns.map .int)]/\ns.length<=63:=by
 have h':(WShape.hasAll RW.toRowW.records args RW.toRowW.args&&RW.toRowW.pre.holds RW.toRowW.records {args:=args})=true:=h;rw[bX]at h';have e1:RW.toRowW.args=[.list .int]:=by kernel_rfl
 have e2:RW.toRowW.pre= .and (.not (.lt (.lit (.int 63)) (.len (.arg 0)))) (.lit (.bool true)):=by kernel_rfl
 rw[e1,e2]at h';obtain⟨ns,rfl⟩:=Mg h'.1;refine⟨ns,rfl,?_⟩;have h2:WTm.holds RW.toRowW.records (.and (.not (.lit (.bool (decide ((63:Int)<((ns.map WData.int).length:Int)))))) (.lit (.bool true))) {args:=[.list (ns.map .int)]}=true:=h'.2;rw[List.length_map]at h2;by_cases hc:ns.length<=63
 ·exact hc
 ·rw[bo (by omega)]at h2
  exact absurd (h2:false=true) nE
theorem xi{P:Pk}{Q:Params}{h:Heap}{hid:List Addr}:∀{ns:List Int} {vs:List Value},WellAll Q h vs (ns.map .int)->bd P h hid (ns.map .int) vs
 |[],vs,e=>by cases e;exact bq.nil
 |n::ns,vs,e=>by
  cases e with
  |cons h1 h2=>
   cases h1;exact .cons (Dn.ofInt (P:=P) _ _) (xi h2)
theorem Mi(OB:Heap->Addr->List Value->(Addr->Prop)->Prop)(ok:Hm OB)
  (core:∀(w:World) (aj:Heap) (mg mb:Str->Option Value) (hg:aj.Ns mainGlobals mg) (hb:aj.Ns builtinsNs mb) (nl:aj.NoLimit),(∀x:Str,x≠"__name__"->mb x=bootBuiltins x)->YP w aj->
   ∀(a:Addr) (o:Obj) (pm cd doc dV kV:Value),aj.get? a=some o->o.data= .func {docDef oA.name oA.params oA.body oA.scope pm cd doc with defaults:=dV,kwdefaults:=kV}->aj.CodeRec cd oA.name->Dflts mg aj oA.params [] dV kV->
    ∃n F,aZ (IF RW.toRowW.prog w OB ok aj mg mb hg hb nl) n (.ref a) F/\cJ n callerA/\∀ns:List Int,ns.length<=63->F [.list (ns.map .int)]=some (.bool true)):
  WalkO VQ LS (fun ø ø=>True) YP RW.toRowW oA [] fun f vs=>PySem.call f vs:=by
 intro w bn s₁ mg mb G y a o pm cd doc dV kV ho hd hc hD hm Tu args vals as Tv aa9 V4 Tw ab0;obtain⟨ns,rfl,hlen⟩:=Mh Tv;obtain⟨n,F,hF,hR,hT⟩:=core w s₁.heap mg mb G.T.g G.T.b G.T.nolimit G.T.builtins y a o pm cd doc dV kV ho hd hc hD
 cases Tw with
 |cons h1 h2=>
  cases h2
  cases h1 with
  |list hl hi=>
   refine aD (hF callerA s₁ [] [.list (ns.map .int)] (.bool true) _ _ hR (fun ø ø e=>e) (fun ø q=>(nomatch q)) (.cons (Dn.ofList (fun q=>(nomatch q)) ⟨0,hl⟩ (xi hi)) .nil) (hT ns hlen)) (fun v s' q=>?_) fun ø ø q=>q
   obtain rfl:=q.2.bool_inv;exact Mf w _ _ _ s₁ s' q.1 Tu
noncomputable def PF{α:Type}(d:α)(fK:Array DictEntry->α)(fS:Array (Int×Value)->α)(fF:FuncData->α)(x:Data):α:= @Data.casesOn (fun ø=>α) x d (fun ø=>d) (fun ø ø=>d) (fun es ø=>fK es) (fun es ø ø=>fS es) (fun ø ø=>d) (fun ø=>d) (fF) (fun ø=>d) (fun ø=>d) d
noncomputable def ents(o:Obj):Array DictEntry:=PF #[] (fun es=>es) (fun ø=> #[]) (fun ø=> #[]) o.data
theorem qo(P:Params){a:Nat}{o:Obj}(ha:(RI P).get a=some o)(ew:a<220)(hf:o.alive=true):(HZ P).get? a=some o:=by
 have h1:(HZ P).objs[a]?=some o:=by
  unfold HZ;rw[absHeap_at,aw ew,ha];rfl
 exact(tH _ _ _).mpr ⟨h1,hf⟩
theorem at3(P:Params):(HZ P).get? mainGlobals=some (nS P):=qo P (by kernel_rfl) (by decide) (by kernel_rfl)
theorem NY{w:World}{aj:Heap}{mg:Str->Option Value}(hg:aj.Ns mainGlobals mg)(y:YP w aj)(x:Str):mg x=nsFind (ents (nS w.params)) x:=by
 obtain⟨o,es,ep,h1,h2,h3,h4⟩:=hg;have h5:=y _ _ (at3 w.params);rw[h1]at h5;cases h5;rw[<-h4];unfold ents;rw[h2];rfl
noncomputable def fdOf(o:Obj):FuncData:=PF default (fun ø=>default) (fun ø=>default) (fun fd=>fd) o.data
theorem gr{w:World}{aj h:Heap}(y:YP w aj)(g:∀b o,aj.get? b=some o->h.get? b=some o){a c:Nat}{o oc:Obj}{vs t}(ha:(RI w.params).get a=some o)(ew:a<220)(hf:o.alive=true)(hd:o.data= .func (fdOf o))(hk:o.cls= .type "function")
  (hc:(RI w.params).get c=some oc) (Yb:c<220) (hcf:oc.alive=true) (hcd:oc.data= .fields vs) (Tx:(fdOf o).code= .ref c) (hq:vs[1]?=some (.str (fdOf o).qualname t)):
  (∃o',h.get? a=some o'/\o'.cls= .type "function"/\o'.data= .func (fdOf o))/\h.CodeRec (fdOf o).code (fdOf o).qualname:=
 ⟨⟨o,g _ _ (y _ _ (qo _ ha ew hf)),hk,hd⟩,⟨c,oc,vs,t,Tx,g _ _ (y _ _ (qo _ hc Yb hcf)),hcd,hq⟩⟩
theorem y9{C:List Value->Prop}(h:∀a0,C [a0]):∀vs:List Value,vs.length=1->C vs:=fun vs e=>by
 obtain⟨a0,rfl⟩:∃a0,vs=[a0]:=by
  rcases vs with _|⟨a0,_|⟨b,vs⟩⟩<;>first|exact⟨_,rfl⟩|simp at e
 exact h _
theorem Be{C:List Value->Prop}(h:∀a0 a1,C [a0,a1]):∀vs:List Value,vs.length=2->C vs:=fun vs e=>by
 obtain⟨a0,a1,rfl⟩:∃a0 a1,vs=[a0,a1]:=by
  rcases vs with _|⟨a0,_|⟨a1,_|⟨b,vs⟩⟩⟩<;>first|exact⟨_,_,rfl⟩|simp at e
 exact h _ _
theorem Ty{C:List Value->Prop}(h:∀a0 a1 a2,C [a0,a1,a2]):∀vs:List Value,vs.length=3->C vs:=fun vs e=>by
 obtain⟨a0,a1,a2,rfl⟩:∃a0 a1 a2,vs=[a0,a1,a2]:=by
  rcases vs with _|⟨a0,_|⟨a1,_|⟨a2,_|⟨b,vs⟩⟩⟩⟩<;>first|exact⟨_,_,_,rfl⟩|simp at e
 exact h _ _ _
structure ls(fd:FuncData)(s:Stmt)(ps:List Str):Prop where
 body:fd.body= .stmts (dW s)
 gl:fd.globals=mainGlobals
 bl:fd.builtins=builtinsNs
 clo:fd.closure=[]
 scope:fd.scope=kA s
 bind:∀vs:List Value,vs.length=ps.length->bindArgs fd ⟨vs,[]⟩=pure (ps.zip vs)
theorem Tz{w:World}{aj h:Heap}(y:YP w aj)(g:∀b o,aj.get? b=some o->h.get? b=some o):(∃o',h.get? 85=some o'/\o'.cls= .type "function"/\o'.data= .func (fdOf mt))/\h.CodeRec (fdOf mt).code (fdOf mt).qualname:=
 gr (a:=85) (c:=84) (oc:=sZ) y g (by kernel_rfl) (by decide) (by kernel_rfl) rfl rfl (by kernel_rfl) (by decide) (by kernel_rfl) rfl rfl rfl
theorem NZ{w:World}{aj h:Heap}(y:YP w aj)(g:∀b o,aj.get? b=some o->h.get? b=some o):(∃o',h.get? 92=some o'/\o'.cls= .type "function"/\o'.data= .func (fdOf qe))/\h.CodeRec (fdOf qe).code (fdOf qe).qualname:=
 gr (a:=92) (c:=91) (oc:=tc) y g (by kernel_rfl) (by decide) (by kernel_rfl) rfl rfl (by kernel_rfl) (by decide) (by kernel_rfl) rfl rfl rfl
noncomputable abbrev TA:List Str:=[Oz]
theorem TB(P:Params):ls (fdOf qe) (aO pq.main.body 7) TA:=⟨rfl,rfl,rfl,rfl,rfl,y9 fun v0=>rfl⟩
theorem N0{w:World}{aj h:Heap}(y:YP w aj)(g:∀b o,aj.get? b=some o->h.get? b=some o):(∃o',h.get? 99=some o'/\o'.cls= .type "function"/\o'.data= .func (fdOf qf))/\h.CodeRec (fdOf qf).code (fdOf qf).qualname:=
 gr (a:=99) (c:=98) (oc:=ES) y g (by kernel_rfl) (by decide) (by kernel_rfl) rfl rfl (by kernel_rfl) (by decide) (by kernel_rfl) rfl rfl rfl
noncomputable abbrev TE:List Str:=[Oz]
theorem TF(P:Params):ls (fdOf qf) (aO pq.main.body 8) TE:=⟨rfl,rfl,rfl,rfl,rfl,y9 fun v0=>rfl⟩
theorem N1{w:World}{aj h:Heap}(y:YP w aj)(g:∀b o,aj.get? b=some o->h.get? b=some o):(∃o',h.get? 32=some o'/\o'.cls= .type "function"/\o'.data= .func (fdOf mj))/\h.CodeRec (fdOf mj).code (fdOf mj).qualname:=
 gr (a:=32) (c:=31) (oc:=rJ) y g (by kernel_rfl) (by decide) (by kernel_rfl) rfl rfl (by kernel_rfl) (by decide) (by kernel_rfl) rfl rfl rfl
noncomputable abbrev TG:List Str:=[Vj]
theorem TH(P:Params):ls (fdOf mj) (aO pq.main.body 2) TG:=⟨rfl,rfl,rfl,rfl,rfl,y9 fun v0=>rfl⟩
theorem N2{w:World}{aj h:Heap}(y:YP w aj)(g:∀b o,aj.get? b=some o->h.get? b=some o):(∃o',h.get? 78=some o'/\o'.cls= .type "function"/\o'.data= .func (fdOf ms))/\h.CodeRec (fdOf ms).code (fdOf ms).qualname:=
 gr (a:=78) (c:=77) (oc:=sY) y g (by kernel_rfl) (by decide) (by kernel_rfl) rfl rfl (by kernel_rfl) (by decide) (by kernel_rfl) rfl rfl rfl
noncomputable abbrev TJ:List Str:=[Vj]
theorem TK(P:Params):ls (fdOf ms) (aO pq.main.body 4) TJ:=⟨rfl,rfl,rfl,rfl,rfl,y9 fun v0=>rfl⟩
theorem IG{w:World}{aj h:Heap}(y:YP w aj)(g:∀b o,aj.get? b=some o->h.get? b=some o):(∃o',h.get? 116=some o'/\o'.cls= .type "function"/\o'.data= .func (fdOf im))/\h.CodeRec (fdOf im).code (fdOf im).qualname:=
 gr (a:=116) (c:=115) (oc:=qg) y g (by kernel_rfl) (by decide) (by kernel_rfl) rfl rfl (by kernel_rfl) (by decide) (by kernel_rfl) rfl rfl rfl
noncomputable abbrev IH:List Str:=[wi,⟨#[119,115]⟩]
theorem PG(P:Params):ls (fdOf im) (aO (dX (aO pq.main.body 10)) 1) IH:=⟨rfl,rfl,rfl,rfl,rfl,Be fun v0 v1=>rfl⟩
theorem II{w:World}{aj h:Heap}(y:YP w aj)(g:∀b o,aj.get? b=some o->h.get? b=some o):(∃o',h.get? 123=some o'/\o'.cls= .type "function"/\o'.data= .func (fdOf jx))/\h.CodeRec (fdOf jx).code (fdOf jx).qualname:=
 gr (a:=123) (c:=122) (oc:=qh) y g (by kernel_rfl) (by decide) (by kernel_rfl) rfl rfl (by kernel_rfl) (by decide) (by kernel_rfl) rfl rfl rfl
noncomputable abbrev PH:List Str:=[wi]
theorem PI(P:Params):ls (fdOf jx) (aO (dX (aO pq.main.body 10)) 2) PH:=⟨rfl,rfl,rfl,rfl,rfl,y9 fun v0=>rfl⟩
theorem IJ{w:World}{aj h:Heap}(y:YP w aj)(g:∀b o,aj.get? b=some o->h.get? b=some o):(∃o',h.get? 130=some o'/\o'.cls= .type "function"/\o'.data= .func (fdOf jy))/\h.CodeRec (fdOf jy).code (fdOf jy).qualname:=
 gr (a:=130) (c:=129) (oc:=qj) y g (by kernel_rfl) (by decide) (by kernel_rfl) rfl rfl (by kernel_rfl) (by decide) (by kernel_rfl) rfl rfl rfl
noncomputable abbrev PJ:List Str:=[wi,Wt]
theorem PK(P:Params):ls (fdOf jy) (aO (dX (aO pq.main.body 10)) 3) PJ:=⟨rfl,rfl,rfl,rfl,rfl,Be fun v0 v1=>rfl⟩
theorem IK{w:World}{aj h:Heap}(y:YP w aj)(g:∀b o,aj.get? b=some o->h.get? b=some o):(∃o',h.get? 137=some o'/\o'.cls= .type "function"/\o'.data= .func (fdOf jz))/\h.CodeRec (fdOf jz).code (fdOf jz).qualname:=
 gr (a:=137) (c:=136) (oc:=qk) y g (by kernel_rfl) (by decide) (by kernel_rfl) rfl rfl (by kernel_rfl) (by decide) (by kernel_rfl) rfl rfl rfl
noncomputable abbrev PL:List Str:=[wi,Fx]
theorem PM(P:Params):ls (fdOf jz) (aO (dX (aO pq.main.body 10)) 4) PL:=⟨rfl,rfl,rfl,rfl,rfl,Be fun v0 v1=>rfl⟩
theorem IL{w:World}{aj h:Heap}(y:YP w aj)(g:∀b o,aj.get? b=some o->h.get? b=some o):(∃o',h.get? 144=some o'/\o'.cls= .type "function"/\o'.data= .func (fdOf jA))/\h.CodeRec (fdOf jA).code (fdOf jA).qualname:=
 gr (a:=144) (c:=143) (oc:=ql) y g (by kernel_rfl) (by decide) (by kernel_rfl) rfl rfl (by kernel_rfl) (by decide) (by kernel_rfl) rfl rfl rfl
noncomputable abbrev PN:List Str:=[wi,Fx]
theorem PO(P:Params):ls (fdOf jA) (aO (dX (aO pq.main.body 10)) 5) PN:=⟨rfl,rfl,rfl,rfl,rfl,Be fun v0 v1=>rfl⟩
theorem IM{w:World}{aj h:Heap}(y:YP w aj)(g:∀b o,aj.get? b=some o->h.get? b=some o):(∃o',h.get? 151=some o'/\o'.cls= .type "function"/\o'.data= .func (fdOf jB))/\h.CodeRec (fdOf jB).code (fdOf jB).qualname:=
 gr (a:=151) (c:=150) (oc:=qm) y g (by kernel_rfl) (by decide) (by kernel_rfl) rfl rfl (by kernel_rfl) (by decide) (by kernel_rfl) rfl rfl rfl
noncomputable abbrev PP:List Str:=[wi,Fx]
theorem PQ(P:Params):ls (fdOf jB) (aO (dX (aO pq.main.body 10)) 6) PP:=⟨rfl,rfl,rfl,rfl,rfl,Be fun v0 v1=>rfl⟩
theorem IN{w:World}{aj h:Heap}(y:YP w aj)(g:∀b o,aj.get? b=some o->h.get? b=some o):(∃o',h.get? 158=some o'/\o'.cls= .type "function"/\o'.data= .func (fdOf nR))/\h.CodeRec (fdOf nR).code (fdOf nR).qualname:=
 gr (a:=158) (c:=157) (oc:=AZ) y g (by kernel_rfl) (by decide) (by kernel_rfl) rfl rfl (by kernel_rfl) (by decide) (by kernel_rfl) rfl rfl rfl
noncomputable abbrev PR:List Str:=[wi,Fx]
theorem PS(P:Params):ls (fdOf nR) (aO (dX (aO pq.main.body 10)) 7) PR:=⟨rfl,rfl,rfl,rfl,rfl,Be fun v0 v1=>rfl⟩
theorem IO{w:World}{aj h:Heap}(y:YP w aj)(g:∀b o,aj.get? b=some o->h.get? b=some o):(∃o',h.get? 173=some o'/\o'.cls= .type "function"/\o'.data= .func (fdOf lj))/\h.CodeRec (fdOf lj).code (fdOf lj).qualname:=
 gr (a:=173) (c:=172) (oc:=uY) y g (by kernel_rfl) (by decide) (by kernel_rfl) rfl rfl (by kernel_rfl) (by decide) (by kernel_rfl) rfl rfl rfl
noncomputable abbrev IP:List Str:=[Vl]
theorem PT(P:Params):ls (fdOf lj) (aO pq.main.body 61) IP:=⟨rfl,rfl,rfl,rfl,rfl,y9 fun v0=>rfl⟩
theorem IQ{w:World}{aj h:Heap}(y:YP w aj)(g:∀b o,aj.get? b=some o->h.get? b=some o):(∃o',h.get? 180=some o'/\o'.cls= .type "function"/\o'.data= .func (fdOf ll))/\h.CodeRec (fdOf ll).code (fdOf ll).qualname:=
 gr (a:=180) (c:=179) (oc:=uZ) y g (by kernel_rfl) (by decide) (by kernel_rfl) rfl rfl (by kernel_rfl) (by decide) (by kernel_rfl) rfl rfl rfl
noncomputable abbrev IR:List Str:=[Lu]
theorem PU(P:Params):ls (fdOf ll) (aO pq.main.body 62) IR:=⟨rfl,rfl,rfl,rfl,rfl,y9 fun v0=>rfl⟩
theorem IS{w:World}{aj h:Heap}(y:YP w aj)(g:∀b o,aj.get? b=some o->h.get? b=some o):(∃o',h.get? 185=some o'/\o'.cls= .type "function"/\o'.data= .func (fdOf lm))/\h.CodeRec (fdOf lm).code (fdOf lm).qualname:=
 gr (a:=185) (c:=184) (oc:=u0) y g (by kernel_rfl) (by decide) (by kernel_rfl) rfl rfl (by kernel_rfl) (by decide) (by kernel_rfl) rfl rfl rfl
noncomputable abbrev Di:List Str:=[Hg,Lu,OD]
theorem PV(P:Params):ls (fdOf lm) (aO pq.main.body 63) Di:=⟨rfl,rfl,rfl,rfl,rfl,Ty fun v0 v1 v2=>rfl⟩
theorem IT{w:World}{aj h:Heap}(y:YP w aj)(g:∀b o,aj.get? b=some o->h.get? b=some o):(∃o',h.get? 192=some o'/\o'.cls= .type "function"/\o'.data= .func (fdOf ln))/\h.CodeRec (fdOf ln).code (fdOf ln).qualname:=
 gr (a:=192) (c:=191) (oc:=u3) y g (by kernel_rfl) (by decide) (by kernel_rfl) rfl rfl (by kernel_rfl) (by decide) (by kernel_rfl) rfl rfl rfl
noncomputable abbrev PW:List Str:=[Le,Lu]
theorem PX(P:Params):ls (fdOf ln) (aO pq.main.body 64) PW:=⟨rfl,rfl,rfl,rfl,rfl,Be fun v0 v1=>rfl⟩
theorem IU{w:World}{aj h:Heap}(y:YP w aj)(g:∀b o,aj.get? b=some o->h.get? b=some o):(∃o',h.get? 199=some o'/\o'.cls= .type "function"/\o'.data= .func (fdOf lp))/\h.CodeRec (fdOf lp).code (fdOf lp).qualname:=
 gr (a:=199) (c:=198) (oc:=u4) y g (by kernel_rfl) (by decide) (by kernel_rfl) rfl rfl (by kernel_rfl) (by decide) (by kernel_rfl) rfl rfl rfl
noncomputable abbrev PY:List Str:=[R6]
theorem PZ(P:Params):ls (fdOf lp) (aO pq.main.body 65) PY:=⟨rfl,rfl,rfl,rfl,rfl,y9 fun v0=>rfl⟩
theorem IV{w:World}{aj h:Heap}(y:YP w aj)(g:∀b o,aj.get? b=some o->h.get? b=some o):(∃o',h.get? 204=some o'/\o'.cls= .type "function"/\o'.data= .func (fdOf lq))/\h.CodeRec (fdOf lq).code (fdOf lq).qualname:=
 gr (a:=204) (c:=203) (oc:=u5) y g (by kernel_rfl) (by decide) (by kernel_rfl) rfl rfl (by kernel_rfl) (by decide) (by kernel_rfl) rfl rfl rfl
noncomputable abbrev P0:List Str:=[Hf]
theorem P1(P:Params):ls (fdOf lq) (aO pq.main.body 66) P0:=⟨rfl,rfl,rfl,rfl,rfl,y9 fun v0=>rfl⟩
theorem IW{w:World}{aj h:Heap}(y:YP w aj)(g:∀b o,aj.get? b=some o->h.get? b=some o):(∃o',h.get? 209=some o'/\o'.cls= .type "function"/\o'.data= .func (fdOf lr))/\h.CodeRec (fdOf lr).code (fdOf lr).qualname:=
 gr (a:=209) (c:=208) (oc:=u6) y g (by kernel_rfl) (by decide) (by kernel_rfl) rfl rfl (by kernel_rfl) (by decide) (by kernel_rfl) rfl rfl rfl
noncomputable abbrev P2:List Str:=[Hf,Rr,Hg]
theorem P3(P:Params):ls (fdOf lr) (aO pq.main.body 67) P2:=⟨rfl,rfl,rfl,rfl,rfl,Ty fun v0 v1 v2=>rfl⟩
theorem IX{w:World}{aj h:Heap}(y:YP w aj)(g:∀b o,aj.get? b=some o->h.get? b=some o):(∃o',h.get? 214=some o'/\o'.cls= .type "function"/\o'.data= .func (fdOf jC))/\h.CodeRec (fdOf jC).code (fdOf jC).qualname:=
 gr (a:=214) (c:=213) (oc:=u7) y g (by kernel_rfl) (by decide) (by kernel_rfl) rfl rfl (by kernel_rfl) (by decide) (by kernel_rfl) rfl rfl rfl
noncomputable abbrev IY:List Str:=[Le,Rq]
theorem P4(P:Params):ls (fdOf jC) (aO pq.main.body 68) IY:=⟨rfl,rfl,rfl,rfl,rfl,Be fun v0 v1=>rfl⟩
inductive rM:List (Int×Str)->List DictEntry->Prop
 |nil:rM [] []
 |cons {k x T T' ps es}:rM ps es->rM ((k,x)::ps) (⟨hashInt k,.int k T,.str x T'⟩::es)
theorem rM.app{a b:List (Int×Str)}{x y:List DictEntry}(h:rM a x)(h':rM b y):rM (a++b) (x++y):=by
 induction h with
 |nil=>exact h'
 |cons _ ih=>exact .cons ih
theorem Dj:∀(l:List (Int×Str)) (T:Nat),rM l (ba T l)
 |[],T=>.nil
 |(k,x)::r,T=>.cons (Dj r _)
theorem IZ:∀(l:List (Int×Str)) (T:Nat),rM l (gL T l)
 |[],T=>.nil
 |(k,x)::r,T=>.cons (IZ r _)
theorem I0:∀(l:List (List (Int×Str))) (T:Nat),rM l.flatten (gM T l)
 |[],T=>.nil
 |l::r,T=>by rw[eQ];exact(Dj l T).app (I0 r _)
theorem Mj:rM ER (ba 256 c0++gM 307 cs++gL 2194 cl):=by
 rw[uE,List.append_assoc];exact(Dj _ _).app ((I0 _ _).app (IZ _ _))
theorem rM.dict{prog:Program}{w:World}{ps:List (Int×Str)}{es:List DictEntry}(h:rM ps es):∃oW:List (Str×Tok),oW.map (·.1)=ps.map (·.2)/\oW.length=ps.length/\KeysOf (intKind prog w) es.toArray/\Pairs (intKind prog w) es ((ps.map (·.1)).zip (strValues oW)):=by
 induction h with
 |nil=>exact⟨[],rfl,rfl,fun e he=>by simp at he,.nil⟩
 | @cons k x T T' ps es _ ih=>
   obtain⟨oW,h1,h2,h3,h4⟩:=ih;refine⟨(x,T')::oW,by simp[h1],by simp[h2],fun e he=>?_,.cons (by simp[intKind,Value.isInt]) rfl h4⟩;have Hj:e∈(⟨hashInt k,.int k T,.str x T'⟩:DictEntry)::es:=by simpa using he
   rcases bI.mp Hj with rfl|Hj
   ·exact⟨k,by simp[intKind,Value.isInt],rfl⟩
   ·exact h3 e (by simpa using Hj)
noncomputable abbrev P5:List Int:=ER.map (·.1)
noncomputable abbrev P6:List (List Nat):=ER.map fun p=>p.2.cps.toList
theorem TL(P:Params):(HZ P).get? 33=some rL:=qo P (by kernel_rfl) (by decide) (by kernel_rfl)
theorem P7{P:Pk}(hG:∀h,P.G h->YP P.w h):H3 P 33 "get" (H4 P5 P6):=by
 refine SK (by decide) fun h G=>?_
 obtain⟨oW,h1,h2,h3,h4⟩:=Mj.dict (prog:=P.prog) (w:=P.w);refine⟨oW,?_,by rw[h2,List.length_map],rL,_,_,hG h G _ _ (TL _),⟨rfl,rfl,rfl⟩,rfl,h3,by simpa using h4,?_⟩
 ·rw[h1,iL]
  refine lS fun p ø=>?_
  simp[pyStr]
 ·rw[List.map_fst_zip (by rw[List.length_map];simp[strValues,h2])]
  exact AW
section
section
variable{M:Model}{A:Around}{R:GenEnd}{Y:Protocol}{n:Nat}{bn:Shared}{c:Code}{fs:List Frame}{s:Shared}{env:Env}
theorem jD{α β:Type}{m:Sem α}{k:α->Sem β}{K:β->Sem Fin}{H:Value->Sem Fin}{gd:Bool->Bool}{lv:List Value->List Value}
  (h:∀E,wpAny M (A.over c fs) m (fun a s'=>Seg M A R Y n bn c ((k a).wrap K H gd lv) fs s') E s):Seg M A R Y n bn c ((m>>= k).wrap K H gd lv) fs s:=by
 rw[Sem.bind_eq_wrap',nD];exact seg_wrap (h _)
theorem za{m:Sem Flow}{K:Flow->Sem Fin}{H:Value->Sem Fin}{gd:Bool->Bool}{lv:List Value->List Value}
 (h:∀E,wpAny M (A.over c fs) m (fun a s'=>Seg M A R Y n bn c (K a) fs s') E s):Seg M A R Y n bn c (m.wrap K H gd lv) fs s:=seg_wrap (h _)
theorem rN{test:Expr}{a b:List Stmt}{pos:Pos}{K:Flow->Sem Fin}{H:Value->Sem Fin}{gd:Bool->Bool}{lv:List Value->List Value}
  (h:∀E,wpAny M (A.over c fs) (isTrue test env (eval test env)) (fun z s'=>Seg M A R Y n bn c ((if z=true then execs a env else execs b env).wrap K H gd lv) fs s') E s):
  Seg M A R Y n bn c ((exec (.If test a b pos) env).wrap K H gd lv) fs s:=by
 rw[exec_If];refine jD fun E=>lK (jD fun E=>?_)
 exact h E
theorem Mk{target iter:Expr}{body orelse:List Stmt}{pos:Pos}{K:Flow->Sem Fin}{H:Value->Sem Fin}{gd:Bool->Bool}{lv:List Value->List Value}(hs:∀x,foldedSetIterable iter env x=pure x)
  (h:∀E,wpAny M (A.over c fs) (eval iter env) (fun x s₁=>∀E,wpAny M (A.over c fs) (pyIter x) (fun it s₂=>∀k l p,(∀f,k (.ok f)=K f)->
   Seg M A R Y n bn (.forLoop target it body orelse env) (M.den (.forLoop target it body orelse env)) (.ret k none (gd false) l c p []::fs) s₂) E s₁) E s):
  Seg M A R Y n bn c ((exec (.For target iter body orelse pos) env).wrap K H gd lv) fs s:=by
 rw[exec_For];refine jD fun E=>lK (jD fun E=>?_)
 refine aD (h E) (fun x s₁ aj=>?_) fun ø ø q=>q
 refine jD fun E=>wpAny_of_eq (hs x) (jD fun E=>lK (jD fun E=>gI (aD (aj E) (fun it s₂ aM=>?_) fun ø ø q=>q)))
 exact seg_call fun p=>aM _ _ p fun f=>rfl
end
section
variable{prog:Program}{w:World}{A:Around}{R:GenEnd}{Y:Protocol}{n:Nat}{bn:Shared}{fs:List Frame}{s:Shared}{env:Env}
theorem Bf{target:Expr}{it:Value}{body:List Stmt}
  (h:∀E,wpAny (model prog w) (A.over (.forLoop target it body [] env) fs) (pyNext it) (fun r s₁=>match r with
   |none=>Seg (model prog w) A R Y n bn (.block [] env) (leafOf (.ok .next)) fs s₁
   |some v=>∀E,wpAny (model prog w) (A.over (.forLoop target it body [] env) fs) (letOwnedTupleGo target it v) (fun ø s₂=>∀E,wpAny (model prog w) (A.over (.forLoop target it body [] env) fs) (assign target env v) (fun ø s₃=>
    ∀K H,(∀f,K f=match f with
       | .next| .cont=>.pure (.again (.forLoop target it body [] env))
       | .brk=>.pure (.done .next)
       | .ret v=>.pure (.done (.ret v)))->Seg (model prog w) A R Y n bn (.forLoop target it body [] env) ((execs body env).wrap K H id id) fs s₃) E s₂) E s₁) E s):
  Seg (model prog w) A R Y n bn (.forLoop target it body [] env) ((model prog w).den (.forLoop target it body [] env)) fs s:=by
 show Seg _ A R Y n bn _ ((forTurn target it body [] env).onRaise (fun x=>do noteFrame x env;theTreesLotGoes x)) fs s;rw[Sem.onRaise_eq_wrap];unfold forTurn;refine jD fun E=>lK (jD fun E=>xQ (aD (h _) (fun r s₁ aj=>?_) fun ø ø q=>lK q))
 cases r with
 |none=>
  refine seg_again (c':=.block [] env) rfl ?_;exact aj
 |some v=>
  refine jD fun E=>aD (aj E) (fun ø s₂ aM=>?_) fun ø ø q=>q
  refine jD fun E=>aD (aM E) (fun ø s₃ eu=>?_) fun ø ø q=>q
  rw[Sem.bind_eq_wrap',nD];exact eu _ _ fun f=>by cases f<;>rfl
end
end
section
section
variable{prog:Program}{w:World}{A:Around}{E:Value->Shared->Prop}{s:Shared}
theorem Bg{Q:Value->Shared->Prop}(h:∀h' e,(∀b o,s.heap.get? b=some o->h'.get? b=some o)->(∃o,h'.get? e=some o/\o.cls= .type "StopIteration")->Q (.ref e) {s with heap:=h'}):wpAny (model prog w) A (newExc (.type "StopIteration") []) Q E s:=by
 refine aA (tE ?_ (eK _));refine aA (m:=firstArgMember _ _) (wpAny_of_eq (a:=Value.none) (by first|rfl|(simp only[firstArgMember];rfl)) ?_);refine tE ?_ (by size_fits);exact h _ _ (fun b o e=>bz _ (bz _ e)) ⟨_,bJ _ rfl,rfl⟩
theorem Bh{α:Type}(hh:A.handled=none){Q:α->Shared->Prop}(h:∀h' e,(∀b o,s.heap.get? b=some o->h'.get? b=some o)->(∃o,h'.get? e=some o/\o.cls= .type "StopIteration")->E (.ref e) {s with heap:=h'}):
 wpAny (model prog w) A (do raiseNew (<-newExc (.type "StopIteration") []):Sem α) Q E s:=aA (Bg fun h' e hk he=>wpAny_raiseNew_none hh (h h' e hk he))
theorem Gc{it:Addr}{x:Str}{t:Tok}{i:Nat}{Q:Value->Shared->Prop}(hh:A.handled=none)(hit:s.heap.IsStrIter it "str_ascii_iterator" x t i)(hx:x.cps[i]?=none)
  (hE:∀h' e,Heap.ExtBut it s.heap h'->(∃o,h'.get? it=some o)->(∃o,h'.get? e=some o/\o.cls= .type "StopIteration")->E (.ref e) {s with heap:=h'}):
  wpAny (model prog w) A (Builtin.SmallTypes.nextOf (.ref it)) Q E s:=by
 have hT:=hit.typeIs;obtain⟨o,ho,hc,hd⟩:=hit;refine aA (kg hT F.slot_str_ascii_iterator_next (lM F.slot_str_ascii_iterator_next hT F.entry_str_ascii_iterator_next ?_ (F.args_str_ascii_iterator_next_1 _)));show wpAny _ _ (field (.ref it) 0>>= _) _ _ s;refine aA (gj ho hd (x:=.str x t) rfl ?_);show wpAny _ _ (field (.ref it) 1>>= _) _ _ s;refine aA (gj ho hd (x:=.int i 0) rfl ?_);simp only[lT,hx];refine aA (q9 (aA (wpAny_setField ho hd (by simp) (aA (rc ?_)))));refine Bh (A:=A.in1) hh fun h' e hk he=>?_
 exact hE _ _ (fun b o q r=>hk b o ((oQ ..).extBut b o q r)) ⟨_,hk _ _ (kR _ ho (Obj.isFreed_of_fields (Obj.data_mapFields hd _)))⟩ he
theorem I1{it:Addr}{x:Str}{t:Tok}{i:Nat}{Q:Value->Shared->Prop}(hh:A.handled=none)(hit:s.heap.IsStrIter it "str_iterator" x t i)(hx:x.cps[i]?=none)
  (hE:∀h' e,Heap.ExtBut it s.heap h'->(∃o,h'.get? it=some o)->(∃o,h'.get? e=some o/\o.cls= .type "StopIteration")->E (.ref e) {s with heap:=h'}):
  wpAny (model prog w) A (Builtin.SmallTypes.nextOf (.ref it)) Q E s:=by
 have hT:=hit.typeIs;obtain⟨o,ho,hc,hd⟩:=hit;refine aA (kg hT F.slot_str_iterator_next (lM F.slot_str_iterator_next hT F.entry_str_iterator_next ?_ (F.args_str_iterator_next_1 _)));show wpAny _ _ (field (.ref it) 0>>= _) _ _ s;refine aA (gj ho hd (x:=.str x t) rfl ?_);show wpAny _ _ (field (.ref it) 1>>= _) _ _ s;refine aA (gj ho hd (x:=.int i 0) rfl ?_);simp only[lT,hx];refine aA (q9 (aA (wpAny_setField ho hd (by simp) (aA (rc ?_)))));refine Bh (A:=A.in1) hh fun h' e hk he=>?_
 exact hE _ _ (fun b o q r=>hk b o ((oQ ..).extBut b o q r)) ⟨_,hk _ _ (kR _ ho (Obj.isFreed_of_fields (Obj.data_mapFields hd _)))⟩ he
theorem I2{e it:Addr}{x:Str}{t:Tok}{i:Nat}{j:Int}{old:Value}{Q:Option Value->Shared->Prop}(hh:A.handled=none)(he:IsEnum s.heap e it j old)(iX:s.heap.IsStrIter it (strIterType x) x t i)(hx:x.cps[i]?=none)
  (hQ:∀h',Heap.ExtBut it s.heap h'->(∃o,h'.get? it=some o)->Q none {s with heap:=h'}):wpAny (model prog w) A (pyNext (.ref e)) Q E s:=by
 have hT:s.TypeIs (.ref e) "enumerate":=⟨_,he,rfl⟩;refine aA (tI (kg hT F.slot_enumerate_next (lM F.slot_enumerate_next hT F.entry_enumerate_next ?_ (F.args_enumerate_next_1 _))));show wpAny _ _ (field (.ref e) 2>>= _) _ _ _;refine aA (gj he rfl (x:=.ref it) rfl ?_);have fin:∀h' y,Heap.ExtBut it s.heap h'->(∃o,h'.get? it=some o)->(∃o,h'.get? y=some o/\o.cls= .type "StopIteration")->wpAny (model prog w) A (do if <-isInstance (.ref y) (.type "StopIteration")then pure none else throw (.ref y):Sem (Option Value)) Q E {s with heap:=h'}:=fun h' y h1 h2 h3=>by
  obtain⟨o,ho,hc⟩:=h3;refine aA (wpAny_isInstance (T:="StopIteration") (b:=true) ⟨o,ho,hc⟩ isSubtype_stop ?_);exact bK (hQ _ h1 h2)
 cases ha:x.cps.all (· <128)
 ·refine aA (I1 hh (by simpa[strIterType,ha]using iX) hx fun h' y h1 h2 h3=>?_)
  exact fin h' y h1 h2 h3
 ·refine aA (Gc hh (by simpa[strIterType,ha]using iX) hx fun h' y h1 h2 h3=>?_)
  exact fin h' y h1 h2 h3
end
end
section
noncomputable def gS(p:Nat):Bool->List Nat->List (Nat×List Nat)
 |true,[]=>[(p-1,[92])]
 |false,[]=>[]
 |true,c::cs=>(p,[92,c])::gS (p+1) false cs
 |false,c::cs=>if c=92 then gS (p+1) true cs else(p,[c])::gS (p+1) false cs
theorem zb(p:Nat):gS p true []=[(p-1,[92])]:=rfl
theorem EU(p:Nat):gS p false []=[]:=rfl
theorem zc(p c:Nat)(cs:List Nat):gS p true (c::cs)=(p,[92,c])::gS (p+1) false cs:=rfl
theorem td(p c:Nat)(cs:List Nat):gS p false (c::cs)=if c=92 then gS (p+1) true cs else(p,[c])::gS (p+1) false cs:=rfl
section
variable(L it:Addr)(items:List (Nat×List Nat))
structure GK(bn s₁:Shared):Prop where
 keep:∀b o,b≠L->b≠it->b≠it+1->bn.heap.get? b=some o->s₁.heap.get? b=some o
 gens:s₁.gens=bn.gens
 os:s₁.os=bn.os
noncomputable def GP(n:Nat)(bn s₁:Shared):Prop:=n=0/\GK L it bn s₁
noncomputable def GR:GenEnd:=fun n bn r s₁=>r= .ok (.ret .none)/\GP L it n bn s₁
noncomputable def Agree(s₁ s₂:Shared):Prop:=∀b,(b=L\/b=it\/b=it+1)->∀o,s₁.heap.get? b=some o->s₂.heap.get? b=some o
inductive N3(m:Nat)(bn:Shared)(v:Value)(s₁:Shared):Prop
 |mk (p:Nat) (str:List Nat) (T:Addr) (t1 t2:Tok) (e:items[items.length-(m+1)]?=some (p,str)) (ev:v= .ref T) (t:x6 s₁.heap T #[.int (p:Nat) t1,.str (pyStr str) t2]) (n:bn.heap.get? T=none) (n1:T≠L) (n2:T≠it) (n3:T≠it+1):N3 m bn v s₁
inductive GYP(m:Nat)(bn:Shared)(v:Value)(s₁:Shared)(Lk:Resume->Shared->Prop):Prop
 |mk (k:GK L it bn s₁) (l:∀b,(b=L\/b=it\/b=it+1)->∃o,s₁.heap.get? b=some o) (i:N3 L it items m bn v s₁) (kp:∀s₂,Agree L it s₁ s₂->Lk (.send .none) s₂):GYP m bn v s₁ Lk
noncomputable def GY:Protocol:=fun m bn v s₁ Lk=>GYP L it items m bn v s₁ Lk
end
theorem GK.refl(L it s):GK L it s s:=⟨fun ø ø ø ø ø h=>h,rfl,rfl⟩
theorem GK.trans{L it a b c}(x:GK L it a b)(y:GK L it b c):GK L it a c:=⟨fun q o h1 h2 h3 h=>y.keep q o h1 h2 h3 (x.keep q o h1 h2 h3 h),y.gens.trans x.gens,y.os.trans x.os⟩
theorem GK.heap{L it}{s:Shared}{h':Heap}{tk:Nat}(h:∀b o,b≠L->b≠it->b≠it+1->s.heap.get? b=some o->h'.get? b=some o):GK L it s {s with heap:=h',toks:=tk}:=⟨h,rfl,rfl⟩
inductive Lf(items:List (Nat×List Nat))(x:List Nat)(i:Nat)(b:Bool)(n:Nat):Prop
 |mk (l:n=(gS i b (x.drop i)).length) (e:gS i b (x.drop i)=items.drop (items.length-n)) (h:n<=items.length)
theorem Lf.same{items x i b n i' b'}(h:Lf items x i b n)(e:gS i b (x.drop i)=gS i' b' (x.drop i')):Lf items x i' b' n:=by
 obtain⟨l,q,h⟩:=h;rw[e]at l q;exact⟨l,q,h⟩
theorem Lf.cut{items:List (Nat×List Nat)}{n:Nat}{p:Nat×List Nat}{r:List (Nat×List Nat)}(l:n=r.length+1)(q:p::r=items.drop (items.length-n))(h:n<=items.length):items[items.length-(r.length+1)]?=some p/\r=items.drop (items.length-r.length):=by
 rw[l]at q h;have e:items.length-r.length=items.length-(r.length+1)+1:=(xG (Nat.sub_pos_of_lt h)).symm;have q0:=congrArg (·[0]?) q;rw[tJ]at q0;rw[e,<-List.drop_drop,<-q];exact⟨q0.symm,rfl⟩
theorem Lf.cons{items x i b n i' b' p}(h:Lf items x i b n)(e:gS i b (x.drop i)=p::gS i' b' (x.drop i')):∃n',n=n'+1/\items[items.length-(n'+1)]?=some p/\Lf items x i' b' n':=by
 obtain⟨l,q,h⟩:=h;rw[e]at l q;have c:=Lf.cut l q h;exact⟨_,l,c.1,rfl,c.2,kT (az (jj l.symm) h)⟩
theorem I3{L it:Addr}{items:List (Nat×List Nat)}{n:Nat}{bn s:Shared}{p:Nat}{EV:List Nat}{t u:Tok}{tk:Nat}{Lk:Resume->Shared->Prop}(k:GK L it bn s)(l:∀b,(b=L\/b=it\/b=it+1)->∃o,s.heap.get? b=some o)(hit:items[items.length-(n+1)]?=some (p,EV))
  (hk:∀s₂,Agree L it {s with toks:=tk,heap:=s.heap.push {cls:=.type "tuple",data:=.seq #[.int (p:Nat) t,.str (pyStr EV) u]} } s₂->Lk (.send .none) s₂):
  GY L it items n bn (.ref s.heap.objs.size) {s with toks:=tk,heap:=s.heap.push {cls:=.type "tuple",data:=.seq #[.int (p:Nat) t,.str (pyStr EV) u]} } Lk:=by
 have ne:∀b,(b=L\/b=it\/b=it+1)->s.heap.objs.size≠b:=fun b hb z=>(l b hb).elim fun o q=>nomatch(z▸bE s.heap).symm.trans q
 refine⟨⟨fun b o h1 h2 h3 h=>bz _ (k.keep b o h1 h2 h3 h),k.gens,k.os⟩,fun b hb=>(l b hb).elim fun o q=>⟨o,bz _ q⟩,⟨p,EV,s.heap.objs.size,t,u,hit,rfl,⟨0,bJ _ rfl⟩,?_,ne _ (.inl rfl),ne _ (.inr (.inl rfl)),ne _ (.inr (.inr rfl))⟩,hk⟩
 induction e:bn.heap.get? s.heap.objs.size with
 |none=>rfl
 |some o=>exact nomatch(bE s.heap).symm.trans (k.keep _ o (ne _ (.inl rfl)) (ne _ (.inr (.inl rfl))) (ne _ (.inr (.inr rfl))) e)
section
variable{prog:Program}{w:World}{A:Around}{n:Nat}{bn:Shared}{s:Shared}{env:Env}{it:Addr}{items:List (Nat×List Nat)}{x:List Nat}{tx:Tok}
structure I4(env:Env)(it:Addr)(i:Nat)(b:Bool)(s:Shared):Prop where
 ns:∃m t,s.heap.Ns env.locals m/\m "escape"=some (.bool b)/\m "pos"=some (.int ((i-1:Nat):Int) t)
 en:∃old,IsEnum s.heap (it+1) it i old
 li:∃o,s.heap.get? it=some o
inductive GF(env:Env)(it:Addr)(x:List Nat)(tx:Tok)(i:Nat)(b:Bool)(s:Shared):Prop
 |mk (h:I4 env it i b s) (st:s.heap.IsStrIter it (strIterType (pyStr x)) (pyStr x) tx i)
inductive GS(env:Env)(it:Addr)(x:List Nat)(tx:Tok)(i:Nat)(b:Bool)(c:Nat)(s:Shared):Prop
 |mk (m:Str->Option Value) (t u:Tok) (old:Value) (ns:s.heap.Ns env.locals m) (he:m "escape"=some (.bool b)) (hp:m "pos"=some (.int (i:Nat) t)) (hc:m "ch"=some (.str (pyStr [c]) u)) (en:IsEnum s.heap (it+1) it (i+1:Nat) old) (st:s.heap.IsStrIter it (strIterType (pyStr x)) (pyStr x) tx (i+1))
theorem GF.moved{env it x tx i b s s'}(h:GF env it x tx i b s)(hk:∀b,(b=env.locals\/b=it\/b=it+1)->∀o,s.heap.get? b=some o->s'.heap.get? b=some o):GF env it x tx i b s':=by
 obtain⟨⟨⟨m,t,ns,he,hp⟩,⟨old,en⟩,li⟩,oi,qi,c⟩:=h;have TM:=hk _ (.inr (.inl rfl)) _ qi;exact⟨⟨⟨m,t,ns.at fun o q=>hk _ (.inl rfl) o q,he,hp⟩,⟨old,hk _ (.inr (.inr rfl)) _ en⟩,⟨oi,TM⟩⟩,oi,TM,c⟩
theorem GF.agree{env it x tx i b s s₂}(h:GF env it x tx i b s){o tk}(ha:Agree env.locals it {s with toks:=tk,heap:=s.heap.push o} s₂):GF env it x tx i b s₂:=
 h.moved fun b hb o' q=>ha b hb o' (bz _ q)
theorem GS.gf{env it x tx i b c s}(h:GS env it x tx i b c s):GF env it x tx (i+1) b s:=by
 obtain⟨m,t,u,old,ns,he,hp,hc,en,oi,qi,q⟩:=h;exact⟨⟨⟨m,t,ns,he,hp⟩,⟨old,en⟩,⟨oi,qi⟩⟩,oi,qi,q⟩
theorem I4.live{env it i b s}(h:I4 env it i b s):∀b,(b=env.locals\/b=it\/b=it+1)->∃o,s.heap.get? b=some o:=by
 obtain⟨⟨m,t,⟨oL,es,ep,qL,_⟩,_⟩,⟨old,en⟩,o1,q1⟩:=h;exact fun b hb=>hb.elim (fun e=>e▸⟨oL,qL⟩) fun hb=>hb.elim (fun e=>e▸⟨o1,q1⟩) fun e=>e▸⟨_,en⟩
structure rO(env:Env):Prop where
 fn:env.scope.kind= .function
 co:env.scope.isCoroutine=false
 kp:env.kindOf "pos"=some .local
 ke:env.kindOf "escape"=some .local
 kc:env.kindOf "ch"=some .local
theorem rO.hp{env:Env}(g:rO env):(env.scope.kind== .class||(env.scope.kind== .module&&env.locals != env.globals))=false:=by rw[g.fn];rfl
theorem P8{A:Around}{e1 e2:Expr}{k:Nat}{pos:Pos}{u:Value}{Pv:Value->Prop}{E:Value->Shared->Prop}{Q:Value->Shared->Prop}
  (h1:∀E (Q:Value->Shared->Prop),Q u s->wpAny (model prog w) A (eval e1 env) Q E s) (h2:∀E (Q:Value->Shared->Prop),(∀v tk,Pv v->Q v {s with toks:=tk})->wpAny (model prog w) A (eval e2 env) Q E s)
  (he1:starEach [e1,e2] env=(false,eval e1 env)::starEach [e2] env) (he2:starEach [e2] env=(false,eval e2 env)::starEach [] env)
  (hQ:∀v tk,Pv v->Q (.ref s.heap.objs.size) {s with toks:=tk,heap:=s.heap.push {cls:=.type "tuple",data:=.seq #[u,v]} }):wpAny (model prog w) A (eval (.Tuple [e1,e2] k pos) env) Q E s:=by
 refine wpAny_Tuple (nq (h1 _ _ (nq (h2 _ _ fun v tk hv=>nA ⟨?_,?_⟩) he2)) he1)
 ·rw[jQ];exact az (show 2<=100 by decide) (by decide)
 ·exact hQ v tk hv
theorem N4(c:Nat):((pyStr [c])==(pyStr [92]))=decide (c=92):=by
 rw[rn];by_cases h:c=92
 ·subst h;decide
 ·simp[h]
noncomputable abbrev sv(gp:Nat->Pos):List Stmt:=
 [.If (.Name "escape" (gp 20)) [.Expr (.Yield (some (.Tuple [.Name "pos" (gp 21),.BinOp (.Constant (.str "\\") 0 (gp 22)) .Add (.Name "ch" (gp 23)) (gp 24)] 0 (gp 25))) (gp 26)) (gp 27),.Assign [.Name "escape" (gp 28)] (.Constant (.bool false) 0 (gp 29)) (gp 30)]
  [.If (.Compare (.Name "ch" (gp 31)) [.Eq] [.Constant (.str "\\") 0 (gp 32)] (gp 33)) [.Assign [.Name "escape" (gp 34)] (.Constant (.bool true) 0 (gp 35)) (gp 36)] [.Expr (.Yield (some (.Tuple [.Name "pos" (gp 37),.Name "ch" (gp 38)] 0 (gp 39))) (gp 40)) (gp 41)] (gp 42)] (gp 43)]
section
variable{gp:Nat->Pos}{a1 a2 a3 a4 a5 a6 a7 a8 a9:Pos}
theorem jd{M:Model}{R:GenEnd}{Y:Protocol}{c:Code}{fs:List Frame}{z z':Bool}{a b:List Stmt}{K:Flow->Sem Fin}{H:Value->Sem Fin}{gd:Bool->Bool}{lv:List Value->List Value}(e:z=z')(h:Seg M A R Y n bn c ((execs (cond z' a b) env).wrap K H gd lv) fs s):Seg M A R Y n bn c ((if z=true then execs a env else execs b env).wrap K H gd lv) fs s:=by
 rw[e]
 induction z'<;>exact h
theorem inter(g:rO env):interactive env=false:=by unfold interactive;rw[g.fn];rfl
theorem I6(g:rO env){fs:List Frame}{c:Code}{b:Bool}{K:Flow->Sem Fin}{H:Value->Sem Fin}(I7:fs=[])(hA:(A.over c fs).handled=none)
  (hK:K .next= .pure (.done (.ret .none))) (hi:I4 env it x.length b s) (k:GK env.locals it bn s) (lf:Lf items x x.length b n):
  Seg (model prog w) A (GR env.locals it) (GY env.locals it items) n bn c ((execs [.If (.Name "escape" a1) [.Expr (.Yield (some (.Tuple [.Name "pos" a2,.Constant (.str "\\") 0 a3] 0 a4)) a5) a6] [] a7] env).wrap K H id id) fs s:=by
 obtain⟨⟨m,t,hm,he,hp⟩,_⟩:=id hi;obtain⟨hn,hx,cZ⟩:=lf;rw[List.drop_length]at hn hx;refine jW (rN fun E=>tr (fP (kM g.fn g.ke hm he (mR (jd rfl ?_))) rfl) rfl)
 induction b with
 |false=>
  refine xR (xR ?_);rw[hK,I7];exact seg_end (.ok (.ret .none)) ⟨rfl,hn,k⟩
 |true=>
  rw[zb]at hn hx;have hc:=Lf.cut (r:=[]) hn hx cZ;rw[hn];refine jW (seg_Expr_Yield (I7▸rfl) rfl (I7▸rfl) (P8 (u:=.int ((x.length-1:Nat):Int) t) (Pv:=fun v=>v= .str (pyStr [92]) s.toks) (fun E Q h=>fP (kM g.fn g.kp hm hp h) rfl) (fun E Q h=>tn (h _ _ rfl)) rfl rfl fun v tk hv Lk hk=>?_) g.co (inter g));rw[hv];refine I3 k hi.live hc.1 fun s₂ ø=>hk _ _ (xR (xR ?_))
  rw[hK,I7];exact seg_end (.ok (.ret .none)) ⟨rfl,rfl,.refl ..⟩
noncomputable abbrev o7(gp:Nat->Pos):Expr:=.Tuple [.Name "pos" (gp 17),.Name "ch" (gp 18)] 0 (gp 19)
theorem xj{A:Around}(hA:A.handled=none):Draws prog w A.in1 it [it] (pyStr x).cps.size (fun i v=>∃c u,(pyStr x).cps[i]?=some c/\v= .str ⟨#[c]⟩ u) (fun i h=>h.IsStrIter it (strIterType (pyStr x)) (pyStr x) tx i):=by
 cases ha:(pyStr x).cps.all (· <128)
 ·rw[show strIterType (pyStr x)="str_iterator" by unfold strIterType;rw[ha];rfl];exact Draws.strWide (A:=A.in1) hA it (pyStr x) tx
 ·rw[show strIterType (pyStr x)="str_ascii_iterator" by unfold strIterType;rw[ha];rfl];exact Draws.strAscii (A:=A.in1) hA it (pyStr x) tx
theorem I8(g:rO env)(hL:env.locals≠it)(wg:env.locals≠it+1){R:GenEnd}{Y:Protocol}{fs:List Frame}{body:List Stmt}(hA:(A.over (.forLoop (o7 gp) (.ref (it+1)) body [] env) fs).handled=none){i:Nat}{b:Bool}(hI:GF env it x tx i b s){c:Nat}(hc:x[i]?=some c)
  (h:∀s' K H,K .next= .pure (.again (.forLoop (o7 gp) (.ref (it+1)) body [] env))->GK env.locals it s s'->GS env it x tx i b c s'->Seg (model prog w) A R Y n bn (.forLoop (o7 gp) (.ref (it+1)) body [] env) ((execs body env).wrap K H id id) fs s'):
  Seg (model prog w) A R Y n bn (.forLoop (o7 gp) (.ref (it+1)) body [] env) ((model prog w).den (.forLoop (o7 gp) (.ref (it+1)) body [] env)) fs s:=by
 have W:=WalksT.enumerateD (prog:=prog) (w:=w) (xj (it:=it) (x:=x) (tx:=tx) hA) (it+1) (pk _) (fun h=>pk _ (cq.mp h)) (.head _);obtain⟨⟨⟨m,t,hm,he,hp⟩,V5,_⟩,iX⟩:=hI;have sz:(pyStr x).cps.size=x.length:=cb ..;have nw:∀b,b≠it->b≠it+1->b∉[it+1,it]:=fun b q1 q2 h=>(bI.mp h).elim q2 fun h=>q1 (cq.mp h)
 refine Bf fun E=>W.item i s _ _ (sz▸(gH.mp hc).1) ⟨V5,iX⟩ fun T vals aj tk hP hT TN TP hk E=>?_
 obtain⟨t',v,⟨c',u,LF,e2⟩,e1⟩:=hP;rw[e1,e2,show c'=c from Option.some.inj (LF.symm.trans (List.getElem?_toArray.trans hc))]at TN;refine W.go _ _ _ i T _ _ _ TP fun aM P9 N5 E=>?_
 obtain⟨oT,qT,cT,nT,dT⟩:=TN;have TQ:aM.IsTuple T #[.int i t',.str ⟨#[c]⟩ u]:=⟨oT,N5 _ _ (W.apart _ _ _ TP) qT,cT,nT,dT⟩;obtain⟨⟨Qa,hen₂⟩,oi,qi,ci⟩:=P9;have Hk:∀b o,b≠it->b≠it+1->s.heap.get? b=some o->aM.get? b=some o:=fun b o q1 q2 e=>N5 b o (nw b q1 q2) (hk b o (nw b q1 q2) e)
 have Yc:aM.Ns env.locals m:=hm.at fun o e=>Hk _ o hL wg e
 refine Cr hA TQ rfl rfl fun eu TR=>?_
 have hk3:∀b o,aM.get? b=some o->eu.get? b=some o:=fun b o e=>TR b o (fun z=>nomatch(z▸bE aM).symm.trans e) e
 refine aA (gI (lI (qR g.kp (Yc.at fun o e=>hk3 _ o e) (fun yd TS pd=>?_) g.hp)));refine aA (gI (lI (qR g.kc TS (fun sM I9 u8=>bK fun K H hK=>?_) g.hp)));have Qb:∀b o,b≠env.locals->aM.get? b=some o->sM.get? b=some o:=fun b o q e=>(u8.2 b q).trans ((pd.2 b q).trans (hk3 b o e))
 exact h _ K H (hK .next) ⟨fun b o q0 q1 q2 e=>Qb b o q0 (Hk b o q1 q2 e),rfl,rfl⟩ ⟨_,t',u,Qa,I9,(au (by decide+kernel)).trans ((au (by decide+kernel)).trans he),(au (by decide+kernel)).trans (aw rfl),aw rfl,Qb _ _ (fu wg) hen₂,oi,Qb _ _ (fu hL) qi,ci⟩
noncomputable def SL(prog:Program)(w:World)(A:Around)(env:Env)(it:Addr)(items:List (Nat×List Nat))(gp:Nat->Pos)(fs:List Frame)(n:Nat)(bn:Shared)(K:Sem Fin)(s:Shared):Prop:=Seg (model prog w) A (GR env.locals it) (GY env.locals it items) n bn (.forLoop (o7 gp) (.ref (it+1)) (sv gp) [] env) K fs s
theorem u9(g:rO env)(hL:env.locals≠it)(wg:env.locals≠it+1){A:Around}{i:Nat}{b b':Bool}(hf:GF env it x tx i b s){E:Value->Shared->Prop}{Q:Unit->Shared->Prop}(h:∀s',GK env.locals it s s'->GF env it x tx i b' s'->Q () s'):
  wpAny (model prog w) A (storeName env "escape" (.bool b')) Q E s:=by
 obtain⟨⟨⟨m,t,ns,he,hp⟩,⟨old,en⟩,li⟩,oi,qi,c⟩:=hf;refine qR g.ke ns (fun sM I9 u8=>?_) g.hp;have Qb:∀b o,b≠env.locals->s.heap.get? b=some o->sM.get? b=some o:=fun b o q e=>(u8.2 b q).trans e
 have TM:=Qb _ _ (fu hL) qi;exact h _ ⟨fun b o q1 ø ø e=>Qb b o q1 e,rfl,rfl⟩ ⟨⟨⟨_,t,I9,aw rfl,(au (by decide+kernel)).trans hp⟩,⟨old,Qb _ _ (fu wg) en⟩,⟨oi,TM⟩⟩,oi,TM,c⟩
section
variable{fs:List Frame}{i c:Nat}{K:Flow->Sem Fin}{H:Value->Sem Fin}
theorem Ml(g:rO env)(hL:env.locals≠it)(wg:env.locals≠it+1)(I7:splitAtGen fs=none)(RJ:fs.any Frame.guarded=false)(hit:items[items.length-(n+1)]?=some (i,[92,c]))(k:GK env.locals it bn s)(gs:GS env it x tx i true c s)
  (next:∀s₂ s',GK env.locals it s₂ s'->GF env it x tx (i+1) false s'->SL prog w A env it items gp fs n s₂ (K .next) s'):SL prog w A env it items gp fs (n+1) bn ((execs (sv gp) env).wrap K H id id) s:=by
 obtain⟨m,t,u,old,hm,he,hp,hch,_⟩:=id gs;refine jW (rN fun E=>tr (fP (kM g.fn g.ke hm he (mR (jd rfl ?_))) rfl) rfl);refine jW (seg_Expr_Yield I7 rfl RJ (P8 (u:=.int (i:Nat) t) (Pv:=fun v=>∃u',v= .str (pyStr [92,c]) u') (fun E Q h=>fP (kM g.fn g.kp hm hp h) rfl)
  (fun E Q h=>wpAny_BinOp (tn (fP (kM g.fn g.kc hm hch (add_str (fun t' tk=>h _ _ ⟨_,rfl⟩) ?_)) rfl))) rfl rfl fun v tk hv Lk hk=>?_) g.co (inter g))
 ·rw[jQ];show 1+1<=_;decide
 ·obtain⟨u',e⟩:=hv
  rw[e];exact I3 k gs.gf.1.live hit fun s₂ ha=>hk _ _ (jW (za fun E=>qS (xD (u9 g hL wg (gs.gf.agree ha) fun h' k' f'=>next s₂ _ k' f')) rfl))
theorem Mm(g:rO env)(hL:env.locals≠it)(wg:env.locals≠it+1)(k:GK env.locals it bn s)(gs:GS env it x tx i false 92 s)
  (next:∀s',GK env.locals it bn s'->GF env it x tx (i+1) true s'->SL prog w A env it items gp fs n bn (K .next) s'):SL prog w A env it items gp fs n bn ((execs (sv gp) env).wrap K H id id) s:=by
 obtain⟨m,t,u,old,hm,he,hp,hch,_⟩:=id gs;refine jW (rN fun E=>tr (fP (kM g.fn g.ke hm he (mR (jd rfl ?_))) rfl) rfl);refine jW (rN fun E=>tq (fP (kM g.fn g.kc hm hch (tn (eq_str (mR (jd (N4 92) ?_))))) rfl) rfl);exact jW (za fun E=>qS (xD (u9 (s:={s with toks:=s.toks+1}) g hL wg (gs.gf.moved fun ø ø ø q=>q) fun h' k' f'=>next _ (k.trans ⟨k'.1,k'.2,k'.3⟩) f')) rfl)
theorem Mn(g:rO env)(I7:splitAtGen fs=none)(RJ:fs.any Frame.guarded=false)(hc:c≠92)(hit:items[items.length-(n+1)]?=some (i,[c]))(k:GK env.locals it bn s)(gs:GS env it x tx i false c s)
  (next:∀s₂,GF env it x tx (i+1) false s₂->SL prog w A env it items gp fs n s₂ (K .next) s₂):SL prog w A env it items gp fs (n+1) bn ((execs (sv gp) env).wrap K H id id) s:=by
 obtain⟨m,t,u,old,hm,he,hp,hch,_⟩:=id gs;refine jW (rN fun E=>tr (fP (kM g.fn g.ke hm he (mR (jd rfl ?_))) rfl) rfl);refine jW (rN fun E=>tq (fP (kM g.fn g.kc hm hch (tn (eq_str (mR (jd ((N4 c).trans (db hc)) ?_))))) rfl) rfl);refine jW (seg_Expr_Yield I7 rfl RJ (P8 (u:=.int (i:Nat) t) (Pv:=fun v=>v= .str (pyStr [c]) u) (fun E Q h=>fP (kM g.fn g.kp hm hp h) rfl) (fun E Q h=>fP (kM g.fn g.kc hm hch (h _ _ rfl)) rfl) rfl rfl fun v tk hv Lk hk=>?_) g.co (inter g));rw[hv];exact I3 (s:={s with toks:=s.toks+1}) ⟨k.1,k.2,k.3⟩ gs.gf.1.live hit fun s₂ ha=>hk _ _ (next s₂ (gs.gf.agree ha))
end
theorem Ja(g:rO env)(hL:env.locals≠it)(wg:env.locals≠it+1){fs:List Frame}(I7:splitAtGen fs=none)(RJ:fs.any Frame.guarded=false)
  (hA:(A.over (.forLoop (o7 gp) (.ref (it+1)) (sv gp) [] env) fs).handled=none)
  (Dk:∀b bn s n,I4 env it x.length b s->GK env.locals it bn s->Lf items x x.length b n->Seg (model prog w) A (GR env.locals it) (GY env.locals it items) n bn (.block [] env) (leafOf (.ok .next)) fs s):
  ∀k i b bn s n,i+k=x.length->Lf items x i b n->GF env it x tx i b s->GK env.locals it bn s->SL prog w A env it items gp fs n bn ((model prog w).den (.forLoop (o7 gp) (.ref (it+1)) (sv gp) [] env)) s:=by
 intro k
 induction k with
 |zero=>
  intro i b bn s n (e:i=_) lf hI k;obtain⟨⟨⟨m,t,hm,he,hp⟩,⟨old,V5⟩,_⟩,iX⟩:=hI;refine Bf fun E=>I2 hA V5 iX (Array.getElem?_eq_none (e▸jj (cb ..))) fun h' zW l7=>?_
  rw[e]at hp lf;exact Dk b bn _ n ⟨⟨m,t,hm.at fun o e=>zW _ o hL e,he,hp⟩,⟨old,zW _ _ (pk _) (e▸V5)⟩,l7⟩ (k.trans (.heap (tk:=s.toks) fun b o h1 h2 h3 e=>zW b o h2 e)) lf
 |succ k ih=>
  intro i b bn s n hk lf hI k₀;have ew:i<x.length:=by omega
  have Lj:i+1+k=x.length:=by omega
  have hc:=iK ew;refine I8 g hL wg hA hI hc fun s' K H hK k' gs=>?_
  have go:∀n b' bn s,Lf items x (i+1) b' n->GF env it x tx (i+1) b' s->GK env.locals it bn s->SL prog w A env it items gp fs n bn (K .next) s:=fun n b' bn s lf hf k=>by
   rw[hK];exact seg_again rfl (ih (i+1) b' bn s n Lj lf hf k)
  have hd:=List.drop_eq_getElem_cons ew
  induction b with
  |false=>
   by_cases V6:x[i]=92
   ·exact Mm g hL wg (k₀.trans k') (V6▸gs) fun s₂ k₂ Qc=>go n true bn s₂ (lf.same (by rw[hd,td,aw V6])) Qc k₂
   ·obtain⟨n',e,hit,lf'⟩:=lf.cons (i':=i+1) (b':=false) (p:=(i,[x[i]])) (by rw[hd,td,au V6])
    rw[e];exact Mn g I7 RJ V6 hit (k₀.trans k') gs fun s₂ Qc=>go n' false s₂ s₂ lf' Qc (.refl ..)
  |true=>
   obtain⟨n',e,hit,lf'⟩:=lf.cons (i':=i+1) (b':=false) (p:=(i,[92,x[i]])) (by rw[hd,zc]);rw[e];exact Ml g hL wg I7 RJ hit (k₀.trans k') gs fun s₂ s₃ C1 Yd=>go n' false s₂ s₃ lf' Yd C1
end
end
end
section
section
variable{prog:Program}{w:World}{A:Around}{E:Value->Shared->Prop}{s:Shared}
theorem Bi{a:Addr}{g n:Nat}{gs:GenState}{L it:Addr}{Y:Protocol}{Q:Option Value->Shared->Prop}(hh:A.handled=none)(hl:s.heap.NoLimit)(EW:A.depth<recursionLimit)(hg:s.heap.IsGen a g)(Bj:s.gens[g]?=some gs)
  (Ye:gs.Goes (model prog w) A.in1 (GR L it) Y n (.send .none) (s.setGen g .running))
  (hY:∀v s₁ gs',gs'.bare=true->Y (n-1) (s.setGen g .running) v s₁ (fun r' hU=>match n with|0=>False|m+1=>gs'.Goes (model prog w) A.in1 (GR L it) Y m r' hU)->Q (some v) (s₁.setGen g gs'))
  (hP:∀s₁,GP L it n (s.setGen g .running) s₁->∀h',(∀b o,s₁.heap.get? b=some o->h'.get? b=some o)->Q none {s₁.setGen g .finished with heap:=h'}):wpAny (model prog w) A (pyNext (.ref a)) Q E s:=by
 have LL:gs≠ .running/\gs≠ .finished:=⟨fun e=>by subst e;exact Ye.elim,fun e=>by subst e;exact Ye.elim⟩;refine aA (tI (kg hg.typeIs slot_gen_next (lM slot_gen_next hg.typeIs entry_gen_next ?_ (args_gen_next _))));show wpAny _ A.in1 (Builtin.Generator.genWake (.ref a) (.send .none)) _ _ s;unfold Builtin.Generator.genWake;refine aA (gI (wpAny_genNumber hg (aA (wpAny_genState Bj ?_))))
 cases gs with
 |running=>exact absurd rfl LL.1
 |finished=>exact absurd rfl LL.2
 |_=>
  refine aA (wpAny_roomToWake hl EW ?_);show wpAny _ A.in1 (.resume g (.send .none) [] _) _ _ s;refine wpAny_resumeQ Bj Ye (fun x s₁ hx=>?_) (fun v s₁ gs' hb hv=>?_)
  ·obtain⟨rfl,hp⟩:=hx
   show wpAny _ A.in1 (newExc (.type "StopIteration") []>>= _) _ _ _;refine aA (Bg fun h' e hk he=>aA (wpAny_raiseNew_none hh ?_));obtain⟨o,ho,hc⟩:=he;refine aA (wpAny_isInstance (T:="StopIteration") (b:=true) ⟨o,ho,hc⟩ isSubtype_stop ?_);exact bK (hP s₁ hp _ hk)
  ·exact bK ⟨v,rfl,bK (hY v s₁ gs' hb hv)⟩
end
inductive Jb(P:Pk)(hid:List Addr)(x:V)(St:List Addr->List Addr->Nat->Shared->Prop)(i:Nat)(I:Addr)(W:List Addr)(gi:Option Nat)(s s':Shared)(r:Option Value):Prop
 |mk (v:Value) (X:List Addr) (e:r=some v) (n:∀a∈X,s.heap.get? a=none) (l:cD s'.heap X) (d:Dn P s'.heap (X++hid) x v) (st:St (X++W) (X++hid) (i+1) s') (q:Quiet s' I) (mv:Mv W gi s s'):Jb P hid x St i I W gi s s' r
structure Jc(P:Pk)(A:Around)(I:Addr)(gi:Option Nat)(xs:List V)(St:List Addr->List Addr->Nat->Shared->Prop):Prop where
 frame:∀W hid ar i s s',(∀a∈W,a∈hid)->St W hid i s->Ks W hid ar s s'->St W ar i s'
 item:∀W hid i s x (E:Value->Shared->Prop),xs[i]?=some x->(∀a∈W,a∈hid)->P.G s.heap->cD s.heap hid->St W hid i s->
  wpAny (model P.prog P.w) A (pyNext (.ref I)) (fun r s'=>Jb P hid x St i I W gi s s' r) E s
 done:∀W hid s (E:Value->Shared->Prop),(∀a∈W,a∈hid)->P.G s.heap->cD s.heap hid->St W hid xs.length s->wpAny (model P.prog P.w) A (pyNext (.ref I)) (fun r s'=>r=none/\Mv0 W gi s s') E s
noncomputable abbrev m6(p:Nat×List Nat):V:=.tup [.int p.1,.str p.2]
section
variable{P:Pk}{A:Around}{a L g:Nat}{items:List (Nat×List Nat)}
inductive Yg(P:Pk)(A:Around)(a L:Nat)(items:List (Nat×List Nat))(W:List Addr)(i:Nat)(s:Shared)(gs:GenState):Prop
 |mk (e:i=0) (w:W=[a,L]) (h:∀s₂,(∀o,s.heap.get? L=some o->s₂.heap.get? L=some o)->P.G s₂.heap->gs.Goes (model P.prog P.w) A.in1 (GR L s₂.heap.objs.size) (GY L s₂.heap.objs.size items) items.length (.send .none) s₂):Yg P A a L items W i s gs
inductive Yh(P:Pk)(A:Around)(a L:Nat)(items:List (Nat×List Nat))(W:List Addr)(i:Nat)(s:Shared)(gs:GenState):Prop
 |mk (it:Nat) (h0:0<i) (h1:i<=items.length) (w:W=[it,it+1,a,L]) (n1:a≠it) (n2:a≠it+1) (l1:∃o,s.heap.get? it=some o) (l2:∃o,s.heap.get? (it+1)=some o) (h:∀s₂,Agree L it s s₂->gs.Goes (model P.prog P.w) A.in1 (GR L it) (GY L it items) (items.length-i) (.send .none) s₂):Yh P A a L items W i s gs
inductive RK(P:Pk)(A:Around)(a L g:Nat)(items:List (Nat×List Nat))(W hid:List Addr)(i:Nat)(s:Shared):Prop
 |mk (gs:GenState) (hg:s.heap.IsGen a g) (Bj:s.gens[g]?=some gs) (n:a≠L) (l:∃o,s.heap.get? L=some o) (wa:a∈W) (wl:L∈W) (h:Yg P A a L items W i s gs\/Yh P A a L items W i s gs):RK P A a L g items W hid i s
theorem Bk{s s₁:Shared}{g:Nat}{gs gs':GenState}(hg:s.gens[g]?=some gs)(e:s₁.gens=(s.setGen g .running).gens):(∀(i:Nat) x,(some g:Option Nat)≠some i->s.gens[i]?=some x->(s₁.setGen g gs').gens[i]?=some x)/\(s₁.setGen g gs').gens[g]?=some gs':=by
 refine⟨fun i x hi hx=>?_,?_⟩
 ·have:g≠i:=fun z=>hi (by rw[z])
  simp only[Shared.setGen,e,Array.getElem?_setIfInBounds,au this];exact hx
 ·have ew:g<s.gens.size:=(xH.mp hg).1
  simp[Shared.setGen,e,ew]
theorem xk{s s₁:Shared}{g:Nat}{gs':GenState}(e:s₁.gens=(s.setGen g .running).gens)(hb:gs'.bare=true)(h:AllBare s.gens):AllBare (s₁.setGen g gs').gens:=by
 intro y hy;simp only[Shared.setGen,e,Array.setIfInBounds_setIfInBounds]at hy;rcases Array.mem_or_eq_of_mem_setIfInBounds hy with q|rfl
 ·exact h _ q
 ·exact hb
inductive TT(P:Pk)(A:Around)(a L g:Nat)(items:List (Nat×List Nat))(W:List Addr)(i:Nat)(s:Shared)(gs:GenState):Prop
 |mk (X:List Addr) (it:Nat) (w:X++W=[it,it+1,a,L]) (x:∀b∈X,s.heap.get? b=none) (n1:a≠it) (n2:a≠it+1) (go:gs.Goes (model P.prog P.w) A.in1 (GR L it) (GY L it items) (items.length-i) (.send .none) (s.setGen g .running)):TT P A a L g items W i s gs
theorem TT.of{W:List Addr}{i:Nat}{s:Shared}{gs:GenState}(hG:P.G s.heap)(ha:∃o,s.heap.get? a=some o)(h:Yg P A a L items W i s gs\/Yh P A a L items W i s gs):TT P A a L g items W i s gs:=by
 rcases h with⟨e,w,h⟩|⟨it,h0,h1,w,n1,n2,h4,h5,h6⟩
 ·obtain⟨o,ho⟩:=ha
  have old:∀b,s.heap.objs.size<=b->s.heap.get? b=none:=fun b h=>by
   induction e:s.heap.get? b with
   |none=>rfl
   |some o=>exact absurd (ez e) (g8.mpr h)
  rw[w,e];exact⟨[s.heap.objs.size,s.heap.objs.size+1],s.heap.objs.size,rfl,fun b hb=>old b ((bI.mp hb).elim (fun e=>jj e.symm) fun h=>cq.mp h▸jT _),ny (ez ho),ny (kS (ez ho)),h (s.setGen g .running) (fun ø e=>e) hG⟩
 ·rw[w]
  exact⟨[],it,rfl,fun b hb=>(nomatch hb),n1,n2,h6 (s.setGen g .running) fun b hb o e=>e⟩
theorem RK.frame{W hid ar:List Addr}{i:Nat}{s s':Shared}(st:RK P A a L g items W hid i s)(k:Ks W hid ar s s'):RK P A a L g items W ar i s':=by
 obtain⟨gs,⟨oa,nm,qn,hoa,ra⟩,Bj,Qd,⟨oL,qL⟩,wa,wl,h⟩:=st;have hk:∀b∈W,∀o,s.heap.get? b=some o->s'.heap.get? b=some o:=fun b hb o e=>k.keep b o (.inr hb) e
 refine⟨gs,⟨oa,nm,qn,hk a wa _ hoa,ra⟩,k.gens.1 _ _ Bj,Qd,⟨oL,hk L wl _ qL⟩,wa,wl,?_⟩;rcases h with⟨e,w,h⟩|⟨it,h0,h1,w,n1,n2,⟨o1,h4⟩,⟨o2,h5⟩,h6⟩
 ·exact .inl ⟨e,w,fun s₂ q=>h s₂ fun o e=>q o (hk L wl o e)⟩
 ·have m0:it∈W:=w▸ .head _
  have m1:it+1∈W:=w▸ .tail _ (.head _);exact .inr ⟨it,h0,h1,w,n1,n2,⟨o1,hk it m0 _ h4⟩,⟨o2,hk _ m1 _ h5⟩,fun s₂ q=>h6 s₂ fun b hb o e=>q b hb o (hk b (hb.elim (fun z=>z▸wl) fun hb=>hb.elim (fun z=>z▸m0) fun z=>z▸m1) o e)⟩
theorem Jd{it b:Nat}{X W:List Addr}(w:X++W=[it,it+1,a,L]){s:Shared}(hX:∀b∈X,s.heap.get? b=none)(hb:b∉W){o}(e:s.heap.get? b=some o):b≠L/\b≠it/\b≠it+1:=by
 have h:b∉[it,it+1,a,L]:=w▸fun h=>(bZ.mp h).elim (fun h=>nomatch(hX b h).symm.trans e) hb
 exact⟨fun z=>h (z▸ .tail _ (.tail _ (.tail _ (.head _)))),fun z=>h (z▸ .head _),fun z=>h (z▸ .tail _ (.head _))⟩
theorem Je{W hid:List Addr}{i m:Nat}{s s₁:Shared}{gs gs':GenState}{v:Value}{pc:Nat×List Nat}(TU:items[i]?=some pc)(hm:items.length-i=m+1)(live:cD s.heap hid)(hg:s.heap.IsGen a g)(Bj:s.gens[g]?=some gs)(Qd:a≠L)
  {X:List Addr} {it:Nat} (w:X++W=[it,it+1,a,L]) (hX:∀b∈X,s.heap.get? b=none) (n1:a≠it) (n2:a≠it+1) (hb:gs'.bare=true)
  (hv:GY L it items m (s.setGen g .running) v s₁ fun r' hU=>gs'.Goes (model P.prog P.w) A.in1 (GR L it) (GY L it items) m r' hU):Jb P hid (m6 pc) (RK P A a L g items) i a W (some g) s (s₁.setGen g gs') (some v):=by
 obtain⟨k,lv,⟨p,str,T,t1,t2,hit,ev,hT,hTn,hTL,hT0,hT1⟩,Qe⟩:=hv;obtain⟨oa,nm,qn,hoa,ra⟩:=hg;have hi:i<items.length:=(gH.mp TU).1;have OW:items.length-(i+1)=m:=congrArg Nat.pred hm;rw[show items.length-(m+1)=i from hm▸Nat.sub_sub_self (dU hi),TU]at hit;rw[Option.some.inj hit];have ka:=k.keep a _ Qd n1 n2 hoa;have l4:∀b∈X++W,∃o,s₁.heap.get? b=some o:=w▸fun b hb=>(bI.mp hb).elim (fun e=>lv b (.inr (.inl e))) fun hb=>(bI.mp hb).elim (fun e=>lv b (.inr (.inr e))) fun hb=>(bI.mp hb).elim (fun e=>e▸⟨oa,ka⟩) fun hb=>lv b (.inl (cq.mp hb))
 have hTX:T∉X++W:=w▸fun hb=>(bI.mp hb).elim hT0 fun hb=>(bI.mp hb).elim hT1 fun hb=>(bI.mp hb).elim (fun e=>nomatch(e▸hTn:s.heap.get? a=none).symm.trans hoa) fun hb=>hTL (cq.mp hb)
 obtain⟨q1,q2⟩:=Bk (gs':=gs') Bj k.gens;refine⟨v,X,rfl,hX,fun b hb=>l4 b (cP _ hb),?_,?_,⟨oa,"generator",ka,ra.1,by decide⟩,⟨⟨fun b o hb e=>?_,q1,xk k.gens hb,k.os⟩,fun b hb=>l4 b (ck _ hb)⟩⟩
 ·rw[ev]
  exact Dn.Hq (fun hm=>(bZ.mp hm).elim (fun h=>hTX (cP _ h)) fun h=>(live T h).elim fun o e=>nomatch(hTn:s.heap.get? T=none).symm.trans e) hT (.cons (Dn.ofInt (P:=P) _ _) (.cons (Dn.ofStr (P:=P) _ _) .nil))
 ·rw[w]
  exact⟨gs',⟨oa,nm,qn,ka,ra⟩,q2,Qd,lv L (.inl rfl),.tail _ (.tail _ (.head _)),.tail _ (.tail _ (.tail _ (.head _))),.inr ⟨it,g9 _,hi,rfl,n1,n2,lv _ (.inr (.inl rfl)),lv _ (.inr (.inr rfl)),fun s₂ ha=>OW▸Qe s₂ ha⟩⟩
 ·have h:=Jd w hX hb e
  exact k.keep b o h.1 h.2.1 h.2.2 e
theorem ro.gen(hh:A.handled=none)(EW:A.depth<recursionLimit):Jc P A a (some g) (items.map m6) (RK P A a L g items)where
 frame:=fun W hid ar i s s' hW st k=>st.frame k
 item:=fun W hid i s x E hx hW hG live st=>by
  obtain⟨gs,hg,Bj,Qd,hL,wa,wl,h⟩:=st;rw[dh]at hx;refine cI hx fun pc TU ex=>?_
  obtain⟨m,OW⟩:=Nat.exists_eq_succ_of_ne_zero (Nat.sub_ne_zero_of_lt (gH.mp TU).1);obtain⟨X,it,w,hX,n1,n2,go⟩:=TT.of (g:=g) hG (hg.elim fun o q=>q.elim fun ø q=>q.elim fun ø q=>⟨o,q.1⟩) h;rw[OW]at go;exact Bi hh (P.nolim hG) EW hg Bj go (fun v s₁ gs' hb hv=>ex▸Je TU OW live hg Bj Qd w hX n1 n2 hb hv) fun s₁ hp h' hk=>nomatch hp.1
 done:=fun W hid s E hW hG live st=>by
  obtain⟨gs,hg,Bj,Qd,hL,wa,wl,h⟩:=st;obtain⟨X,it,w,hX,n1,n2,go⟩:=TT.of (g:=g) hG (hg.elim fun o q=>q.elim fun ø q=>q.elim fun ø q=>⟨o,q.1⟩) h;rw[List.length_map,tK]at go;refine Bi hh (P.nolim hG) EW hg Bj go (fun v s₁ gs' hb hv=>?_) fun s₁ hp h' hk=>?_
  ·obtain⟨_,_,_,Qe⟩:=hv
   exact(Qe s₁ fun ø ø ø e=>e).elim
  ·obtain⟨_,k⟩:=hp
   obtain⟨q1,q2⟩:=Bk (gs':=.finished) Bj k.gens;refine⟨rfl,fun b o hb e=>?_,q1,xk k.gens rfl,k.os⟩;have h:=Jd w hX hb e;exact hk b o (k.keep b o h.1 h.2.1 h.2.2 e)
end
end
section
variable{P:Pk}{n:Nat}{K:Cx}{lo:Bool}
noncomputable def qp(h h':Heap)(W:List Addr):Heap:={h' with objs:=h'.objs.mapIdx fun i o=>if i∈W then(h.objs[i]?).getD o else o}
theorem Mo(h h':Heap)(W:List Addr){a:Addr}(lW:cD h' W)(lW':cD h W):(qp h h' W).get? a=if a∈W then h.get? a else h'.get? a:=by
 have key:∀o,(qp h h' W).get? a=some o<->(if a∈W then h.get? a else h'.get? a)=some o:=by
  intro o;rw[tH];unfold qp;simp only[Array.getElem?_mapIdx,nB];by_cases hm:a∈W
  ·simp only[hm,jP]
   obtain⟨o1,q1⟩:=lW a hm;obtain⟨o2,q2⟩:=lW' a hm;have e1:=((tH _ _ _).mp q1).1;have e2:=(tH _ _ _).mp q2;rw[q2];constructor
   ·rintro⟨⟨x,hx,rfl⟩,h2⟩
    rw[e2.1];rfl
   ·intro q
    cases q;exact⟨⟨o1,e1,by rw[e2.1];rfl⟩,e2.2⟩
  ·simp only[hm,gZ]
   rw[tH];constructor
   ·rintro⟨⟨x,hx,rfl⟩,h2⟩;exact⟨hx,h2⟩
   ·rintro⟨h1,h2⟩;exact⟨⟨o,h1,rfl⟩,h2⟩
 cases e:(if a∈W then h.get? a else h'.get? a)with
 |none=>
  cases e':(qp h h' W).get? a with
  |none=>rfl
  |some o=>have:=(key o).mp e';rw[e]at this;cases this
 |some o=>exact(key o).mpr e
theorem aU.TV{env:Env}{out hid W X:List Addr}{gi:Option Nat}{m}{B s s':Shared}{ρ}(S:aU P K env out hid m B s ρ)(RA:∀a∈W,a∈out)(v:Mv W gi s s')(hW:∀a∈W,B.heap.get? a=none)(hg:∀g,gi=some g->B.gens.size<=g)
  (hX:∀a∈X,s.heap.get? a=none) (lX:cD s'.heap X):aU P K env (X++out) (X++hid) m B s' ρ:=by
 have lW:cD s.heap W:=fun a h=>S.live a (S.oh a (RA a h))
 let sm:Shared:={s with heap:=qp s.heap s'.heap W}
 have Qf:∀a,sm.heap.get? a=if a∈W then s.heap.get? a else s'.heap.get? a:=fun a=>Mo _ _ W v.live lW
 have k1:Kp s sm:=⟨fun b o h=>by
  rw[Qf];by_cases hm:b∈W
  ·rw[aw hm];exact h
  ·rw[au hm];exact v.keep b o hm h,.refl _,rfl⟩
 have lX':cD sm.heap X:=fun a h=>by
  rw[Qf];have:a∉W:=fun q=>by obtain⟨o,e⟩:=lW a q;rw[hX a h]at e;cases e
  rw[au this];exact lX a h
 have S1:=S.outer k1 hX lX';have v1:Mv W gi sm s':=⟨⟨fun b o hb h=>by rw[Qf,au hb]at h;exact h,v.gens,v.bare,v.os⟩,v.live⟩;exact S1.step (fun a h=>ck _ (RA a h)) v1 hW hg
inductive wv(P:Pk)(A:Around)(hid:List Addr)(xs:List V)(s s₂:Shared)(it:Value):Prop
 |mk (I:Addr) (W:List Addr) (gi:Option Nat) (St:List Addr->List Addr->Nat->Shared->Prop) (e:it= .ref I) (k:Kp s s₂) (h:Jc P A I gi xs St) (f:∀a∈W,s.heap.get? a=none) (l:cD s₂.heap W) (g:∀g,gi=some g->s.gens.size<=g) (st:St W (W++hid) 0 s₂):wv P A hid xs s s₂ it
noncomputable def TW(P:Pk)(n:Nat)(K:Cx)(e:Expr)(f:ao->Option (List V)):Prop:=
 ∀(A:Around) (env:Env) (out hid:List Addr) (m:Str->Option Value) (B s:Shared) (ρ:ao) (xs:List V) (E:Value->Shared->Prop),cJ n A->aU P K env out hid m B s ρ->f ρ=some xs->
  wpAny (model P.prog P.w) A (eval e env) (fun v s₁=>∀E,wpAny (model P.prog P.w) A (pyIter v) (fun it s₂=>wv P A hid xs s s₂ it) E s₁) E s
theorem Ry.less{h:Heap}{out out':List Addr}{fl:Fl}{f:Flow}(x:Ry P h out fl f)(hs:∀a∈out',a∈out):Ry P h out' fl f:=by
 cases fl with
 |ret v=>exact x.elim fun u q=>⟨u,q.1,q.2.less hs⟩
 |_=>exact x
inductive V7(P:Pk)(K:Cx)(env:Env)(out hid:List Addr)(B s:Shared)(St:List Addr->List Addr->Nat->Shared->Prop)(i:Nat)(ρ:ao)(s':Shared):Prop
 |mk (W ar:List Addr) (m':Str->Option Value) (S:aU P K env (W++out) ar m' B s' ρ) (K':Ks out hid ar s s') (wh:∀a∈W,a∈ar) (w:∀a∈W,s.heap.get? a=none) (st:St W ar i s'):V7 P K env out hid B s St i ρ s'
inductive Mp(P:Pk)(K:Cx)(env:Env)(out hid:List Addr)(B s:Shared)(xs:List V)(asg:ao->V->Option ao)(bf:ao->Option (ao×Fl))(aQ:ao)(fl:Fl)(St:List Addr->List Addr->Nat->Shared->Prop)(k:Nat)(s':Shared):Prop
 |mk (i:Nat) (am:ao) (e:k+i=xs.length) (F:V7 P K env out hid B s St i am s') (l:gz asg bf (xs.drop i) am=some (aQ,fl)):Mp P K env out hid B s xs asg bf aQ fl St k s'
section
variable{lc:Bool}{target:Expr}{body:List Stmt}{asg:ao->V->Option ao}{bf:ao->Option (ao×Fl)}{A:Around}{env:Env}{out hid:List Addr}{B s s':Shared}{xs:List V}{E:Value->Shared->Prop}{I:Addr}{gi:Option Nat}{St:List Addr->List Addr->Nat->Shared->Prop}{Q:Flow->Shared->Prop}
theorem Jf(rm:cJ n A)(ha:Et P K lc target asg)(hb:ow P n K body bf)(hI:Jc P A I gi xs St)(hg:∀g,gi=some g->s.gens.size<=g)(NM:∀g,gi=some g->B.gens.size<=g)(hB:∀a,s.heap.get? a=none->B.heap.get? a=none){i:Nat}{x:V}{am di va:ao}{fl:Fl}{J:Shared->Prop}
  (hx:xs[i]?=some x) (F:V7 P K env out hid B s St i am s') (h1:asg am x=some di) (h2:bf di=some (va,fl)) (hJ:∀dG rr,V7 P K env out hid B s St (i+1) va rr->Ry P rr.heap out fl dG->FB Q J dG rr):
  wpAny (model P.prog P.w) A (pyNext (.ref I)) (FT P A E env Q target body J (.ref I)) (FE P A E env) s':=by
 obtain⟨W,ar,m',S',K',Cj,hW,Ck⟩:=F;refine aD (hI.item W ar i s' x _ hx Cj S'.G S'.live Ck) (fun r s₃ eu=>?_) fun ø ø q=>q
 obtain⟨v,X,er,hX,lX,hv,TX,hq,mv⟩:=eu;rw[er];have TY:=S'.TV (fun a h=>cP _ h) mv (fun a h=>hB a (hW a h)) NM hX lX;have rv:aU P K env ((X++W)++out) (X++ar) m' B s₃ am:=by rw[List.append_assoc];exact TY
 have hXs:∀a∈X,s.heap.get? a=none:=fun a h=>by
  induction e:s.heap.get? a with
  |none=>rfl
  |some o=>
   by_cases q:a∈hid
   ·exact(S'.live a (K'.sub a q)).elim fun o' e'=>nomatch e'.symm.trans (hX a h)
   ·exact nomatch(K'.keep a o (.inl q) e).symm.trans (hX a h)
 have k1:=K'.mv mv.toMv0 hW hg;have Ph:Ks out hid (X++ar) s s₃:=⟨k1.keep,fun a h=>(bZ.mp h).elim (fun q=>.inr (hXs a q)) (k1.new a),fun a h=>ck _ (k1.sub a h),k1.gens,k1.os⟩;have Qg:∀a∈X++W,a∈X++ar:=fun a h=>(bZ.mp h).elim (fun q=>cP _ q) fun q=>ck _ (Cj a q)
 refine Ab hq (aD (ha A env _ _ m' B s₃ am di x v _ rm.handled rv h1 hv) (fun ø km yd=>?_) fun ø ø q=>q);obtain⟨Dl,LJ,rx,FX,_⟩:=yd;refine aD (hb A env _ Dl LJ B km di va fl _ rm rx h2) (fun f rr sM=>?_) fun ø ø q=>q
 obtain⟨zd,Qh,Qi,Jg,pV⟩:=sM;exact hJ f rr ⟨X++W,zd,Qh,Qi,(Ph.behind FX).behind Jg,fun a h=>Jg.sub a (FX.sub a (Qg a h)),fun a h=>(bZ.mp h).elim (hXs a) (hW a),
  hI.frame _ Dl zd (i+1) km rr (fun a h=>FX.sub a (Qg a h)) (hI.frame _ _ Dl (i+1) s₃ km Qg TX (FX.only fun a h=>cP _ h)) (Jg.only fun a h=>cP _ h)⟩ (pV.less fun a h=>ck _ h)
theorem Jh(rm:cJ n A)(ha:Et P K lc target asg)(hb:ow P n K body bf)(hI:Jc P A I gi xs St)(hg:∀g,gi=some g->s.gens.size<=g)(NM:∀g,gi=some g->B.gens.size<=g)(hB:∀a,s.heap.get? a=none->B.heap.get? a=none)(hl:cD s.heap hid)(ho:∀a∈out,a∈hid){aQ:ao}{fl:Fl}
  (hQ:∀dG s',Hi P K env out hid B s s' aQ fl dG->Q dG s') {k:Nat} (h:Mp P K env out hid B s xs asg bf aQ fl St k s'):wpAny (model P.prog P.w) A (pyNext (.ref I)) (FT P A E env Q target body (fun t=>∃m,m<k/\Mp P K env out hid B s xs asg bf aQ fl St m t) (.ref I)) (FE P A E env) s':=by
 obtain⟨i,am,e,F,l7⟩:=h;by_cases ew:i<xs.length
 ·obtain⟨j,hj⟩:=Nat.exists_eq_add_of_lt ew
  have hk:k=j+1:=by omega
  have Sv:j+(i+1)=xs.length:=by omega
  rw[List.drop_eq_getElem_cons ew]at l7;refine ak l7 fun di h1 l7=>ak l7 fun Yi h2 l7=>?_
  obtain⟨va,fl₃⟩:=Yi;refine Jf rm ha hb hI hg NM hB (iK ew) F h1 h2 fun dG rr Qj pV=>?_
  have inn:∀{TZ:ao} {fl':Fl} {dG:Flow},some (va,fl')=some (TZ,fl)->TZ=aQ->Ry P rr.heap out fl' dG->Q dG rr:=fun e e' h=>hQ _ _ (by
   cases e;obtain⟨W,zd,Qh,Qi,Jg,wh,w,st⟩:=Qj;exact⟨zd,Qh,e'▸Qi.inner fun a h=>hB a (w a h),Jg,h⟩)
  cases fl₃ with
  |next=>exact(show dG= .next from pV)▸⟨j,hk▸mT j,i+1,va,Sv,Qj,l7⟩
  |cont=>exact(show dG= .cont from pV)▸⟨j,hk▸mT j,i+1,va,Sv,Qj,l7⟩
  |brk=>exact(show dG= .brk from pV)▸inn l7 rfl rfl
  |ret v=>exact pV.elim fun u q=>q.1▸inn l7 rfl ⟨u,rfl,q.2⟩
 ·have he:i=xs.length:=by omega
  rw[tD (tA ew)]at l7;obtain⟨W,ar,m',S',K',Cj,hW,Ck⟩:=F;refine aD (hI.done W ar s' _ Cj S'.G S'.live (he▸Ck)) (fun r s₃ eu=>?_) fun ø ø q=>q
  obtain⟨er,mv⟩:=eu;rw[er];have hn:∀a∈W,a∉hid:=fun a h q=>(hl a q).elim fun o e=>nomatch e.symm.trans (hW a h)
  obtain⟨e1,e2⟩:=mQ (Option.some.inj l7);exact hQ .next s₃ ⟨_,m',e1▸S'.last mv (fun a h=>hB a (hW a h)) NM (fun a h q=>hn a q (ho a h)),(K'.mv mv hW hg).last hn,e2▸rfl⟩
end
theorem Dm{lc:Bool}{target iter:Expr}{body:List Stmt}{pos:Pos}{asg bf}{A:Around}{env:Env}{out hid:List Addr}{m:Str->Option Value}{B s:Shared}{ρ aQ:ao}{fl:Fl}{xs:List V}{E:Value->Shared->Prop}(rm:cJ n A)(S:aU P K env out hid m B s ρ)
  (hi:wpAny (model P.prog P.w) A (eval iter env) (fun v s₁=>wpAny (model P.prog P.w) A (pyIter v) (fun it s₂=>wv P A hid xs s s₂ it) E s₁) E s)
  (ha:Et P K lc target asg) (hb:ow P n K body bf) (hs:∀x,foldedSetIterable iter env x=pure x) (hf:gz asg bf xs ρ=some (aQ,fl)):
  wpAny (model P.prog P.w) A (exec (.For target iter body [] pos) env) (fun dG s'=>Hi P K env out hid B s s' aQ fl dG) E s:=by
 refine HF hs (aD hi (fun v s₁ aj=>aD aj (fun it s₂ aM=>?_) fun ø ø q=>q) fun ø ø q=>q);obtain⟨I,W,gi,St,e,kp,hI,hW,lW,hg,st⟩:=aM;rw[e];have ru:Ks out hid (W++hid) s s₂:=⟨fun b o ø h=>kp.keep b o h,fun a h=>(bZ.mp h).elim (fun q=>.inr (hW a q)) .inl,fun a h=>ck _ h,kp.gens,kp.os⟩;exact⟨fun k s'=>Mp P K env out hid B s xs asg bf aQ fl St k s',xs.length,⟨0,ρ,rfl,⟨W,W++hid,m,S.outer kp hW lW,ru,fun a h=>cP _ h,hW,st⟩,hf⟩,
  fun k s' h=>Jh rm ha hb hI hg (fun g e=>az S.kp.gens.size (hg g e)) (fun a h=>S.fresh h) S.live S.oh (fun ø ø q=>q) h⟩
theorem pD{lc:Bool}{target iter:Expr}{body:List Stmt}{pos:Pos}{it asg bf}(hi:TW P n K iter it)(ha:Et P K lc target asg)(hb:ow P n K body bf)(hs:∀env x,foldedSetIterable iter env x=pure x):
  zU P n K (.For target iter body [] pos) (LE it asg bf):=fun A env out hid m B s ρ aQ fl E rm S hf=>by
 refine ak hf fun xs yb gu=>?_
 clear hf;rename _=>hf
 exact Dm rm S (aD (hi A env out hid m B s ρ xs E rm S yb) (fun v s₁ h=>h E) fun ø ø q=>q) ha hb (hs env) hf
theorem ro.toG{A:Around}{I:Addr}{W:List Addr}{gi:Option Nat}{xs:List V}{St:List Addr->Nat->Shared->Prop}(h:ro P A I W gi xs St):Jc P A I gi xs (fun W' hid i s=>W'=W/\St hid i s)where
 frame:=fun W' hid ar i s s' hW st k=>by
  obtain⟨rfl,st⟩:=st;exact⟨rfl,h.frame hid ar i s s' hW st k⟩
 item:=fun W' hid i s x E hx hW hG live st=>by
  obtain⟨rfl,st⟩:=st;exact aD (h.item hid i s x E hx hW hG live st) (fun r s' q=>by obtain⟨v,q1,q2,q3,q4,q5⟩:=q;exact⟨v,[],q1,fun a h=>(nomatch h),fun a h=>(nomatch h),q2,⟨rfl,q3⟩,q4,q5⟩) fun ø ø q=>q
 done:=fun W' hid s E hW hG live st=>by
  obtain⟨rfl,st⟩:=st;exact h.done hid s E hW hG live st
theorem So.toG{A:Around}{hid:List Addr}{xs:List V}{s s₂:Shared}{it:Value}(q:So P A hid xs s s₂ it):wv P A hid xs s s₂ it:=by
 obtain⟨I,W,gi,St,e,k,h,f,l,g,st⟩:=q;exact⟨I,W,gi,_,e,k,h.toG,f,l,g,rfl,st⟩
theorem dB{lc:Bool}{target iter:Expr}{body:List Stmt}{pos:Pos}{it asg bf}(hi:LD P n K iter it)(ha:Et P K lc target asg)(hb:ow P n K body bf)(hs:∀env x,foldedSetIterable iter env x=pure x):
  zU P n K (.For target iter body [] pos) (LE it asg bf):=fun A env out hid m B s ρ aQ fl E rm S hf=>by
 refine ak hf fun xs yb gu=>?_
 clear hf;rename _=>hf
 exact Dm rm S (aD (hi A env out hid m B s ρ xs E rm S yb) (fun v s₁ h=>aD h (fun ø ø q=>q.toG) fun ø ø q=>q) fun ø ø q=>q) ha hb (hs env) hf
theorem Ji{A:Around}(hh:A.handled=none){s bn:Shared}(kp:Kp bn s){hid:List Addr}{l:List Nat}{t:Tok}{E:Value->Shared->Prop}:
  wpAny (model P.prog P.w) A (pyIter (.str (pyStr l) t)) (fun it s₂=>wv P A hid (l.map fun c=>V.str [c]) bn s₂ it) E s:=by
 have jr:bn.heap.get? s.heap.objs.size=none:=by
  cases e:bn.heap.get? s.heap.objs.size with
  |none=>rfl
  |some o=>have:=kp.keep _ _ e;rw[bE]at this;cases this
 have sj:(pyStr l).cps.size=(l.map fun c=>V.str [c]).length:=by simp
 have rel:∀hid i x v (s:Shared),True->(l.map fun c=>V.str [c])[i]?=some x->SignAt (pyStr l) i v->Dn P s.heap hid x v:=fun hid i x v s ø hx hv=>by
  obtain⟨c,u,hc,rfl⟩:=hv;rw[dh]at hx;have LF:l[i]?=some c:=by simpa using hc
  rw[LF]at hx;cases hx;exact .ofStr [c] u
 cases ha:(pyStr l).cps.all (· <128)
 ·have W:=Walks.strWide (prog:=P.prog) (w:=P.w) hh s.heap.objs.size (pyStr l) t
  rw[sj]at W;refine wpAny_pyIter_wide ha ⟨s.heap.objs.size,[s.heap.objs.size],none,_,rfl,kp.trans (Kp.push s _ _),ro.toG (ro.of W (fun ø ø=>True) (fun ø ø ø ø ø ø ø=>trivial) (fun ø ø ø ø ø ø ø=>trivial) rel (fun i h st=>?_)),fun b hb=>?_,fun b hb=>?_,fun g q=>(nomatch q),rfl,?_⟩
  ·obtain⟨o,ho,hc,_⟩:=st
   exact⟨o,"str_iterator",ho,hc,by decide⟩
  ·obtain rfl:b=s.heap.objs.size:=by simpa using hb
   exact jr
  ·obtain rfl:b=s.heap.objs.size:=by simpa using hb
   exact⟨_,bJ _ rfl⟩
  ·refine⟨⟨_,bJ _ rfl,rfl,rfl⟩,trivial,fun b hb zV=>absurd (by simpa using hb) zV,by simp⟩
 ·have W:=Walks.strAscii (prog:=P.prog) (w:=P.w) hh s.heap.objs.size (pyStr l) t
  rw[sj]at W;refine wpAny_pyIter_ascii ha ⟨s.heap.objs.size,[s.heap.objs.size],none,_,rfl,kp.trans (Kp.push s _ _),ro.toG (ro.of W (fun ø ø=>True) (fun ø ø ø ø ø ø ø=>trivial) (fun ø ø ø ø ø ø ø=>trivial) rel (fun i h st=>?_)),fun b hb=>?_,fun b hb=>?_,fun g q=>(nomatch q),rfl,?_⟩
  ·obtain⟨o,ho,hc,_⟩:=st
   exact⟨o,"str_ascii_iterator",ho,hc,by decide⟩
  ·obtain rfl:b=s.heap.objs.size:=by simpa using hb
   exact jr
  ·obtain rfl:b=s.heap.objs.size:=by simpa using hb
   exact⟨_,bJ _ rfl⟩
  ·refine⟨⟨_,bJ _ rfl,rfl,rfl⟩,trivial,fun b hb zV=>absurd (by simpa using hb) zV,by simp⟩
end
section
variable{P:Pk}{n:Nat}{K:Cx}{lo:Bool}
section
variable{gp:Nat->Pos}
noncomputable abbrev jZ(gp:Nat->Pos):List Stmt:=
 [.Assign [.Name "pos" (gp 0)] (.Constant (.int 0) 0 (gp 1)) (gp 2),.Assign [.Name "escape" (gp 3)] (.Constant (.bool false) 0 (gp 4)) (gp 5),
  .For (o7 gp) (.Call (.Name "enumerate" (gp 6)) [.Name "addr" (gp 7)] [] (gp 8)) (sv gp) [] (gp 9),
  .If (.Name "escape" (gp 10)) [.Expr (.Yield (some (.Tuple [.Name "pos" (gp 11),.Constant (.str "\\") 0 (gp 12)] 0 (gp 13))) (gp 14)) (gp 15)] [] (gp 16)]
structure N6(fd:FuncData):Prop where
 gl:fd.globals=mainGlobals
 bl:fd.builtins=builtinsNs
 clo:fd.closure=[]
 bind:∀v,bindArgs fd ⟨[v],[]⟩=pure [((Str.ofString "addr"),v)]
 fn:fd.scope.kind= .function
 co:fd.scope.isCoroutine=false
 gen:fd.scope.isGenerator=true
 ka:fd.scope.names.lookup (Str.ofString "addr")=some .local
 kp:fd.scope.names.lookup (Str.ofString "pos")=some .local
 ke:fd.scope.names.lookup (Str.ofString "escape")=some .local
 kc:fd.scope.names.lookup (Str.ofString "ch")=some .local
 kn:fd.scope.names.lookup (Str.ofString "enumerate")=some .globalImplicit
 cell:∀x∈fd.scope.names,x.2≠ .cell
theorem ze{A:Around}(hh:A.handled=none)(c c':Code)(k:Result->Sem Fin)(g:Bool)(l:List Value)(p:Pos):(A.in1.over c [.ret k none g l c' p []]).handled=none:=by
 show(marksOver [.ret k none g l c' p []] (A.handled,A.handled)).1=none;rw[hh];rfl
theorem Mq{A:Around}(hh:A.handled=none){env:Env}(g:rO env)(ka:env.kindOf "addr"=some .local)(kn:env.kindOf "enumerate"=some .globalImplicit){x:List Nat}{tx t:Tok}{bn s:Shared}{it:Addr}(hit:s.heap.objs.size=it)(hL:env.locals<it){K:Flow->Sem Fin}{H:Value->Sem Fin}(hK:K .next= .pure (.done (.ret .none)))
  (glob:∀{A':Around} {E':Value->Shared->Prop} {Q:Value->Shared->Prop} {tk:Nat},Q (.type "enumerate") {s with toks:=tk}->wpAny (model P.prog P.w) A' (loadGlobal env "enumerate") Q E' {s with toks:=tk})
  {m:Str->Option Value} (hm:s.heap.Ns env.locals m) (ha:m "addr"=some (.str (pyStr x) tx)) (he:m "escape"=some (.bool false)) (hp:m "pos"=some (.int 0 t)) (k₁:GK env.locals it bn s):
  Seg (model P.prog P.w) A.in1 (GR env.locals it) (GY env.locals it (gS 0 false x)) (gS 0 false x).length bn (.func (jZ gp) env) ((execs [.For (o7 gp) (.Call (.Name "enumerate" (gp 6)) [.Name "addr" (gp 7)] [] (gp 8)) (sv gp) [] (gp 9),
   .If (.Name "escape" (gp 10)) [.Expr (.Yield (some (.Tuple [.Name "pos" (gp 11),.Constant (.str "\\") 0 (gp 12)] 0 (gp 13))) (gp 14)) (gp 15)] [] (gp 16)] env).wrap K H id id) [] s:=by
 subst hit;refine jW (Mk (fun x=>rfl) fun E=>kO (Name_function_global g.fn kn (glob ?_) rfl));refine PySem.Pv.callWith_type1 (nq (fP (kM g.fn ka hm ha (nA ?_)) rfl));refine call_enumerate_str fun eu N7 Do aa0 N8 E=>?_
 have W:=WalksT.enumerateD (xj (prog:=P.prog) (w:=P.w) (A:=A.in1.over (.func (jZ gp) env) []) (it:=s.heap.objs.size) (x:=x) (tx:=tx) hh) (s.heap.objs.size+1) (pk _) (fun h=>pk _ (cq.mp h)) (.head _);refine W.self 0 _ _ _ ⟨⟨.none,N7⟩,Do⟩ fun k l p hk=>?_
 refine Ja (x:=x) (tx:=tx) g (ny hL) (ny (kS hL)) rfl rfl (ze hh _ _ _ _ _ _) (fun b bn s' n' hI k' lf=>seg_leaf (.ok .next) ?_) x.length 0 false bn _ _ (gg _) ⟨rfl,by rw[tK];rfl,bL _⟩
  ⟨⟨⟨m,t,hm.at fun o q=>N8 _ o q,he,hp⟩,⟨.none,N7⟩,Do.elim fun o q=>⟨o,q.1⟩⟩,Do⟩ ⟨fun b o e1 e2 e3 e=>N8 b o (k₁.keep b o e1 e2 e3 e),k₁.gens,k₁.os⟩
 rw[hk];exact I6 g (x:=x) (fs:=[]) rfl (by exact hh) hK hI k' lf
theorem Gd{A:Around}(hh:A.handled=none){env:Env}(g:rO env)(ka:env.kindOf "addr"=some .local)(kn:env.kindOf "enumerate"=some .globalImplicit)(gl:env.globals=mainGlobals)(bl:env.builtins=builtinsNs){x:List Nat}{tx:Tok}{s:Shared}
  (hLg:env.locals≠mainGlobals) (hLb:env.locals≠builtinsNs) (hG:P.G s.heap) (vb:P.glob "enumerate"=some (.type "enumerate")) {m:Str->Option Value} (hm:s.heap.Ns env.locals m) (hma:m "addr"=some (.str (pyStr x) tx)):
  Seg (model P.prog P.w) A.in1 (GR env.locals s.heap.objs.size) (GY env.locals s.heap.objs.size (gS 0 false x)) (gS 0 false x).length s (.func (jZ gp) env)
   ((model P.prog P.w).den (.func (jZ gp) env)) [] s:=by
 refine seg_func ?_;refine jW (za fun E=>qS (wpAny_Constant_int (qR g.kp hm (fun aj xl eS=>?_) g.hp)) rfl);refine jW (za fun E=>qS (xD (qR g.ke xl (fun aM T0 lh=>?_) g.hp)) rfl);have sj:aM.objs.size=s.heap.objs.size:=lh.1.trans eS.1;have Hk:∀b o,b≠env.locals->s.heap.get? b=some o->aM.get? b=some o:=fun b o q e=>(lh.2 b q).trans ((eS.2 b q).trans e)
 obtain⟨mg,mb,z1,z2,z3⟩:=P.aV hG;have z1':aM.Ns env.globals mg:=gl▸z1.at fun o q=>Hk _ o (fu hLg) q
 have z2':aM.Ns env.builtins mb:=bl▸z2.at fun o q=>Hk _ o (fu hLb) q
 exact Mq hh g ka kn sj (hm.elim fun oL q=>q.elim fun es q=>q.elim fun ep q=>ez q.1) rfl (fun h=>(z3 _ _ vb).elim (fun q=>loadGlobal_global z1' q h) fun q=>loadGlobal_builtin z1' q.1 z2' q.2 h) T0
  ((au (by decide+kernel)).trans ((au (by decide+kernel)).trans hma)) (aw rfl) ((au (by decide+kernel)).trans (aw rfl)) ⟨fun b o e1 ø ø e=>Hk b o e1 e,rfl,rfl⟩
theorem Jj(vb:P.glob "enumerate"=some (.type "enumerate")){A:Around}{s s₁:Shared}{hid:List Addr}{x:List Nat}{tx:Tok}{E:Value->Shared->Prop}{env:Env}{aj:Heap}(hh:A.handled=none)(Ge:A.depth<recursionLimit)(hG:P.G s.heap)
  (g:rO env) (ka:env.kindOf "addr"=some .local) (kn:env.kindOf "enumerate"=some .globalImplicit) (gl:env.globals=mainGlobals) (bl:env.builtins=builtinsNs) (eL:env.locals=s.heap.objs.size)
  (xl:aj.Ns env.locals (fun y=>([((Str.ofString "addr"),Value.str (pyStr x) tx)]:List (Str×Value)).reverse.lookup y)) (sj:aj.objs.size=s.heap.objs.size+1) (T1:∀b o,s.heap.get? b=some o->aj.get? b=some o) (Hk:∀b o,aj.get? b=some o->s₁.heap.get? b=some o)
  (lg:∃o,s₁.heap.get? aj.objs.size=some o) (sO:s₁.heap.IsGen aj.objs.size s.gens.size) (Bj:s₁.gens=s.gens.push (GenState.fresh (Code.func (jZ gp) env))) (NE:s₁.os=s.os):
  wpAny (model P.prog P.w) A (pyIter (.ref aj.objs.size)) (fun it s₂=>wv P A hid ((gS 0 false x).map m6) s s₂ it) E s₁:=by
 obtain⟨oL,es,ep,qL,_⟩:=id xl;obtain⟨mg,mb,z1,z2,_⟩:=P.aV hG;have cZ:aj.objs.size≠env.locals:=by rw[eL,sj];exact pk _
 have old:∀b,s.heap.objs.size<=b->s.heap.get? b=none:=fun b h=>by
  induction e:s.heap.get? b with
  |none=>rfl
  |some o=>exact absurd (ez e) (g8.mpr h)
 refine wpAny_pyIter_gen sO ⟨aj.objs.size,[aj.objs.size,env.locals],some s.gens.size,_,rfl,⟨fun b o e=>Hk b o (T1 b o e),⟨fun i y e=>?_,fun hb=>Bj▸AllBare.push hb rfl⟩,NE⟩,ro.gen (L:=env.locals) hh Ge,fun b hb=>old b ?_,fun b hb=>(bI.mp hb).elim (fun e=>e▸lg) fun h=>cq.mp h▸⟨oL,Hk _ _ qL⟩,fun g' e=>jj (Option.some.inj e),?_⟩
 ·rw[Bj,Array.getElem?_push,au (ny (xH.mp e).1)];exact e
 ·exact(bI.mp hb).elim (fun e=>e▸sj▸jT _) fun h=>jj (eL.symm.trans (cq.mp h).symm)
 ·refine⟨.fresh (.func (jZ gp) env),sO,by rw[Bj];exact Array.getElem?_push_size ..,cZ,⟨oL,Hk _ _ qL⟩,.head _,.tail _ (.head _),.inl ⟨rfl,rfl,fun s₂ Mr hG2=>⟨rfl,?_⟩⟩⟩
  exact Gd hh g ka kn gl bl (fun e=>gv _ (eL▸e▸z1.lt)) (fun e=>gv _ (eL▸e▸z2.lt)) hG2 vb (xl.at fun o e=>Mr o (Hk _ _ e)) rfl
theorem Jk{a:Addr}{fd:FuncData}(Cg:∀h,P.G h->(∃o,h.get? a=some o/\o.data= .func fd)/\h.CodeRec fd.code fd.qualname)(gf:N6 fd)
  (nU:fd.body= .stmts (jZ gp)) (vb:P.glob "enumerate"=some (.type "enumerate"))
  {A:Around} {s:Shared} {hid:List Addr} {x:List Nat} {tx:Tok} {E:Value->Shared->Prop} (rm:cJ n A) (hG:P.G s.heap):
  wpAny (model P.prog P.w) A (call (.ref a) [.str (pyStr x) tx]) (fun v s₁=>∀E,wpAny (model P.prog P.w) A (pyIter v) (fun it s₂=>wv P A hid ((gS 0 false x).map m6) s s₂ it) E s₁) E s:=by
 obtain⟨⟨o,ho,OF⟩,Yj⟩:=Cg _ hG;have Ge:A.depth<recursionLimit:=eV (az (fB _ _) rm.depth) (by decide);refine wpAny_call (codeAny_call_generator Ge ho OF gf.co gf.gen nU Yj ?_);rw[gf.bind,gf.clo];refine bK (wpAny_newFunctionEnv gf.cell (fun y hy=>cq.mp hy▸gf.ka) (fun aj xl eS=>?_) gf.fn);have T1:∀b o,s.heap.get? b=some o->aj.get? b=some o:=fun b o e=>eS.extBut b o (ny (ez e)) (bz _ e)
 exact⟨(P.nolim hG).keeps T1,fun E=>Jj (env:=newEnv fd.scope s.heap.objs.size fd.globals [] (fd.qualname++".<locals>.") (some a) fd.code none fd.builtins) vb rm.handled Ge hG ⟨gf.fn,gf.co,gf.kp,gf.ke,gf.kc⟩ gf.ka gf.kn gf.gl gf.bl rfl xl
  (eS.1.trans (ji ..)) T1 (fun b o e=>bz _ e) ⟨_,bJ _ rfl⟩ ⟨_,_,_,bJ _ rfl,rfl,rfl,rfl⟩ rfl rfl⟩
noncomputable def Qk(xs:List V):Option (List V):=(V.one? xs).bind fun x=>x.jO.bind fun l=>if l.length<=most then some ((gS 0 false l).map m6)else none
theorem Ql(l:List Nat):Qk [.str l]=if l.length<=most then some ((gS 0 false l).map m6)else none:=id rfl
noncomputable def Bl(P:Pk)(a:Addr):Prop:=∃fd:FuncData,(∀h,P.G h->(∃o,h.get? a=some o/\o.data= .func fd)/\h.CodeRec fd.code fd.qualname)/\N6 fd/\P.glob "enumerate"=some (.type "enumerate")/\
 ∃gp,fd.body= .stmts (jZ gp)
theorem wv.pre{A:Around}{hid:List Addr}{xs:List V}{s s₁ s₂:Shared}{it:Value}(h:wv P A hid xs s₁ s₂ it)(k:Kp s s₁):wv P A hid xs s s₂ it:=by
 obtain⟨I,W,gi,St,z1,z2,z3,z4,z5,z6,z7⟩:=h;refine⟨I,W,gi,St,z1,k.trans z2,z3,fun b hb=>?_,z5,fun g e=>az k.gens.size (z6 g e),z7⟩
 induction e:s.heap.get? b with
 |none=>rfl
 |some o=>exact nomatch(k.keep _ _ e).symm.trans (z4 b hb)
theorem nW{id:Str}{p pos:Pos}{es:List Expr}{f}{a:Addr}(hx:K.aV.contains id=true)(hv:P.glob id=some (.ref a))(hd:(id==("__debug__":Str))=false)(hg:Bl P a)
  (hs:kl P n K true es f) (iX:∀env,starEach es env=es.map fun e=>(false,eval e env)) (cZ:es≠[]):TW P n K (.Call (.Name id p) es [] pos) (fun ρ=>(f ρ).bind Qk):=fun A env out hid m B s ρ xs E rm S hf=>by
 obtain⟨fd,Cg,gf,vb,gp,nU⟩:=hg;refine ak hf fun y hy hq=>ak hq fun y1 hy1 hq=>ak hq fun x Si hq=>eR hq fun hx2 e=>?_
 rw[V.jq hy1,V.kW Si]at hy;obtain⟨⟨o,ho,OF⟩,_⟩:=Cg _ S.G;refine kO (bH S hx hv hd (callWith_function (o:=o) (fd:=fd) ?_));have key:=hs A env out hid m B s ρ _ E pos rm S hy
 induction es with
 |nil=>exact absurd rfl cZ
 |cons t9 es' _=>
 have hb:backTo pos (starEach (t9::es') env)=(false,eval t9 env)::(backTo pos (starEach (t9::es') env)).tail:=by rw[iX];rfl
 rw[hb]at key ⊢;refine evalArgs_plain (aD key (fun vs s₁ aj=>⟨⟨aj.1.keep _ _ ho,OF⟩,?_⟩) fun ø ø q=>q);obtain⟨k₁,Bm⟩:=aj;obtain⟨v,ev,hv⟩:=yk Bm;obtain⟨t,et⟩:=hv.str_inv;rw[ev,et];exact aD (Jk (hid:=hid) Cg gf nU vb rm (S.after k₁).G) (fun v s₂ aM E=>aD (aM E) (fun it s₃ eu=>e▸eu.pre k₁) fun ø ø q=>q) fun ø ø q=>q
end
end
section
variable{P:Pk}{n:Nat}{K:Cx}{lo:Bool}
noncomputable def oq(env:Env)(hid:List Addr):List Addr:=env.locals::((env.cells.filter fun y=>env.cells.lookup y.1==some y.2).map (·.2)++hid)
theorem Jl{env:Env}{hid:List Addr}{y:Str}{d:Addr}(h:env.cells.lookup y=some d):d∈oq env hid:=
 .tail _ (cP _ (dt.mpr ⟨(y,d),gw.mpr ⟨lookup_mem h,jR.mpr h⟩,rfl⟩))
theorem xm{env:Env}{hid:List Addr}{C:Addr->Prop}(h0:C env.locals)(h1:∀y d,env.cells.lookup y=some d->C d)(h2:∀c∈hid,C c):∀c∈oq env hid,C c:=fun c hc=>
 (bI.mp hc).elim (fun e=>e▸h0) fun hc=>(bZ.mp hc).elim (fun q=>by
  obtain⟨y,hy,e⟩:=dt.mp q;exact e▸h1 y.1 y.2 (eq_of_beq (gw.mp hy).2)) (h2 c)
theorem Jm{fd:FuncData}{ps:List Str}(ok:ui K fd.scope ps)(C4:ps.Nodup){env:Env}{s s₁:Shared}{hid:List Addr}{xs:List V}{vs:List Value}(hG:P.G s.heap)(live:cD s.heap hid)(hd:bd P s.heap hid xs vs)(hlen:xs.length=ps.length)
  (fn:env.scope.kind= .function) (gl:env.globals=mainGlobals) (bl:env.builtins=builtinsNs) (eL:env.locals=s.heap.objs.size) (ek:∀y,env.kindOf y=fd.scope.names.lookup y) (ecl:env.cells=cellsFrom (s.heap.objs.size+1) fd.scope.names [])
  (ic:InCallC s env.locals (bindL env.kindOf (ps.zip vs) fun ø=>none) env.cells (bindC env.kindOf (ps.zip vs) fun ø=>none) s₁):
  aU P K env hid (oq env hid) (bindL env.kindOf (ps.zip vs) fun ø=>none) s s₁ (nf xs)/\∀c∈oq env hid,c∈hid\/s.heap.get? c=none:=by
 have kp:Kp s s₁:=by
  obtain⟨h',tk,e⟩:=ic.toInCall.same;have hk:=ic.toInCall.keep;rw[e]at hk ⊢;exact .heap hk
 have s0:∀c,s.heap.objs.size<=c->s.heap.get? c=none:=fun c hc=>by
  induction e:s.heap.get? c with
  |none=>rfl
  |some o=>exact absurd (ez e) (g8.mpr hc)
 have hcn:∀y c,env.cells.lookup y=some c->s.heap.get? c=none:=fun y c q=>s0 c (eL▸dU (ic.above y c (lookup_mem q)))
 have Sp:∀y c,env.cells.lookup y=some c->c∉hid:=fun y c q z=>(live _ z).elim fun o e=>nomatch e.symm.trans (hcn y c q)
 have hL0:s.heap.get? env.locals=none:=by rw[eL];exact bE _
 have jr:∀c∈oq env hid,c∈hid\/s.heap.get? c=none:=xm (.inr hL0) (fun y d q=>.inr (hcn y d q)) fun c h=>.inl h
 have si:∀y,fd.scope.names.lookup y=some .cell->∃d,env.cells.lookup y=some d:=fun y hl=>by
  obtain⟨c,hc⟩:=gU (k:=s.heap.objs.size+1) (acc:=[]) (.inl (ie hl));rw[<-ecl]at hc;exact mem_lookup hc
 have la:∀y k ov,fd.scope.names.lookup y=some k->(k= .local\/k= .cell)->(k= .local->bindL env.kindOf (ps.zip vs) (fun ø=>none) y=ov)->(k= .cell->bindC env.kindOf (ps.zip vs) (fun ø=>none) y=ov)->At env (bindL env.kindOf (ps.zip vs) fun ø=>none) s₁.heap hid (oq env hid) y k ov:=fun y k ov hl hk h1 h2=>by
  rcases hk with e|e
  ·rw[e];exact h1 e
  ·obtain⟨d,lF⟩:=si y (e▸hl)
   rw[e,<-h2 e];exact⟨d,lF,Jl lF,Sp _ _ lF,ic.cell _ _ lF⟩
 refine⟨⟨fn,gl,bl,fun j y k b hj=>(ek y).trans (ok.vars j y k b hj).1,fun y hy=>(ek y).trans (ok.glob y hy),ok.nodup,fun y z c q1 q2=>?_,?_,fun c hc=>.tail _ (ck _ hc),.head _,
  fun hc=>(live _ hc).elim fun o q=>(nomatch q.symm.trans hL0),ic.toInCall.ns,fun j y k b hj=>?_,fun i j y z k k' c Vo hi hj ø ø=>.inl ?_,hG,kp,fun c hc ho=>(jr c hc).elim (fun q=>absurd q ho) id⟩,jr⟩
 ·obtain⟨i,hi,e1⟩:=Cu (lookup_mem q1)
  obtain⟨j,hj,e2⟩:=Cu (lookup_mem q2);have pw:=fun i j hi hj ew=>List.pairwise_iff_getElem.mp ic.apart i j hi hj ew
  rcases Nat.lt_trichotomy i j with ew|heq|hgt
  ·exact absurd (by rw[e1,e2]) (pw i j hi hj ew)
  ·exact congrArg Prod.fst (e1.symm.trans ((getElem_congr_idx heq).trans e2))
  ·exact absurd (by rw[e1,e2]) (pw j i hj hi hgt)
 ·exact xm (ic.toInCall.ns.elim fun o q=>q.elim fun ø q=>q.elim fun ø q=>⟨o,q.1⟩) (fun y d q=>(ic.cell y d q).elim fun o q=>⟨o,q.1⟩) (live.kp kp)
 ·obtain⟨hl,hk⟩:=ok.vars j y k b hj
  by_cases V8:j<ps.length
  ·obtain⟨k',hv⟩:=ok.pars j ps[j] (iK V8)
   obtain⟨ey,q⟩:=mQ (Option.some.inj (hj.symm.trans hv));have eb:=(mQ q).2;have hjx:j<xs.length:=hlen▸V8;obtain⟨v,hv,OS⟩:=bq.get (i:=j) (x:=xs[j]) hd (iK hjx);have hp:ps[j]?=some y:=ey▸iK V8;refine⟨some v,la y k _ hl hk (fun e=>Ak C4 hp hv ((ek _).trans (e▸hl))) (fun e=>Al C4 hp hv (by rw[ek,hl,e];nofun)),?_⟩;rw[show nf xs j=some xs[j]from iK hjx,eb];exact⟨v,rfl,Dn.grow (P:=P) OS (fun c o ø q=>kp.keep c o q) jr⟩
  ·have e:nf xs j=none:=nu (hlen▸g8.mp V8)
   rcases hk with q|q
   ·exact⟨_,la y k _ hl (.inl q) (fun ø=>rfl) (fun z=>nomatch q.symm.trans z),by rw[e];trivial⟩
   ·exact⟨_,la y k _ hl (.inr q) (fun z=>nomatch q.symm.trans z) (fun ø=>rfl),by rw[e];trivial⟩
 ·by_cases hip:i<ps.length
  ·obtain⟨k',hv⟩:=ok.pars i ps[i] (iK hip)
   exact nomatch(mQ (mQ (Option.some.inj (hi.symm.trans hv))).2).2
  ·exact nu (hlen▸g8.mp hip)
theorem vc{a:Addr}{fd:FuncData}{body:List Stmt}{ps:List Str}(Cg:∀h,P.G h->(∃o,h.get? a=some o/\o.data= .func fd)/\h.CodeRec fd.code fd.qualname)(nU:fd.body= .stmts body)
  (Ll:fd.globals=mainGlobals) (Qm:fd.builtins=builtinsNs) (Dp:fd.closure=[]) (vd:∀vs:List Value,vs.length=ps.length->bindArgs fd ⟨vs,[]⟩=pure (ps.zip vs)) (ok:ui K fd.scope ps) (C4:ps.Nodup)
  (Ms:fd.scope.isCoroutine=false) (sO:fd.scope.isGenerator=false) {A:Around} {s:Shared} {hid:List Addr} {xs:List V} {vs:List Value} {Q:Value->Shared->Prop} {E:Value->Shared->Prop} (rm:cJ (n+1) A) (hG:P.G s.heap) (live:cD s.heap hid) (hd:bd P s.heap hid xs vs) (hlen:xs.length=ps.length)
  (h:∀env s₁ ar m E',aU P K env hid ar m s s₁ (nf xs)->(∀c∈ar,c∈hid\/s.heap.get? c=none)->cJ n (A.deeper env)->wpAny (model P.prog P.w) (A.deeper env) (execs body env) (fun f s'=>Q (match f with| .ret v=>v|_=>.none) s') E' s₁):
  wpAny (model P.prog P.w) A (call (.ref a) vs) Q E s:=by
 obtain⟨⟨o,ho,OF⟩,Yj⟩:=Cg _ hG;have OX:vs.length=ps.length:=hd.length.trans hlen;have Ge:A.depth<recursionLimit:=eV (az (fB _ _) rm.depth) (by decide);have oB:∀y∈ps.zip vs,∃j v,ps[j]?=some y.1/\vs[j]?=some v:=fun y hy=>by
  obtain⟨j,hj⟩:=List.mem_iff_getElem?.mp hy;rw[xK]at hj;exact⟨j,y.2,hj.1,hj.2⟩
 have hbk:∀y∈ps.zip vs,fd.scope.names.lookup y.1=some .local\/(fd.scope.names.lookup y.1=some .cell/\((cellsFrom (s.heap.objs.size+1) fd.scope.names []).lookup y.1).isSome=true):=fun y hy=>by
  obtain⟨j,v,hj,_⟩:=oB y hy;obtain⟨k,hv⟩:=ok.pars j y.1 hj;obtain⟨hl,hk⟩:=ok.vars j _ _ _ hv;rcases hk with rfl|rfl
  ·exact .inl hl
  ·refine .inr ⟨hl,?_⟩
   obtain⟨c,hc⟩:=gU (k:=s.heap.objs.size+1) (acc:=[]) (.inl (ie hl));obtain⟨d,hd⟩:=mem_lookup hc;rw[hd];rfl
 refine wpAny_call (codeAny_call_cells Ge ho OF (P.nolim hG) Yj nU (vd vs OX) Dp hbk (fun s₁ ic=>?_) Ms sO ok.kind);have S:=Jm (env:=callEnvC fd s.heap.objs.size a) ok C4 hG live hd hlen ok.kind Ll Qm rfl (fun ø=>rfl) rfl ic;exact h _ s₁ _ _ _ S.1 S.2 (rm.deeper _)
theorem aZ.fn{a:Addr}{fd:FuncData}{body:List Stmt}{ps:List Str}{f:ao->Option (ao×Fl)}(Cg:∀h,P.G h->(∃o,h.get? a=some o/\o.data= .func fd)/\h.CodeRec fd.code fd.qualname)(nU:fd.body= .stmts body)
  (Ll:fd.globals=mainGlobals) (Qm:fd.builtins=builtinsNs) (Dp:fd.closure=[]) (vd:∀vs:List Value,vs.length=ps.length->bindArgs fd ⟨vs,[]⟩=pure (ps.zip vs)) (ok:ui K fd.scope ps) (C4:ps.Nodup)
  (Ms:fd.scope.isCoroutine=false) (sO:fd.scope.isGenerator=false) (h:ow P n K body f):aZ P (n+1) (.ref a) (fun xs=>if xs.length=ps.length then(f (nf xs)).bind Sx else none):=fun A s hid xs x vs E rm hG live hd hf=>yh hf fun hlen hf=>by
 refine ak hf ?_;rintro⟨aQ,fl⟩ h1 h2;refine vc Cg nU Ll Qm Dp vd ok C4 Ms sO rm hG live hd hlen fun env s₁ ar m E' S ø T2=>?_
 refine aD (h (A.deeper env) env hid ar m s s₁ (nf xs) aQ fl _ T2 S h1) (fun dG s' q=>?_) fun ø ø q=>q
 obtain⟨pz,m₂,dI,_,pV⟩:=q;cases fl
 case next=>
  obtain rfl:=pV;exact some_inv h2 ⟨dI.kp,.ub⟩
 case ret=>
  obtain⟨v,rfl,hv⟩:=pV;exact some_inv h2 ⟨dI.kp,hv⟩
 all_goals cases h2
end
section
variable{P:Pk}{n:Nat}{K:Cx}{lo:Bool}
noncomputable def bP:List Str:=[(Str.ofString "raw"),(Str.ofString "n"),(Str.ofString "nt"),(Str.ofString "norm"),(Str.ofString "is_simple")]
inductive ip(C:Addr)(h:Heap)(x dx:Addr)(ws:List Value):Prop
 |mk (o:Obj) (mA:Str->Option Value) (e:h.get? x=some o) (c:o.cls= .ref C) (d:∀c,o.data≠ .cls c) (dd:o.dict=some dx) (n:dx≠x) (ns:h.Ns1 dx mA) (v:∀(i:Nat) v nm,ws[i]?=some v->bP[i]?=some nm->mA nm=some v) (no:∀nm,nm∉bP.take ws.length->mA nm=none):ip C h x dx ws
theorem ip.at{C:Addr}{h h':Heap}{x dx ws}(I:ip C h x dx ws)(k1:∀o,h.get? x=some o->h'.get? x=some o)(k2:∀o,h.get? dx=some o->h'.get? dx=some o):ip C h' x dx ws:=by
 obtain⟨o,mA,h1,h2,h3,h4,h5,h6,h7,h8⟩:=I;exact⟨o,mA,k1 _ h1,h2,h3,h4,h5,h6.at k2,h7,h8⟩
theorem ip.inst{C:Addr}{h:Heap}{x dx ws}(I:ip C h x dx ws):∃mA,h.Inst x C mA/\(∀(i:Nat) v nm,ws[i]?=some v->bP[i]?=some nm->mA nm=some v)/\∀nm,nm∉bP.take ws.length->mA nm=none:=by
 obtain⟨o,mA,h1,h2,h3,h4,h5,h6,h7,h8⟩:=I;exact⟨mA,⟨o,h1,h2,h3,.inr ⟨dx,h4,h5,h6⟩⟩,h7,h8⟩
noncomputable def Dq(C:Addr)(h:Heap)(a:Addr)(vs:List Value)(T:Addr->Prop):Prop:=(∃t,vs=[.int (a:Nat) t])\/(vs.length=5/\∃d,ip C h a d vs/\T a/\T d)
theorem Dq.ok(C:Addr):Hm (Dq C):=fun h h' T T' a vs hk hT e=>by
 rcases e with e|⟨hl,d,I,h1,h2⟩
 ·exact .inl e
 ·obtain⟨o,mA,q1,q2,q3,q4,q5,q6,q7,q8⟩:=id I
  obtain⟨od,es,ep,z,_⟩:=id q6;exact .inr ⟨hl,d,I.at (fun o e=>hk a o h1 e) (fun o e=>hk d o h2 e),hT a o h1 q1,hT d od h2 z⟩
structure dJ(P:Pk)(C N:Addr)(mN:Str->Option Value):Prop where
 ob:P.OB=Dq C
 cls:∀h,P.G h->ClsAt h C N mN
 ng:mN (Str.ofString "__getattribute__")=none
 nh:mN (Str.ofString "__getattr__")=none
 nsa:mN (Str.ofString "__setattr__")=none
 names:∀nm∈bP,mN nm=none
theorem dJ.xn{P:Pk}{C N:Addr}{mN:Str->Option Value}(W:dJ P C N mN){h:Heap}(G:P.G h){R:Prop}(k:∀nm q bs sn sub col dd k0 k1 k2 k3 k5,h.get? C=some (excClassObj nm q C N bs [.type "object"] true sn sub false col dd k0 k1 k2 k3 k5 "object.__new__")->h.Ns N mN->R):R:=by
 obtain⟨X,hN⟩:=W.cls _ G;obtain⟨nm,q,bs,sn,sub,col,dd,k0,k1,k2,k3,k5,hC⟩:=X;exact k nm q bs sn sub col dd k0 k1 k2 k3 k5 hC hN
theorem dJ.ne{P:Pk}{C N:Addr}{mN:Str->Option Value}(W:dJ P C N mN){h:Heap}(G:P.G h){x:Addr}(hx:h.get? x=none):x≠C:=
 W.xn G fun ø ø ø ø ø ø ø ø ø ø ø ø hC ø z=>by rw[<-z,hx]at hC;cases hC
theorem noAttr:∀nm∈bP,typeLookup (.type "object") nm=pure none:=by
 intro nm h;simp only[bP,bI,tF,or_false]at h;rcases h with rfl|rfl|rfl|rfl|rfl<;>(rw[lU,lV];kernel_rfl)
theorem Gf{h:Heap}{hid}{x:V}{v:Value}(e:Dn P h hid x v):handedOut v=pure v:=by
 cases x
 ·rw[e.none_inv];rfl
 ·rw[e.bool_inv];rfl
 ·obtain⟨t,rfl⟩:=e;rfl
 ·obtain⟨t,rfl⟩:=e;rfl
 ·obtain⟨a,vs,rfl,_⟩:=e;rfl
 ·obtain⟨a,vs,rfl,_⟩:=e;rfl
 ·obtain⟨a,vs,rfl,_⟩:=e;rfl
 ·obtain⟨a,vs,rfl,_⟩:=e;rfl
theorem Dn.EX{C N mN}(W:dJ P C N mN){h:Heap}{hid}{l:List V}{v:Value}(e:Dn P h hid (.obj l) v)(hl:l.length=5):∃a d vs,v= .ref a/\ip C h a d vs/\a∉hid/\d∉hid/\vs.length=5/\bd P h hid l vs:=by
 obtain⟨a,vs,rfl,h1,h2⟩:=e;rw[W.ob]at h1;have hv:=h2.length;rcases h1 with⟨t,rfl⟩|⟨h3,d,I,q1,q2⟩
 ·rw[hl]at hv;cases hv
 ·exact⟨a,d,vs,rfl,I,q1,q2,h3,h2⟩
theorem Dn.EY{C N mN}(W:dJ P C N mN){h:Heap}{hid}{x:Addr}{v:Value}(e:Dn P h hid (.obj [.int (x:Nat)]) v):v= .ref x:=by
 obtain⟨a,vs,rfl,h1,h2⟩:=e;rw[W.ob]at h1;have hv:=h2.length;obtain⟨u,rfl,hu⟩:=yk (P:=P) (hid:=hid) h2;obtain⟨t,rfl⟩:=hu.int_inv;rcases h1 with⟨t',e⟩|⟨h3,_⟩
 ·have:(x:Int)=(a:Nat):=by
   simp only[List.cons.injEq,Value.int.injEq]at e;exact e.1.1
  have:x=a:=by exact_mod_cast this
  rw[this]
 ·cases h3
theorem Dn.T3{C N mN}(W:dJ P C N mN){h:Heap}{hid}(x:Addr):Dn P h hid (.obj [.int (x:Nat)]) (.ref x):=by
 exact⟨x,[.int (x:Nat) 0],rfl,by rw[W.ob];exact .inl ⟨0,rfl⟩,.one (Dn.ofInt (P:=P) (h:=h) (hid:=hid) _ _)⟩
noncomputable def T4(i:Nat)(x:V):Option V:=x.OG.bind fun l=>if l.length=5 then l[i]? else none
theorem dj{C N mN}(W:dJ P C N mN)(i:Nat){o:Expr}{nm:Str}{pos:Pos}{f}(hi:bP[i]?=some nm)(ho:eo P n K lo o f)
  (he:∀env,attributeBase o nm env (eval o env)=eval o env):eo P n K lo (.Attribute o nm pos) (fun ρ=>(f ρ).bind (T4 i)):=fun A env out hid m B s ρ z E r S hf=>by
 refine ak hf fun y hy gu=>?_
 clear hf;rename _=>hf
 refine Attribute_any_ (aD (ho A env out hid m B s ρ y E r S hy) (fun v s₁ q=>?_) fun ø ø q=>q) (by rw[CB,he]);have bC:=S.after q.1;refine ak hf fun l LT hz=>?_
 cases V.zY LT;by_cases hl:l.length=5
 case neg=>rw[au hl]at hz;cases hz
 rw[aw hl]at hz;obtain⟨a,d,vs,rfl,I,h1,h2,h3,h4⟩:=q.2.EX W hl;obtain⟨u,hu,hzu⟩:=bq.get h4 hz;obtain⟨mA,I',h5,h6⟩:=I.inst;refine W.xn bC.G fun V9 q' bs sn sub col dd k0 k1 k2 k3 k5 hC hN=>?_
 have oB:nm∈bP:=kb hi;exact load_attr hC hN W.ng (W.names _ oB) (noAttr _ oB) I' (h5 i u nm hu hi) (Gf (P:=P) hzu) ⟨q.1.trans (Kp.toks _ _),hzu⟩
noncomputable def Jn(F:List V->Option V)(f:ao->Option V)(g:ao->Option (List V)):ao->Option V:=fun ρ=>(f ρ).bind fun y=>y.OG.bind fun l=>if l.length=5 then(g ρ).bind fun xs=>F (.obj l::xs)else Option.none
theorem bc{C N mN}(W:dJ P C N mN){o:Expr}{apos pos:Pos}{name:Str}{args:List Expr}{fa:Addr}{F f g}(ho:eo P n K lo o f)(hf:mN name=some (.ref fa))(Yk:∀h,P.G h->∃of fd,h.get? fa=some of/\of.cls= .type "function"/\of.data= .func fd)
  {y:Option Value} (hB:typeLookup (.type "object") name=pure y) (hnw:name∉bP) (hc:aZ P n (.ref fa) F)
  (ha:kl P n K lo args g) (iX:∀env,starEach args env=args.map fun e=>(false,eval e env)) (cZ:args.length<20) (pW:(apos.endLine==pos.line)=true) (pX:∀env,attributeBase o name env (eval o env)=eval o env):
  eo P n K lo (.Call (.Attribute o name apos) args [] pos) (Jn F f g):=fun A env out hid m B s ρ z E r S Yl=>by
 refine ak Yl fun x hx Yl=>?_
 refine ak Yl fun l LT hz=>?_
 cases V.zY LT;by_cases hl:l.length=5
 case neg=>rw[au hl]at hz;cases hz
 rw[aw hl]at hz;refine ak hz fun xs yb hF=>?_
 have eg:(backTo pos (starEach args env)).any (·.1)=false:=ct iX;rw[arm_eval_Call,pX];refine aA (aD (ho A env out hid m B s ρ _ E r S hx) (fun v s₁ q=>?_) fun ø ø q=>q);refine aA (lK ?_);have T6:methodCallForm (args.length+([]:List Keyword).length) (backTo pos (starEach args env)) (backToKw pos (keywordEach [] env))=true:=nN eg cZ;have HA:methodCallPos true o env apos pos=pure pos:=by unfold methodCallPos;simp[pW]
 unfold methodCall;rw[T6];have bC:=S.after q.1;obtain⟨a,d,vs,rfl,I,h1,h2,h3,h4⟩:=q.2.EX W hl;obtain⟨mA,I',h5,h6⟩:=I.inst;refine W.xn bC.G fun V9 q' bs sn sub col dd k0 k1 k2 k3 k5 hC hN=>?_
 obtain⟨of,fd,Ym,ho2,ho3⟩:=Yk _ bC.G;have fin:∀{Q:Value×List Value->Shared->Prop},Q (.ref fa,[.ref a]) s₁->wpAny (model P.prog P.w) A (getMethod (.ref a) name (pure true)) Q E s₁:=fun hQ=>by
  exact method_of hC hN W.ng W.nh hf Ym ho2 hB I' (h6 _ fun hm=>hnw (CC hm)) hQ
 have Yn:∀{pl:Sem Bool} {Q:Value×List Value->Shared->Prop},Q (.ref fa,[.ref a]) s₁->wpAny (model P.prog P.w) A (getMethod (.ref a) name pl) Q E s₁:=fun hQ=>by
  exact method_of hC hN W.ng W.nh hf Ym ho2 hB I' (h6 _ fun hm=>hnw (CC hm)) hQ
 refine aA (gI (Yn ?_));refine aA (wpAny_of_eq HA ?_);refine callWith_function (o:=of) (fd:=fd) ?_;have key:=ha A env out hid m B s₁ ρ xs E pos r bC yb;refine bW eg (aD key (fun ws s₂ aM=>⟨⟨aM.1.keep _ _ Ym,ho3⟩,?_⟩) fun ø ø q=>q);exact aD (hc A s₂ (av lo out hid) (.obj l::xs) z (.ref a::ws) E r (bC.after aM.1).G ((bC.after aM.1).Ep lo) (.cons (Dn.kp (P:=P) q.2 aM.1) aM.2) hF) (fun v s₃ eu=>⟨q.1.trans (aM.1.trans eu.1),eu.2⟩) fun ø ø q=>q
theorem qq{C:Addr}{id nm:Str}{p pos:Pos}{l:List Nat}{t:Tok}(hx:K.aV.contains id=true)(hv:P.glob id=some (.ref C))(hd:(id==("__debug__":Str))=false)
  (hG:∀h,P.G h->∃(Fr:Frag) (mc:Value),Fr.In h/\readsIn Fr C mc=true/\findCls Fr (.ref C) mc nm=some (.val (.str (pyStr l) t))) (he:∀env,attributeBase (.Name id p) nm env (eval (.Name id p) env)=eval (.Name id p) env):
  eo P n K lo (.Attribute (.Name id p) nm pos) (fun ø=>some (.str l)):=fun A env out hid m B s ρ z E r S hf=>by
 cases hf;refine Attribute_any_ (bH S hx hv hd ?_) (by rw[CB,he]);obtain⟨Fr,mc,X,h1,h2⟩:=hG _ S.G;exact cls_value X h1 h2 rfl ⟨Kp.toks _ _,.ofStr _ _⟩
end
section
variable{P:Pk}{n:Nat}{K:Cx}{lo:Bool}{C N:Addr}{mN:Str->Option Value}
theorem aU.rebase{env:Env}{out hid:List Addr}{m}{B B' s:Shared}{ρ}(S:aU P K env out hid m B s ρ)(k:Kp B' B)(hG:P.G B'.heap):aU P K env out hid m B' s ρ:=
 {fn:=S.fn,gl:=S.gl,bl:=S.bl,kind:=S.kind,oV:=S.oV,nodup:=S.nodup,iD:=S.iD,live:=S.live,oh:=S.oh,Lh:=S.Lh,Lo:=S.Lo,ns:=S.ns,slot:=S.slot,apart:=S.apart,gb:=hG,kp:=k.trans S.kp
  own:=fun a h ho=>by
   cases e:B'.heap.get? a with
   |none=>rfl
   |some o=>have:=k.keep a o e;rw[S.own a h ho]at this;cases this}
noncomputable def rP(x:Addr)(ρ:ao):Bool:= @decide (ρ 0=some (.obj [.int (x:Nat)])) (Classical.propDecidable _)
theorem ve{x:Addr}{ρ:ao}(h:rP x ρ=true):ρ 0=some (.obj [.int (x:Nat)]):= @cV _ (Classical.propDecidable _) h
theorem je{x:Addr}{ρ:ao}(h:ρ 0=some (.obj [.int (x:Nat)])):rP x ρ=true:= @bo _ (Classical.propDecidable _) h
inductive Yo(P:Pk)(K:Cx)(C:Addr)(env:Env)(out:List Addr)(B:Shared)(x dx:Addr)(aQ:ao)(ww:List V)(dG:Flow)(s':Shared):Prop
 |mk (f:dG= .next) (ar:List Addr) (m':Str->Option Value) (OP:List Value) (S:aU P K env ([x,dx]++out) ar m' B s' aQ) (I:ip C s'.heap x dx OP) (d:bd P s'.heap ar ww OP):Yo P K C env out B x dx aQ ww dG s'
noncomputable def sw(P:Pk)(n:Nat)(K:Cx)(C:Addr)(st:List Stmt)(F:Addr->ao->List V->Option (ao×List V)):Prop:=
 ∀(A:Around) (env:Env) (out hid:List Addr) (m:Str->Option Value) (B s:Shared) (x dx:Addr) (ρ:ao) (lv:List V) (ws:List Value) (aQ:ao) (ww:List V) (E:Value->Shared->Prop),cJ n A->aU P K env ([x,dx]++out) hid m B s ρ->
  B.heap.get? x=none->B.heap.get? dx=none->ip C s.heap x dx ws->bd P s.heap hid lv ws->F x ρ lv=some (aQ,ww)->
  wpAny (model P.prog P.w) A (execs st env) (fun dG s'=>Yo P K C env out B x dx aQ ww dG s') E s
theorem sw.nil:sw P n K C [] (fun x ρ lv=>some (ρ,lv)):=fun A env out hid m B s x dx ρ lv ws aQ ww E rm S hx Gg I hd hf=>by
 cases hf;exact wpAny_execs_nil ⟨rfl,hid,m,ws,S,I,hd⟩
noncomputable def stW(f:ao->Option (ao×Fl))(g:Addr->ao->List V->Option (ao×List V)):Addr->ao->List V->Option (ao×List V):=fun x ρ lv=>(f ρ).bind fun r=>match r.2 with
 | .next=>g x r.1 lv
 |_=>none
theorem sw.st{st:Stmt}{rest:List Stmt}{f g}(h:zU P n K st f)(hr:sw P n K C rest g):sw P n K C (st::rest) (stW f g):=fun A env out hid m B s x dx ρ lv ws aQ ww E rm S hx Gg I hd hf=>by
 refine ak hf ?_;clear hf;rintro⟨am,fl⟩ h1 hf;refine tw (aD (h A env _ hid m B s ρ am fl E rm S h1) (fun dG s₁ q=>?_) fun ø ø q=>q);obtain⟨du,m₁,bC,jp,pV⟩:=q;cases fl<;>dsimp only at hf<;>try cases hf
 obtain rfl:=pV;exact hr A env out du m₁ B s₁ x dx am lv ws aQ ww E rm bC hx Gg (I.at (fun o e=>jp.keep x o (.inr (by simp)) e) fun o e=>jp.keep dx o (.inr (by simp)) e) (hd.ks jp) hf
noncomputable def Jo(idx:Nat)(f:ao->Option V)(g:Addr->ao->List V->Option (ao×List V)):Addr->ao->List V->Option (ao×List V):=fun x ρ lv=>
 if lv.length=idx/\rP x ρ=true then(f ρ).bind fun v=>g x ρ (lv++[v])else none
theorem wx:bP.Nodup:=by decide+kernel
theorem Dr{ws:List Value}{idx:Nat}{u:Value}{nm:Str}{mA:Str->Option Value}(Mt:ws.length=idx)(Lm:bP[idx]?=some nm)(h5:∀(i:Nat) v nm,ws[i]?=some v->bP[i]?=some nm->mA nm=some v)(h6:∀nm,nm∉bP.take ws.length->mA nm=none):
  (∀(i:Nat) v Jp,(ws++[u])[i]?=some v->bP[i]?=some Jp->(if Jp=nm then some u else mA Jp)=some v)/\∀Jp,Jp∉bP.take (ws++[u]).length->(if Jp=nm then some u else mA Jp)=none:=by
 refine⟨fun i v Jp hi Jq=>?_,fun Jp Jq=>?_⟩
 ·by_cases ew:i<ws.length
  ·rw[List.getElem?_append_left ew]at hi
   rw[au fun z=>?_]
   ·exact h5 i v Jp hi Jq
   ·have a1:=gH.mp Jq
    have a2:=gH.mp Lm;exact List.pairwise_iff_getElem.mp wx i idx a1.1 a2.1 (Mt▸ew) (a1.2.trans (z.trans a2.2.symm))
  ·rw[List.getElem?_append_right (g8.mp ew)]at hi
   have h1:i-ws.length<1:=(gH.mp hi).1;have e:i=idx:=Mt▸tL (Nat.le_of_sub_eq_zero (Nat.lt_one_iff.mp h1)) (g8.mp ew);rw[Nat.lt_one_iff.mp h1]at hi;rw[e]at Jq;rw[aw (Option.some.inj (Jq.symm.trans Lm))];exact hi
 ·have h1:bP.take (ws++[u]).length=bP.take ws.length++[nm]:=by
   rw[aY,Mt];show bP.take (idx+1)=_;rw[xS,Lm];rfl
  rw[h1]at Jq;rw[au (c:=Jp=nm) fun z=>Jq (ck _ (z▸ .head _))];exact h6 _ fun z=>Jq (cP _ z)
theorem Mu{h:Heap}{x dx C:Addr}{mA:Str->Option Value}{ws:List Value}(Ih:h.Inst x C mA)(hs:∃o,h.get? x=some o/\o.dict=some dx)(hv:(∀(i:Nat) v nm,ws[i]?=some v->bP[i]?=some nm->mA nm=some v)/\∀nm,nm∉bP.take ws.length->mA nm=none):ip C h x dx ws:=by
 obtain⟨o,z1,z2,z3,z4⟩:=Ih;obtain⟨T7,y1,y2⟩:=hs;rw[<-Option.some.inj (z1.symm.trans y1)]at y2;rcases z4 with⟨z4,_⟩|⟨d',z4,z5,z6⟩
 ·exact nomatch z4.symm.trans y2
 ·have ed:=Option.some.inj (z4.symm.trans y2)
  rw[ed]at z4 z5 z6;exact⟨o,_,z1,z2,z3,z4,z5,z6,hv.1,hv.2⟩
theorem ip.two{h:Heap}{x dx C:Addr}{ws:List Value}(I:ip C h x dx ws):cD h [x,dx]:=by
 obtain⟨o,mA,z1,_,_,_,_,⟨o',es,ep,z6,_⟩,_⟩:=I;exact fun b hb=>(bI.mp hb).elim (fun e=>e▸⟨o,z1⟩) fun hb=>cq.mp hb▸⟨o',z6⟩
theorem sw.go{env:Env}{out hid:List Addr}{m}{B s₁:Shared}{x dx:Addr}{ρ aQ:ao}{lv ww:List V}{ws:List Value}{v:V}{u:Value}{A:Around}{E:Value->Shared->Prop}{rest:List Stmt}{g}(hr:sw P n K C rest g)(rm:cJ n A)(bC:aU P K env ([x,dx]++out) hid m B s₁ ρ)
  (hx:B.heap.get? x=none) (Gg:B.heap.get? dx=none) (Bm:bd P s₁.heap hid lv ws) (hu:Dn P s₁.heap hid v u) (hf:g x ρ (lv++[v])=some (aQ,ww)) {h':Heap} {V0:Nat} (Mw:ip C h' x dx (ws++[u])) (hk:∀b o,b≠x->b≠dx->s₁.heap.get? b=some o->h'.get? b=some o):
  wpAny (model P.prog P.w) A (execs rest env) (fun dG s'=>Yo P K C env out B x dx aQ ww dG s') E {s₁ with heap:=h',toks:=V0}:=by
 have hmv:Mv [x,dx] none s₁ {s₁ with heap:=h',toks:=V0}:=⟨⟨fun b o hb e=>hk b o (fun z=>hb (z▸ .head _)) (fun z=>hb (z▸ .tail _ (.head _))) e,fun i y ø e=>e,id,rfl⟩,Mw.two⟩;have dI:=bC.step (W:=[x,dx]) (gi:=none) (fun a ha=>cP _ ha) hmv (fun a ha=>(bI.mp ha).elim (fun e=>e▸hx) fun ha=>cq.mp ha▸Gg) fun g e=>nomatch e
 have Lj:∀a o,a∉hid->s₁.heap.get? a=some o->h'.get? a=some o:=fun a o ha e=>hk a o (fun z=>ha (z▸bC.oh _ (.head _))) (fun z=>ha (z▸bC.oh _ (.tail _ (.head _)))) e
 exact hr A env out hid m B _ x dx ρ (lv++[v]) (ws++[u]) aQ ww E rm dI hx Gg Mw (bq.app (bd.grow (P:=P) Bm Lj fun a h=>.inl h) (.one (Dn.grow (P:=P) hu Lj fun a h=>.inl h))) hf
set_option tactic.hygienic true in
theorem sw.store(W:dJ P C N mN)(idx:Nat){nm self:Str}{kd:NameKind}{p p' pos:Pos}{e:Expr}{rest:List Stmt}{f g}(Lm:bP[idx]?=some nm)(RL:K.vars[0]?=some (self,kd,false))(lF:(self==("__debug__":Str))=false)(hc:(self==("__classdict__":Str))=false)
  (h:eo P n K false e f) (hr:sw P n K C rest g) (hs:∀env,swapsWith e (some (.Attribute (.Name self p) nm p')) pos.line env=pure false):sw P n K C (.Assign [.Attribute (.Name self p) nm p'] e pos::rest) (Jo idx f g):=
 fun A env out hid m B s x dx ρ lv ws aQ ww E rm S hx Gg I hd hf=>by
 refine OV hf fun hif hf=>ak hf fun v hv hf=>?_
 refine tw (plainObj_wpAny_Assign_Attribute (aD (h A env _ hid m B s ρ v E rm S hv) (fun u s₁ q=>?_) fun ø ø q=>q) (hs env));have bC:=S.after q.1;refine fP (bC.load RL (ve hif.2) lF hc fun v0 Yp ø=>?_) lF;rw[Dn.EY W Yp];have T8:ip C s₁.heap x dx ws:=I.at (fun o e=>q.1.keep _ o e) fun o e=>q.1.keep _ o e
 have Bm:bd P s₁.heap hid lv ws:=hd.kp q.1;obtain⟨mA,IA,h5,h6⟩:=T8.inst;refine W.xn bC.G fun V9 q' bs sn sub col dd k0 k1 k2 k3 k5 hC hN=>?_
 have oB:nm∈bP:=kb Lm;obtain⟨ox,mA2,z1,z2,z3,z4,_⟩:=id T8;refine store_attr (ns:=bP) PySem.F.store_object hC hN W.nsa (W.names _ oB) (noAttr _ oB) (W.ne S.gb hx) IA (fun h' V0 Ih hk T9=>?_) (fun y hy=>?_) (by rw[jQ];exact az (show bP.length<=100 by decide) (by decide))
 ·obtain⟨T7,y1,_,_,_,y2⟩:=T9 ox z1
  exact sw.go hr rm bC hx Gg Bm q.2 hf (Mu Ih ⟨T7,y1,y2 dx z4⟩ (Dr (hd.length.trans hif.1) Lm h5 h6)) fun b o b1 b2 e=>hk b o b1 (fun ab1 dx' e1 e2 z=>b2 (z.trans (Option.some.inj (e2.symm.trans ((congrArg Obj.dict (Option.some.inj (e1.symm.trans z1))).trans z4))))) e
 ·exact CF fun hm=>hy (h6 y fun z=>hm (CC z))
noncomputable def Ua(asg:ao->V->Option ao)(bf:ao->Option (ao×Fl))(g:Addr->ao->List V->Option (ao×List V)):Addr->ao->List V->Option (ao×List V):=fun x ρ lv=>
 if rP x ρ=true then(lv.head?.bind V.jO).bind fun l=>(gz asg bf (l.map fun c=>V.str [c]) ρ).bind fun r=>match r.2 with
  | .next=>g x r.1 lv
  |_=>none
 else none
set_option tactic.hygienic true in
theorem sw.for(W:dJ P C N mN){lc:Bool}{self:Str}{kd:NameKind}{target:Expr}{body rest:List Stmt}{p p' pos:Pos}{asg bf g}(RL:K.vars[0]?=some (self,kd,false))(lF:(self==("__debug__":Str))=false)(hc:(self==("__classdict__":Str))=false)
  (he:∀env,attributeBase (.Name self p) (Str.ofString "raw") env (eval (.Name self p) env)=eval (.Name self p) env) (ha:Et P K lc target asg) (hb:ow P n K body bf) (hr:sw P n K C rest g):
  sw P n K C (.For target (.Attribute (.Name self p) (Str.ofString "raw") p') body [] pos::rest) (Ua asg bf g):=fun A env out hid m B s x dx ρ lv ws aQ ww E rm S hx Gg I hd hf=>by
 refine OV hf fun Ub hf=>ak hf fun l hl hf=>ak hl fun v hv hl=>?_
 obtain⟨lv0,rfl⟩:=List.head?_eq_some_iff.mp hv;cases V.kW hl;refine ak hf ?_;clear hf;rintro⟨am,fl⟩ h1 hf;have h0:=ve Ub;refine tw (aD (Dm (fl:=fl) (aQ:=am) (xs:=l.map fun c=>V.str [c]) rm S ?_ ha hb (fun x=>rfl) h1) (fun dG s₁ q=>?_) fun ø ø q=>q)
 ·refine Attribute_any_ (fP (S.load RL h0 lF hc fun v0 Yp ø=>?_) lF) (by rw[CB,he])
  obtain rfl:=Dn.EY W Yp;obtain⟨mA,IA,h5,h6⟩:=I.inst;refine W.xn S.G fun V9 q' bs sn sub col dd k0 k1 k2 k3 k5 hC hN=>?_
  obtain⟨u,r,rfl,hu,_⟩:=bd.cons_inv hd;obtain⟨t,rfl⟩:=hu.str_inv;have oB:(Str.ofString "raw")∈bP:=by decide+kernel
  have hh:=rm.handled;obtain⟨hp,g',d',tk,os⟩:=s;exact load_attr hC hN W.ng (W.names _ oB) (noAttr _ oB) IA (h5 0 _ _ rfl rfl) rfl (Ji hh (Kp.toks (Shared.mk hp g' d' tk os) _))
 ·obtain⟨du,m₁,bC,jp,pV⟩:=q
  cases fl<;>dsimp only at hf<;>try cases hf
  obtain rfl:=pV;exact hr A env out du m₁ B s₁ x dx am _ ws aQ ww E rm bC hx Gg (I.at (fun o e=>jp.keep x o (.inr (by simp)) e) fun o e=>jp.keep dx o (.inr (by simp)) e) (hd.ks jp) hf
theorem Ds(W:dJ P C N mN){id:Str}{p pos:Pos}{e:Expr}{F0:Addr->ao->List V->Option (ao×List V)}{F:List V->Option (List V)}{f}{fI:Addr}{fd:FuncData}{body:List Stmt}{ps:List Str}{K':Cx}(hx:K.aV.contains id=true)(hv:P.glob id=some (.ref C))(Qn:(id==("__debug__":Str))=false)
  (hi:mN (Str.ofString "__init__")=some (.ref fI)) (Yk:∀h,P.G h->∃of,h.get? fI=some of/\of.cls= .type "function")
  (Cg:∀h,P.G h->(∃o,h.get? fI=some o/\o.data= .func fd)/\h.CodeRec fd.code fd.qualname) (nU:fd.body= .stmts body)
  (Ll:fd.globals=mainGlobals) (Qm:fd.builtins=builtinsNs) (Dp:fd.closure=[]) (vd:∀vs:List Value,vs.length=ps.length->bindArgs fd ⟨vs,[]⟩=pure (ps.zip vs)) (ok:ui K' fd.scope ps) (C4:ps.Nodup)
  (Ms:fd.scope.isCoroutine=false) (sO:fd.scope.isGenerator=false)
  (hB:sw P n K' C body F0) (hF:∀x xs r,F xs=some r->xs.length+1=ps.length/\r.length=5/\∃aQ,F0 x (nf (.obj [.int (x:Nat)]::xs)) []=some (aQ,r))
  (hs:kl P (n+2) K lo [e] f) (he:∀env,starEach [e] env=(false,eval e env)::starEach [] env):eo P (n+2) K lo (.Call (.Name id p) [e] [] pos) (fun ρ=>(f ρ).bind fun xs=>(F xs).map .obj):=fun A env out hid m B s ρ z E rm S hf=>by
 refine ak hf fun y hy gu=>?_
 clear hf;rename _=>hf
 refine cI hf ?_;clear hf;rintro r hr rfl;refine kO (bH S hx hv Qn ?_);refine callWith_cls (W.cls _ S.G) (aD (hs A env out hid m B s ρ y E pos rm S hy) (fun vs s₁ aj=>⟨aj.1.keep,?_⟩) fun ø ø q=>q) (he env) rfl;have bC:=S.after aj.1;have live:=bC.Ep lo;have Wa:=bC.G;refine W.xn Wa fun V9 q' bs sn sub col dd k0 k1 k2 k3 k5 hC hN=>?_
 obtain⟨oI,hoI,hcI⟩:=Yk _ Wa;have hdn:=aj.2;have k01:=aj.1;clear aj;obtain⟨hlen,hlen5,_⟩:=hF 0 y r hr;obtain⟨hp,g',d',tk,os⟩:=s₁;refine wpAny_call_obj_init PySem.F.objNew hC hN hi hoI hcI fun h' x dx mo=>?_
 have k12:Kp ⟨hp,g',d',tk,os⟩ ⟨h',g',d',tk,os⟩:=⟨mo.keeps,.refl _,rfl⟩;obtain⟨o,mA⟩:∃o,h'.get? x=some o:=by obtain⟨o,e,_⟩:=mo.inst;exact⟨o,e⟩
 have hI:ip C h' x dx []:=by
  obtain⟨o,z1,z2,z3,z4⟩:=mo.inst;have Gg:=mo.dict o z1;rcases z4 with⟨z4,_⟩|⟨d2,z4,z5,z6⟩
  ·rw[Gg]at z4;cases z4
  ·rw[Gg]at z4;cases z4
   exact⟨o,_,z1,z2,z3,Gg,z5,z6,fun i v nm h=>by simp at h,fun ø ø=>rfl⟩
 obtain⟨odx,hodx⟩:∃o,h'.get? dx=some o:=by obtain⟨_,_,_,_,_,_,_,⟨o,_,_,z,_⟩,_⟩:=hI;exact⟨o,z⟩
 have T2:cJ (n+1) (A.under (.builtin "type.__call__" ⟨.ref C::vs,[]⟩)):=by
  refine⟨rm.handled,?_,?_⟩
  ·rw[depth_under_make];have:=rm.depth;omega
  ·show A.units+(Code.builtin "type.__call__" ⟨.ref C::vs,[]⟩).cUnits+10*(n+1)+10<=9000
   have h4:(Code.builtin "type.__call__" ⟨.ref C::vs,[]⟩).cUnits<=10:=by
    show 1+3*(Code.builtin "type.__call__" ⟨.ref C::vs,[]⟩).frames<=10;have:(Code.builtin "type.__call__" ⟨.ref C::vs,[]⟩).frames<=3:=by
     show(Code.builtin "type.__call__" ⟨[],[]⟩).frames<=3
     decide+kernel
    omega
   have:=rm.units;omega
 have hx0:x∉av lo out hid:=live.not mo.newX;have Yq:dx∉av lo out hid:=live.not mo.newD;have Uc:cD h' ([x,dx]++av lo out hid):=fun a h=>by
  simp only[List.cons_append,gh,bI]at h;rcases h with rfl|rfl|h
  ·exact⟨_,mA⟩
  ·exact⟨_,hodx⟩
  ·obtain⟨o,e⟩:=live a h;exact⟨o,mo.keeps _ _ e⟩
 have jr:∀a∈[x,dx]++av lo out hid,a∈av lo out hid\/hp.get? a=Option.none:=fun a h=>by
  simp only[List.cons_append,gh,bI]at h;rcases h with rfl|rfl|h
  ·exact .inr mo.newX
  ·exact .inr mo.newD
  ·exact .inl h
 have lF:bd P h' ([x,dx]++av lo out hid) y vs:=bd.grow (P:=P) hdn (fun a o ø e=>mo.keeps a o e) jr;refine vc (xs:=.obj [.int (x:Nat)]::y) Cg nU Ll Qm Dp vd ok C4 Ms sO T2 (P.Gk Wa mo.keeps) Uc (.cons (Dn.T3 W x) lF) (by simp[hlen]) fun Ud s₂ ar m' E' dI Jq rm2=>?_
 have rv:aU P K' Ud ([x,dx]++av lo out hid) ar m' ⟨hp,g',d',tk,os⟩ s₂ _:=dI.rebase k12 Wa;obtain⟨_,_,aQ,hf0⟩:=hF x y r hr;have Mw:ip C s₂.heap x dx []:=hI.at (fun o e=>dI.kp.keep _ o e) fun o e=>dI.kp.keep _ o e
 refine aD (hB _ Ud _ ar m' _ s₂ x dx _ [] [] aQ r E' rm2 rv mo.newX mo.newD Mw .nil hf0) (fun dG s₃ q=>?_) fun ø ø q=>q
 obtain⟨rfl,hid₃,SN,ws,rx,I₄,N9⟩:=q;refine⟨rfl,k01.trans rx.kp,?_⟩;refine⟨x,ws,rfl,?_,bd.less (P:=P) N9 fun a h=>rx.oh a (ck _ h)⟩;rw[W.ob];exact .inr ⟨N9.length.trans hlen5,dx,I₄,hx0,Yq⟩
end
section
variable{P:Pk}{n:Nat}{K:Cx}{lo:Bool}
theorem aZ.up{v F}(h:aZ P n v F):aZ P (n+1) v F:=fun A s hid xs x vs E rm hG live hd hf=>h A s hid xs x vs E (rm.less (jT _)) hG live hd hf
theorem aZ.pU{v F}(h:aZ P n v F)(k:Nat):aZ P (n+k) v F:=by
 induction k with
 |zero=>exact h
 |succ k ih=>exact ih.up
inductive EtQ(P:Pk)(K:Cx)(env:Env)(out hid:List Addr)(B s s':Shared)(aQ:ao)(b c:Bool):Prop
 |mk (ar:List Addr) (m':Str->Option Value) (S:aU P K env out ar m' B s' aQ) (k:Ks out hid ar s s') (e:c=b):EtQ P K env out hid B s s' aQ b c
noncomputable def EfT(P:Pk)(n:Nat)(K:Cx)(e:Expr)(f:ao->Option (ao×Bool)):Prop:=
 ∀(A:Around) (env:Env) (out hid:List Addr) (m:Str->Option Value) (B s:Shared) (ρ aQ:ao) (b:Bool) (E:Value->Shared->Prop),cJ n A->aU P K env out hid m B s ρ->f ρ=some (aQ,b)->
  wpAny (model P.prog P.w) A (isTrue e env (eval e env)) (fun c s'=>EtQ P K env out hid B s s' aQ b c) E s
noncomputable def Yr(F:V->V->Option Bool)(f:ao->Option (ao×V))(g:ao->Option V):ao->Option (ao×Bool):=fun ρ=>(f ρ).bind fun r=>(g r.1).bind fun y=>(F r.2 y).map fun b=>(r.1,b)
theorem EfT.cmp{l r:Expr}{op:CmpOp}{pos:Pos}{F f g}(ho:jl P op F)(hl:Sh P n K l f)(hr:eo P n K false r g)(hm:behindInMarks op r=false):EfT P n K (.Compare l [op] [r] pos) (Yr F f g):=fun A env out hid m B s ρ aQ b E rm S hf=>by
 refine ak hf ?_;clear hf;rintro⟨am,x⟩ hx hf;refine ak hf fun y hy gu=>?_
 clear hf;rename _=>hf
 refine cI hf fun b' hb e=>?_
 clear hf
 first|refine pair_inv e ?_;clear e|cases e
 refine tq (aD (hl A env out hid m B s ρ am x E rm S hx) (fun u s₁ aj=>?_) fun ø ø q=>q) hm;obtain⟨du,m₁,bC,jp,hu⟩:=aj;refine aD (hr A env out du m₁ B s₁ am y E rm bC hy) (fun v s₂ aM=>?_) fun ø ø q=>q
 have dI:=bC.after aM.1;refine aD (ho A s₂ du x y b' u v E (rm.less (eK _)) dI.G dI.live (hu.kp aM.1) aM.2 hb) (fun w s₃ eu=>?_) fun ø ø q=>q
 rw[eu.2];exact mR ⟨du,m₁,dI.after eu.1,(jp.trans (.iO aM.1)).trans (.iO eu.1),rfl⟩
theorem Bn{asg:ao->V->Option ao}{body:ao->Option (ao×Fl)}(I:Nat->ao->Prop)(Q:ao×Fl->Prop){xs:List V}
  (step:∀(i:Nat) x ρ,xs[i]?=some x->I i ρ->∃am r,asg ρ x=some am/\body am=some r/\match r.2 with
   | .next| .cont=>I (i+1) r.1
   | .brk=>Q (r.1,.next)
   | .ret v=>Q (r.1,.ret v))
  (done:∀ρ,I xs.length ρ->Q (ρ,.next)) {ρ:ao} (h0:I 0 ρ):∃r,gz asg body xs ρ=some r/\Q r:=by
 have go:∀(k:Nat) (i:Nat) ρ,k=xs.length-i->i<=xs.length->I i ρ->∃r,gz asg body (xs.drop i) ρ=some r/\Q r:=by
  intro k
  induction k with
  |zero=>
   intro i ρ hk hi h;have:i=xs.length:=by omega
   subst this;rw[List.drop_length];exact⟨_,rfl,done ρ h⟩
  |succ k ih=>
   intro i ρ hk hi h;have ew:i<xs.length:=by omega
   rw[List.drop_eq_getElem_cons ew];obtain⟨am,r,h1,h2,h3⟩:=step i xs[i] ρ (by simp[ew]) h;rw[uf];rw[h1,lN,h2,lN];obtain⟨di,fl⟩:=r;cases fl<;>dsimp only at h3 ⊢
   ·exact ih (i+1) di (by omega) ew h3
   ·exact⟨_,rfl,h3⟩
   ·exact ih (i+1) di (by omega) ew h3
   ·exact⟨_,rfl,h3⟩
 simpa using go _ 0 ρ rfl (eK _) h0
end
section
variable{P:Pk}{n:Nat}{K:Cx}{lo:Bool}
theorem len0:∀(ρ:ao) (x:List V),(fun _:ao=>some ([]:List V)) ρ=some x->x.length=0:=fun ρ x h=>by cases h;rfl
theorem kt.len0{L:Addr}{h:Heap}{out hid:List Addr}{bs:List Bool}{xs:List V}{vs:List Value}{H:List Addr}(e:kt P L h out hid bs xs vs H):vs.length=bs.length:=by
 induction e with
 |nil=>rfl
 |dat _ _ ih=>exact congrArg Nat.succ ih
 |box _ _ _ ih=>exact congrArg Nat.succ ih
theorem kt.len{ts:List (Nat×Str×NameKind×Bool)}:∀(L:Addr) (out hid:List Addr) (H:List Addr) (h:Heap) (xs:List V) (vs:List Value),kt P L h out hid (ts.map (·.2.2.2)) xs vs H->vs.length=ts.length:=fun L out hid H h xs vs e=>by
 rw[kt.len0 e];simp
theorem jE{i:Nat}{g}:∀ρ r,oX FH i g ρ=some r->r.2= .none:=by
 intro ρ r h;simp only[oX,kP,nB]at h;obtain⟨y,_,xs,_,r',hF,rfl⟩:=h;exact ak hF fun l ø hF=>ak hF fun x ø hF=>eR hF fun ø e=>by subst e;rfl
theorem Jr{i:Nat}{g}:∀ρ r,oX LC i g ρ=some r->r.2= .none:=by
 intro ρ r h;simp only[oX,kP,nB]at h;obtain⟨y,_,xs,_,r',hF,rfl⟩:=h;exact ak hF fun l ø hF=>ak hF fun p ø hF=>ak hF fun n ø hF=>eR hF fun ø e=>by subst e;rfl
theorem zf{env:Env}(h:env.scope.kind= .function):env.blockKind= .function:=by
 unfold Env.blockKind;rw[h];rfl
theorem Ue{α:Type _}{b:Bool}{x y z:α}(h:b=false)(e:y=z):(if b=true then x else y)=z:=by
 subst h;exact e
theorem Uf{α:Type _}{b:Bool}{x y:α}(e:y=x):(if b=true then x else y)=x:=by
 rw[e,ite_self]
noncomputable def RM:{q:(Expr->Bool)×(Env->List Expr->Expr->Option Str)//∀ts es k k' p p' env,swappedStores [.Tuple ts k p] (.Tuple es k' p') env=
  if(!(ts.length==2||ts.length==3)||es.length != ts.length||env.blockKind != .function)=true then pure none else if es.any q.1=true then pure none else
   if((ts.filterMap (q.2 env ts)).length != ts.length||(ts.filterMap (q.2 env ts)).eraseDups.length != (ts.filterMap (q.2 env ts)).length)=true then pure none else
    if es.all (foldedForSure 8)=true then pure none else if es.all (constantsAlone 8)=true then(do unsupported "assign.tuple-of-constant-expressions:order-of-the-stores";pure (some (ts.filterMap (q.2 env ts))))else pure (some (ts.filterMap (q.2 env ts)))}:=
 ⟨(_,_),fun ø ø ø ø ø ø ø=>rfl⟩
noncomputable abbrev star:Expr->Bool:=RM.1.1
noncomputable abbrev vf(env:Env)(ts:List Expr):Expr->Option Str:=RM.1.2 env ts
theorem nX{env:Env}{x y:Str}{p q:Pos}{ts:List Expr}(h:env.kindOf x=some .local)(hl:(p.line==q.line)=true):vf env (.Name y q::ts) (.Name x p)=some x:=by
 show(if(env.kindOf x==some .local&&p.line==q.line)=true then some x else none)=some x;rw[h,hl];rfl
theorem EZ{env:Env}{ts es:List Expr}{k k':Nat}{p p':Pos}{names:List Str}(hl:(!(ts.length==2||ts.length==3)||es.length != ts.length||env.blockKind != .function)=false)(h1:es.any star=false)(hn:ts.filterMap (vf env ts)=names)
  (Jq:(names.length != ts.length||names.eraseDups.length != names.length)=false) (h2:es.all (foldedForSure 8)=false) (h3:es.all (constantsAlone 8)=false):swappedStores [.Tuple ts k p] (.Tuple es k' p') env=pure (some names):=by
 subst hn;exact(RM.2 ..).trans (Ue hl (Ue h1 (Ue Jq (Ue h2 (Ue h3 rfl)))))
theorem E0{env:Env}{ts es:List Expr}{k k':Nat}{p p':Pos}{names:List Str}(hn:ts.filterMap (vf env ts)=names)(h:(names.length != ts.length||names.eraseDups.length != names.length)=true):swappedStores [.Tuple ts k p] (.Tuple es k' p') env=pure none:=by
 subst hn;exact(RM.2 ..).trans (Uf (Uf (aw h)))
theorem Oa{env:Env}{es:List Expr}{m:Nat}(hs:(es.length != m)=false)(hf:env.scope.kind= .function):(es.length != m||env.blockKind != .function)=false:=by
 rw[hs,zf hf];rfl
theorem Ug{K:Cx}{i j:Nat}{x y:Str}{b b':Bool}{p1 p2 p p':Pos}{k k':Nat}{es:List Expr}(hi:K.vars[i]?=some (x,.local,b))(hj:K.vars[j]?=some (y,.local,b'))(hl:(p2.line==p1.line)=true)(hn:([x,y].eraseDups.length != 2)=false)
  (hs:(es.length != 2)=false) (h1:es.any star=false) (h2:es.all (foldedForSure 8)=false) (h3:es.all (constantsAlone 8)=false):
  ∀env:Env,(∀(i:Nat) x kd b,K.vars[i]?=some (x,kd,b)->env.kindOf x=some kd)->env.scope.kind= .function->swappedStores [.Tuple [.Name x p1,.Name y p2] k p] (.Tuple es k' p') env=pure none\/swappedStores [.Tuple [.Name x p1,.Name y p2] k p] (.Tuple es k' p') env=pure (some [x,y]):=fun env hk hf=>
 .inr (EZ (Oa hs hf) h1 ((rd (nX (hk i x _ _ hi) (qQ _))).trans (congrArg _ (rd (nX (hk j y _ _ hj) hl)))) hn h2 h3)
theorem Ob{K:Cx}{i j l:Nat}{x y z:Str}{b b' b'':Bool}{p1 p2 p3 p p':Pos}{k k':Nat}{es:List Expr}(hi:K.vars[i]?=some (x,.local,b))(hj:K.vars[j]?=some (y,.local,b'))(hz:K.vars[l]?=some (z,.local,b''))(hl:(p2.line==p1.line)=true)(Ys:(p3.line==p1.line)=true)(hn:([x,y,z].eraseDups.length != 3)=false)
  (hs:(es.length != 3)=false) (h1:es.any star=false) (h2:es.all (foldedForSure 8)=false) (h3:es.all (constantsAlone 8)=false):
  ∀env:Env,(∀(i:Nat) x kd b,K.vars[i]?=some (x,kd,b)->env.kindOf x=some kd)->env.scope.kind= .function->swappedStores [.Tuple [.Name x p1,.Name y p2,.Name z p3] k p] (.Tuple es k' p') env=pure none\/swappedStores [.Tuple [.Name x p1,.Name y p2,.Name z p3] k p] (.Tuple es k' p') env=pure (some [x,y,z]):=fun env hk hf=>
 .inr (EZ (Oa hs hf) h1 ((rd (nX (hk i x _ _ hi) (qQ _))).trans (congrArg _ ((rd (nX (hk j y _ _ hj) hl)).trans (congrArg _ (rd (nX (hk l z _ _ hz) Ys)))))) hn h2 h3)
theorem Mx{K:Cx}{ts:List Expr}{p p':Pos}{k k':Nat}{es:List Expr}{names:List Str}(h1:es.any star=false)(h2:es.all (foldedForSure 8)=true):
 ∀env:Env,(∀(i:Nat) x kd b,K.vars[i]?=some (x,kd,b)->env.kindOf x=some kd)->env.scope.kind= .function->swappedStores [.Tuple ts k p] (.Tuple es k' p') env=pure none\/swappedStores [.Tuple ts k p] (.Tuple es k' p') env=pure (some names):=fun env hk hf=>.inl ((RM.2 ..).trans (Uf (Uf (Uf (aw h2)))))
end
section
variable{P:Pk}{n:Nat}{K K':Cx}{lo:Bool}
noncomputable def My(P:Pk)(n:Nat)(K:Cx)(st:List Stmt)(f:ao->Option V):Prop:=
 ∀(A:Around) (env:Env) (out hid:List Addr) (m:Str->Option Value) (B s:Shared) (ρ:ao) (x:V) (E:Value->Shared->Prop),cJ n A->aU P K env out hid m B s ρ->f ρ=some x->
  wpAny (model P.prog P.w) A (execs st env) (fun dG s'=>Kp B s'/\∃v,dG= .ret v/\Dn P s'.heap out x v) E s
theorem Bo{st f}(h:ow P n K st f):My P n K st (fun ρ=>(f ρ).bind fun r=>match r.2 with| .ret x=>some x|_=>Option.none):=fun A env out hid m B s ρ x E rm S hf=>by
 refine ak hf ?_;clear hf;rintro⟨aQ,fl⟩ h1 hf;cases fl<;>dsimp only at hf<;>try cases hf
 refine aD (h A env out hid m B s ρ aQ _ E rm S h1) (fun dG s' q=>?_) fun ø ø q=>q
 obtain⟨ar,m',S',K',v,rfl,hv⟩:=q;exact⟨S'.kp,v,rfl,hv⟩
noncomputable def Js(f:ao->Option (ao×Fl))(g:ao->Option V):ao->Option V:=fun ρ=>(f ρ).bind fun r=>match r.2 with
 | .next=>g r.1
 | .ret x=>some x
 |_=>Option.none
theorem dM{st:Stmt}{rest:List Stmt}{f g}(h:zU P n K st f)(hr:My P n K rest g):My P n K (st::rest) (Js f g):=fun A env out hid m B s ρ x E rm S hf=>by
 refine ak hf ?_;clear hf;rintro⟨am,fl⟩ h1 hf;refine tw (aD (h A env out hid m B s ρ am fl E rm S h1) (fun dG s₁ q=>?_) fun ø ø q=>q);obtain⟨du,m₁,bC,jp,pV⟩:=q;cases fl<;>dsimp only at hf<;>try cases hf
 ·obtain rfl:=pV
  exact hr A env out du m₁ B s₁ am x E rm bC hf
 ·obtain⟨v,rfl,hv⟩:=pV
  exact⟨bC.kp,v,rfl,hv⟩
theorem aU.freeze{env:Env}{out hid:List Addr}{m}{B s:Shared}{ρ}(S:aU P K env out hid m B s ρ)(i:Nat){x:Str}{k:NameKind}(hi:K.vars[i]?=some (x,k,true))(hv:K'.vars=K.vars.set i (x,k,false))(hg:K'.aV=K.aV){y:V}(hy:ρ i=some y):
  ∃ar,aU P K' env out ar m B s ρ:=by
 obtain⟨ov,Vq,sl0⟩:=S.slot i x k true hi;rw[hy]at sl0;obtain⟨v0,rfl,bx⟩:=sl0;rw[aw rfl]at bx;obtain⟨a,rfl,ha1,ha2,ha3,ha4⟩:=eP.addr (P:=P) bx;have mem:∀b,b∈hid.filter (fun b=>decide (b≠a))<->b∈hid/\b≠a:=fun b=>by simp[gw]
 have sub:∀b∈hid.filter (fun b=>decide (b≠a)),b∈hid:=fun b h=>((mem b).mp h).1
 have Yt:a∉hid.filter (fun b=>decide (b≠a)):=fun q=>((mem a).mp q).2 rfl
 refine⟨hid.filter fun b=>decide (b≠a),S.unbox hi hv hg hy Vq ha4 (fun b h=>(mem b).mpr ⟨S.oh b h,fun e=>ha2 (e▸h)⟩) (fun b h ho=>S.own b (sub b h) ho) (fun b h ho cZ=>⟨(mem b).mpr ⟨h,cZ⟩,ho⟩) ha3 sub
  (fun h=>h.map id fun c ø q2 q3 q4=>⟨(mem c).mpr ⟨q2,fun e=>ha4.jY (e▸q4)⟩,q3,q4⟩) (fun ø ø=>rfl) hy ?_⟩
 cases y
 case list=>
  obtain⟨a',vs,e,z1,z2,z3,z4,z5⟩:=bx;cases e;exact .ofList Yt z4 (bd.less (P:=P) z5 sub)
 case dict=>
  obtain⟨a',vs,e,z1,z2,z3,z4,z5,z6,z7⟩:=bx;cases e;exact⟨a,vs,rfl,Yt,z5,z4,z6,bd.less (P:=P) z7 sub⟩
 all_goals exact bx.elim
theorem zg(i:Nat){x:Str}{k:NameKind}{rest:List Stmt}{g}(hi:K.vars[i]?=some (x,k,true))(hv:K'.vars=K.vars.set i (x,k,false))(hg:K'.aV=K.aV)(hr:My P n K' rest g):My P n K rest (fun ρ=>(ρ i).bind fun ø=>g ρ):=fun A env out hid m B s ρ x E rm S hf=>by
 refine ak hf fun y hy gu=>?_
 clear hf;rename _=>hf
 obtain⟨ar,S'⟩:=S.freeze i hi hv hg hy;exact hr A env out ar m B s ρ x E rm S' hf
set_option tactic.hygienic true in
theorem aZ.fnT{a:Addr}{fd:FuncData}{body:List Stmt}{ps:List Str}{f:ao->Option V}(Cg:∀h,P.G h->(∃o,h.get? a=some o/\o.data= .func fd)/\h.CodeRec fd.code fd.qualname)(nU:fd.body= .stmts body)
  (Ll:fd.globals=mainGlobals) (Qm:fd.builtins=builtinsNs) (Dp:fd.closure=[]) (vd:∀vs:List Value,vs.length=ps.length->bindArgs fd ⟨vs,[]⟩=pure (ps.zip vs)) (ok:ui K fd.scope ps) (C4:ps.Nodup)
  (Ms:fd.scope.isCoroutine=false) (sO:fd.scope.isGenerator=false) (h:My P n K body f):aZ P (n+1) (.ref a) (fun xs=>if xs.length=ps.length then f (nf xs)else Option.none):=
 fun A s hid xs x vs E rm hG live hd hf=>by
 dsimp only at hf;split at hf
 case isFalse=>cases hf
 rename_i hlen;refine vc Cg nU Ll Qm Dp vd ok C4 Ms sO rm hG live hd hlen fun env s₁ ar m E' S ø T2=>?_
 refine aD (h _ env hid ar m s s₁ (nf xs) x E' T2 S hf) (fun dG s' q=>?_) fun ø ø q=>q
 obtain⟨k,v,rfl,hv⟩:=q;exact⟨k,hv⟩
theorem zh(i:Nat){id x:Str}{k:NameKind}{p xp pos:Pos}(hi:K.vars[i]?=some (x,k,true))(hd:(x==("__debug__":Str))=false)(hc:(x==("__classdict__":Str))=false)(hx:K.aV.contains id=true)(hv:P.glob id=some (.type "tuple"))(Qn:(id==("__debug__":Str))=false):
  eo P n K false (.Call (.Name id p) [.Name x xp] [] pos) (fun ρ=>(ρ i).bind fun y=>SI [y]):=fun A env out hid m B s ρ z E rm S hf=>by
 refine ak hf fun y hy gu=>?_
 clear hf;rename _=>hf
 refine kO (bH S hx hv Qn ?_);refine PySem.Pv.callWith_type1 (nq (fP (S.load hi hy hd hc fun v bx ø=>nA ?_) hd));rw[aw rfl]at bx;refine ak (o:=y.gm) hf fun l hl hf=>ite_inv hf fun hm=>?_
 cases V.eO hl;obtain⟨a,ws,rfl,_,_,_,ht,lF⟩:=bx.cK;exact Pd S.live ht lF hm
end
section
section tables
end tables
section
variable{prog:Program}{w:World}{K:Type}[DecidableEq K]{knd:KeyKind prog w K}{A:Around}{E:Value->Shared->Prop}{s:Shared}
structure Yu(knd:KeyKind prog w K)(o:Obj)(es:Array (Int×Value))(ep:Nat)(t:SetTable)(ks:List K)(led:Bool):Prop where
 h1:o.ExactSet
 h2:o.data= .set es ep t
 h3:ElemsOf knd es.toList
 h4:es.size=ks.length
 h5:∀k,k∈ks<->∃e∈es.toList,knd.is k e.2=true
 h6:es.size<scanBound
 h7:t.fits es.size=true
 h8:t.led=led
 h9:es.size≠0->t.plain=false
inductive Mz(knd:KeyKind prog w K)(h:Heap)(a:Addr)(ks:List K)(led:Bool):Prop
 |mk (o:Obj) (es:Array (Int×Value)) (ep:Nat) (t:SetTable) (e:h.get? a=some o) (d:Yu knd o es ep t ks led):Mz knd h a ks led
theorem Mz.at{h h':Heap}{a ks led}(x:Mz knd h a ks led)(k:∀o,h.get? a=some o->h'.get? a=some o):Mz knd h' a ks led:=let⟨o,es,ep,t,e,r⟩:=x;⟨o,es,ep,t,k o e,r⟩
end
end
section
section
variable{prog:Program}{w:World}{A:Around}{E:Value->Shared->Prop}{s:Shared}
noncomputable def Qo(ks:List Str)(k:Str):List Str:=if k∈ks then ks else ks++[k]
noncomputable def dd(xs:List (List Nat)):List Str:=(xs.map pyStr).foldl Qo []
end
end
section
section
variable{prog:Program}{w:World}{A:Around}{E:Value->Shared->Prop}{s:Shared}
end
end
section
section facts
end facts
section perms
variable{M:Model}{A:Around}{E:Value->Shared->Prop}{s:Shared}
end perms
section
variable{prog:Program}{w:World}{A:Around}{E:Value->Shared->Prop}{s:Shared}
inductive rQ(w:World)(S:Addr)(es:Array (Int×Value))(ep:Nat)(t:SetTable)(first:Nat->Value)(vals:List Value)(h:Heap):Prop
 |txt (a1:w.params.followText "set-order"=true) (a2:∀i,first i=rawInt (0:Nat)) (a3:vals=(pickOrder (w.params.setOrder S ep) es).toList.map (·.2)):rQ w S es ep t first vals h
 |drw (a1:w.params.followText "set-order"=false) (tp:Addr) (places:List Nat) (a2:∀i,first i= .ref tp) (a3:x6 h tp (places.map fun(p:Nat)=>rawInt p).toArray) (a4:places.Perm (List.range es.size)) (a5:vals=places.filterMap fun p=>(es[p]?).map (·.2)):rQ w S es ep t first vals h
 |one (a1:w.params.followText "set-order"=false) (a2:es.size<=1) (a3:t.led=true) (a4:first 0=rawInt (0:Nat)) (a5:∀p,t.place[0]?=some p->first 1=rawInt (p+1:Nat)) (a6:vals=es.toList.map (·.2)):rQ w S es ep t first vals h
end
end
section
section
variable{prog:Program}{w:World}{A:Around}{E:Value->Shared->Prop}{s:Shared}
noncomputable def Qp{α:Type}(d:α)(fI:Int->Tok->α)(fS:Str->Tok->α)(fR:Addr->α)(v:Value):α:= @Value.casesOn (fun ø=>α) v d d d (fun ø=>d) (fun k t=>fI k t) (fun ø ø=>d) (fun x t=>fS x t) (fun ø ø=>d) (fun ø=>d) (fun ø=>d) (fun a=>fR a)
noncomputable def vInt:Value->Option (Int×Tok):=Qp none (fun k t=>some (k,t)) (fun ø ø=>none) (fun ø=>none)
noncomputable def vStr:Value->Option (Str×Tok):=Qp none (fun ø ø=>none) (fun x t=>some (x,t)) (fun ø=>none)
noncomputable def Yv:Value->Option Addr:=Qp none (fun ø ø=>none) (fun ø ø=>none) some
theorem vg{v:Value}{p}(h:vInt v=some p):v= .int p.1 p.2:=by
 cases v<;>cases h;rfl
theorem Jt{v:Value}{p}(h:vStr v=some p):v= .str p.1 p.2:=by
 cases v<;>cases h;rfl
noncomputable def Uh(first:Nat->Value):List Addr:=(Yv (first 0)).toList
theorem rQ.keep{S:Addr}{es:Array (Int×Value)}{ep:Nat}{t:SetTable}{first:Nat->Value}{vals:List Value}{h h':Heap}(x:rQ w S es ep t first vals h)(k:∀b∈Uh first,∀o,h.get? b=some o->h'.get? b=some o):rQ w S es ep t first vals h':=by
 rcases x with⟨a,b,c⟩|⟨a,tp,places,b,c,d,e⟩|⟨a,b,c,d,e,f⟩
 ·exact .txt a b c
 ·obtain⟨n,c⟩:=c
  exact .drw a tp places b ⟨n,k tp (by unfold Uh;rw[b 0];exact List.mem_singleton_self _) _ c⟩ d e
 ·exact .one a b c d e f
end
end
section
section
variable{prog:Program}{w:World}{A:Around}{E:Value->Shared->Prop}{s:Shared}
end
end
section
section
variable{prog:Program}{w:World}{A:Around}{E:Value->Shared->Prop}{s:Shared}
end
variable{P:Pk}{n:Nat}{K K':Cx}{lo:Bool}
end
section
variable{P:Pk}{n:Nat}{K:Cx}{lo:Bool}{C N:Addr}
structure Dt(P:Pk)(n:Nat)(C:Addr)(F:List V->Option (List V)):Prop where
 ok:∀{K:Cx} {lo:Bool} {id:Str} {p pos:Pos} {e:Expr} {f},K.aV.contains id=true->P.glob id=some (.ref C)->(id==("__debug__":Str))=false->kl P n K lo [e] f->(∀env,starEach [e] env=(false,eval e env)::starEach [] env)->
  eo P n K lo (.Call (.Name id p) [e] [] pos) (fun ρ=>(f ρ).bind fun xs=>(F xs).map .obj)
theorem eo.mk{F:List V->Option (List V)}(m:Dt P n C F){id:Str}{p pos:Pos}{e:Expr}{f}(hx:K.aV.contains id=true)(hv:P.glob id=some (.ref C))(Qn:(id==("__debug__":Str))=false)(hs:kl P n K lo [e] f)(he:∀env,starEach [e] env=(false,eval e env)::starEach [] env):
 eo P n K lo (.Call (.Name id p) [e] [] pos) (fun ρ=>(f ρ).bind fun xs=>(F xs).map .obj):=m.ok hx hv Qn hs he
end
theorem Yw(P:Params):(HZ P).get? 22=some (iF P):=qo P (by kernel_rfl) (by decide) (by kernel_rfl)
theorem Oc(P:Params):(HZ P).get? 160=some (io P):=qo P (by kernel_rfl) (by decide) (by kernel_rfl)
theorem Od(P:Params):(HZ P).get? 161=some uX:=qo P (by kernel_rfl) (by decide) (by kernel_rfl)
theorem Ui(P:Params):(HZ P).get? 166=some (fc P):=qo P (by kernel_rfl) (by decide) (by kernel_rfl)
theorem at2(P:Params):(HZ P).get? 2=some (boot_o_2 P):=qo P (by kernel_rfl) (by decide) (by kernel_rfl)
noncomputable def Ju(o:Obj):Array (Int×Value):=PF #[] (fun ø=> #[]) (fun es=>es) (fun ø=> #[]) o.data
noncomputable def Uj(es:List (Int×Value)):Bool:=es.all fun e=>(vInt e.2).elim false fun k=>e.1==hashInt k.1&&e.2.scannable
noncomputable def Uk:List Int:=[65024,65025,65026,65027,65028,65029,6150,65030,65031,65032,65033,6155,6156,6157,8203,8204,8205,65034,65035,65036,65037,65038,65039,173,847,8288,65279]
noncomputable def Oe(es:List (Int×Value)):List Int:=es.filterMap fun e=>(vInt e.2).map (·.1)
theorem vh{α:Type}{o:Option α}{f:α->Bool}(h:o.elim false f=true):∃a,o=some a/\f a=true:=by
 cases o with
 |none=>cases h
 |some a=>exact⟨a,rfl,h⟩
set_option tactic.hygienic true in
theorem Qq{P:Pk}(hG:∀h,P.G h->YP P.w h):∀h,P.G h->∃n,h.SetOf (intKind P.prog P.w) 22 (fun k=>decide (k∈Uk)) n:=fun h G=>by
 have hk:Oe (Ju (iF P.w.params)).toList=Uk:=by kernel_rfl
 have LZ:Uj (Ju (iF P.w.params)).toList=true:=by kernel_rfl
 refine⟨_,iF P.w.params,Ju (iF P.w.params),_,_,hG h G _ _ (Yw _),⟨rfl,rfl,rfl⟩,rfl,fun e he=>?_,fun k=>?_,?_,?_,rfl⟩
 ·obtain⟨p,h1,h2⟩:=vh (cH.mp LZ e he)
  obtain⟨h3,h4⟩:=(bX _ _).mp h2;exact⟨⟨p.1,by rw[vg h1];simp[intKind,Value.isInt],eq_of_beq h3⟩,h4⟩
 ·rw[mS,<-hk]
  unfold Oe;rw[List.mem_filterMap];constructor
  ·rintro⟨e,he,hq⟩
   refine cI hq fun p hp hq=>⟨e,he,?_⟩
   rw[vg hp];simp[intKind,Value.isInt,hq]
  ·rintro⟨e,he,hq⟩
   obtain⟨t,ht⟩:=Value.isInt_shape hq;exact⟨e,he,by rw[ht];rfl⟩
 ·show 27<scanBound
  decide
 ·kernel_rfl
noncomputable def MA(P:Params)(l:List Nat):Option Int:=(findBy (fun(k:Str) v=>v.isStrOf k) (ents (fc P)) (pyStr l)).bind fun v=>(vInt v).map (·.1)
noncomputable def keysOk(P:Params):List DictEntry->Prop
 |[]=>True
 |e::es=>((vStr e.key).elim False fun x=>e.hash=PySem.PyData.keyHash P x.1)/\keysOk P es
set_option tactic.hygienic true in
theorem xo{prog:Program}{w:World}:∀{es:List DictEntry},keysOk w.params es->∀e∈es,∃k,(PySem.strKind prog w).is k e.key=true/\e.hash=(PySem.strKind prog w).hash k
 |[],_,e,he=>by cases he
 |x::es,h,e,he=>by
  obtain⟨h1,h2⟩:=h;rcases bI.mp he with rfl|he
  ·cases q:vStr e.key with
   |none=>rw[q]at h1;cases h1
   |some y=>
    rw[q]at h1;exact⟨y.1,by rw[Jt q];simp[PySem.strKind,Value.isStrOf],h1⟩
  ·exact xo h2 e he
theorem Jv(P:Params):keysOk P (ents (fc P)).toList:=⟨rfl,rfl,rfl,rfl,rfl,rfl,rfl,rfl,rfl,rfl,rfl,rfl,rfl,rfl,rfl,rfl,rfl,rfl,rfl,rfl,rfl,rfl,rfl,rfl,rfl,rfl,rfl,rfl,rfl,rfl,rfl,rfl,rfl,rfl,rfl,rfl,rfl,rfl,rfl,rfl,rfl,rfl,rfl,rfl,rfl,rfl,rfl,rfl,trivial⟩
theorem Jw{P:Pk}(hG:∀h,P.G h->YP P.w h):∀h,P.G h->h.MapOf (PySem.strKind P.prog P.w) 166 fun k=>findBy (fun(k:Str) v=>v.isStrOf k) (ents (fc P.w.params)) k:=fun h G=>
 ⟨fc P.w.params,ents (fc P.w.params),_,hG h G _ _ (Ui _),⟨rfl,rfl,rfl⟩,rfl,fun e he=>xo (Jv _) e (by simpa using he),fun k=>rfl⟩
set_option tactic.hygienic true in
theorem E2{P:Pk}(hG:∀h,P.G h->YP P.w h):∀h,P.G h->∃f:Str->Option Value,h.MapOf (PySem.strKind P.prog P.w) 166 f/\∀l k,MA P.w.params l=some k->∃t,f (pyStr l)=some (.int k t):=fun h G=>
 ⟨_,Jw hG h G,fun l k hk=>ak hk fun v hv hk=>cI hk fun p hp hk=>⟨p.2,by rw[<-hk,<-vg hp];exact hv⟩⟩
noncomputable def Qr(P:Params)(l:List Nat):Bool:=(findBy (fun(k:Str) v=>v.isStrOf k) (ents (fc P)) (pyStr l)).isSome
theorem Jx{P:Pk}(hG:∀h,P.G h->YP P.w h):∀h,P.G h->∃g:Str->Option Value,h.MapOf (PySem.strKind P.prog P.w) 166 g/\∀l,Qr P.w.params l=(g (pyStr l)).isSome:=fun h G=>⟨_,Jw hG h G,fun l=>rfl⟩
noncomputable def MB(P:Params)(c:Nat):Option Nat:=(MA P [c]).map Int.toNat
theorem Jy(P:Params):((ents (fc P)).toList.all fun e=>(vInt e.val).elim false fun k=>decide (0<=k.1))=true:=by kernel_rfl
theorem MC{P:Params}{l:List Nat}{v:Value}(h:findBy (fun(k:Str) v=>v.isStrOf k) (ents (fc P)) (pyStr l)=some v):∃p:Int×Tok,vInt v=some p/\0<=p.1:=by
 unfold findBy at h;refine cI h fun e he h=>?_
 obtain⟨p,h1,h2⟩:=vh (cH.mp (Jy P) e (Array.mem_toList_iff.mpr (Array.mem_of_find?_eq_some he)));exact⟨p,h▸h1,cV h2⟩
noncomputable def MD(P:Params)(x:Str):Option Value:=nsFind (ents (io P)) x
noncomputable def strKeys(es:List DictEntry):Bool:=es.all fun e=>match e.key with
 | .str _ _=>true
 |_=>false
theorem ME(P:Params):strKeys (ents (io P)).toList=true:=by kernel_rfl
set_option tactic.hygienic true in
theorem MF(P:Params):StrKeys (ents (io P)):=fun e he=>by
 have:=cH.mp (ME P) e (by simpa using he);split at this
 ·rename_i x t q
  exact⟨x,t,q⟩
 ·cases this
theorem mu{P:Pk}(hob:P.OB=Dq 161)(hG:∀h,P.G h->YP P.w h):dJ P 161 160 (MD P.w.params)where
 ob:=hob
 cls:=fun h G=>⟨⟨_,_,_,_,_,_,_,_,_,_,_,_,hG h G _ _ (Od _)⟩,⟨io P.w.params,ents (io P.w.params),_,hG h G _ _ (Oc _),rfl,MF _,fun ø=>rfl⟩⟩
 ng:=by kernel_rfl
 nh:=by kernel_rfl
 nsa:=by kernel_rfl
 names:=fun nm h=>by
  simp only[bP,bI,tF,or_false]at h;rcases h with rfl|rfl|rfl|rfl|rfl<;>kernel_rfl
theorem MG(P:Params):MD P (Str.ofString "__init__")=some (.ref 116):=by kernel_rfl
noncomputable def Qs(P:Params):Frag:=[(2,boot_o_2 P),(160,io P),(161,uX)]
theorem E3{P:Pk}(hG:∀h,P.G h->YP P.w h):∀h,P.G h->(Qs P.w.params).In h:=fun h G=>
 Frag.in_of (as:=[2,160,161]) rfl (by
  have y:=hG h G;simp only[Qs,bB,po];rw[y _ _ (at2 _),y _ _ (Oc _),y _ _ (Od _)])
theorem Bp(P:Params):readsIn (Qs P) 161 (.type "type")=true:=by kernel_rfl
theorem Yx(P:Params):findCls (Qs P) (.ref 161) (.type "type") "S"=some (.val (.str (pyStr [32]) 2264)):=by kernel_rfl
section
variable{P:Pk}{n:Nat}
noncomputable def KB1:Cx:={vars:=[("code",.local,false)],aV:=["ord","b1_set"]}
end
section
variable{P:Pk}{n:Nat}
noncomputable def KB3:Cx:={vars:=[("code",.local,false),("r",.local,false)],aV:=["ord","b3_exceptions"]}
end
section
noncomputable def gpL:List Pos:=[⟨13,4,13,7⟩,⟨13,10,13,11⟩,⟨13,4,13,11⟩,⟨14,4,14,10⟩,⟨14,13,14,18⟩,⟨14,4,14,18⟩,⟨15,19,15,28⟩,⟨15,29,15,33⟩,⟨15,19,15,34⟩,⟨15,4,22,27⟩,⟨23,7,23,13⟩,⟨24,15,24,18⟩,⟨24,20,24,24⟩,⟨24,14,24,25⟩,⟨24,8,24,25⟩,⟨24,8,24,25⟩,⟨23,4,24,25⟩,⟨15,8,15,11⟩,⟨15,13,15,15⟩,⟨15,8,15,15⟩,⟨16,11,16,17⟩,⟨17,19,17,22⟩,⟨17,24,17,28⟩,⟨17,31,17,33⟩,⟨17,24,17,33⟩,⟨17,18,17,34⟩,⟨17,12,17,34⟩,⟨17,12,17,34⟩,⟨18,12,18,18⟩,⟨18,21,18,26⟩,⟨18,12,18,26⟩,⟨19,13,19,15⟩,⟨19,19,19,23⟩,⟨19,13,19,23⟩,⟨20,12,20,18⟩,⟨20,21,20,25⟩,⟨20,12,20,25⟩,⟨22,19,22,22⟩,⟨22,24,22,26⟩,⟨22,18,22,27⟩,⟨22,12,22,27⟩,⟨22,12,22,27⟩,⟨19,8,22,27⟩,⟨16,8,22,27⟩]
theorem Yy(P:Params):findCls (Qs P) (.ref 161) (.type "type") "T"=some (.val (.str (pyStr [9]) 2265)):=by kernel_rfl
structure bG(P:Pk):Prop where
 ob:P.OB=Dq 161
 top:∀h,P.G h->YP P.w h
 glob:∀(x:Str) v,nsFind (ents (nS P.w.params)) x=some v->P.glob x=some v
 built:∀(x:Str) v,x≠"__name__"->nsFind (ents (nS P.w.params)) x=none->bootBuiltins x=some v->P.glob x=some v
theorem Qt(w:World)(aj:Heap)(mg mb:Str->Option Value)(hg:aj.Ns mainGlobals mg)(hb:aj.Ns builtinsNs mb)(nl:aj.NoLimit)(hB:∀x:Str,x≠"__name__"->mb x=bootBuiltins x)(y:YP w aj):bG (IF RW.toRowW.prog w (Dq 161) (Dq.ok 161) aj mg mb hg hb nl)where
 ob:=rfl
 top:=fun h G a o e=>G _ _ (y a o e)
 glob:=fun x v e=>by
  show(match mg x with|some v=>some v|none=>mb x)=some v;replace e:nsFind (ents (nS w.params)) x=some v:=e;rw[NY hg y,e]
 built:=fun x v h1 h2 h3=>by
  show(match mg x with|some v=>some v|none=>mb x)=some v;replace h2:nsFind (ents (nS w.params)) x=none:=h2;rw[NY hg y,h2];show mb x=some v;rw[hB x h1,h3]
section
variable{P:Pk}(X:bG P)
include X
theorem bG.fn{h:Heap}(G:P.G h){a:Nat}{Q:Heap->Prop}(f:∀{aj h:Heap},YP P.w aj->(∀b o,aj.get? b=some o->h.get? b=some o)->Q h):Q h:=f (X.top h G) fun ø ø e=>e
theorem bG.enum:P.glob "enumerate"=some (.type "enumerate"):=X.built _ _ (by decide) (by kernel_rfl) (by kernel_rfl)
theorem bG.gen:Bl P 85:=⟨fdOf mt,fun h G=>by
 obtain⟨⟨o,h1,h2,h3⟩,h4⟩:=Tz (X.top h G) fun ø ø e=>e
 exact⟨⟨o,h1,h3⟩,h4⟩,⟨rfl,rfl,rfl,fun v=>rfl,rfl,rfl,rfl,by kernel_rfl,by kernel_rfl,by kernel_rfl,by kernel_rfl,by kernel_rfl,by
  show ∀x∈(kA (aO pq.main.body 6)).names,x.2≠ .cell
  decide+kernel⟩,X.enum,⟨fun i=>gpL.getD i default,by kernel_rfl⟩⟩
end
end
noncomputable def clip(v:Option Int)(d n:Nat):Nat:=match v with
 |none=>d
 |some i=>(max 0 (min (if i<0 then i+n else i) n)).toNat
theorem MH{v:Option Int}{d n:Nat}(h:d<=n):clip v d n<=n:=by
 cases v with
 |none=>exact h
 |some i=>exact Int.toNat_le.mpr (Int.max_le.mpr ⟨mW _,Int.min_le_right _ _⟩)
theorem clz(v:Option Int)(d n:Nat):(clip v d n:Int)=v.elim (d:Int) fun i=>max 0 (min (if i<0 then i+n else i) n):=by
 cases v with
 |none=>rfl
 |some i=>exact Int.toNat_of_nonneg (Int.le_max_left _ _)
theorem Bq(d:Nat){n i:Nat}(h:n<=i):clip (some (i:Int)) d n=n:=by
 show(max 0 (min (if(i:Int)<0 then(i:Int)+n else(i:Int)) n)).toNat=_;rw[au (by omega),Int.min_eq_right (by omega),tM (by omega)];rfl
theorem nY(i d n:Nat)(h:i<=n):clip (some (i:Int)) d n=i:=by
 show(max 0 (min (if(i:Int)<0 then(i:Int)+n else(i:Int)) n)).toNat=_;rw[au (by omega),Int.min_eq_left (by omega),tM (by omega)];rfl
theorem vi{α:Type}(l:List α)(a:Nat):∀k:Nat,((List.range k).map fun(j:Nat)=>a+j).filterMap (l[·]?)=(l.drop a).take k
 |0=>rfl
 |k+1=>by
  rw[tN,List.map_append,List.filterMap_append,vi l a k,xS,tJ];cases h:l[a+k]?<;>simp[h]
theorem Jz(a b:Nat):(if(a:Int)<b then((b:Int)-a+1-1)/1 else 0).toNat=b-a:=by
 by_cases h:(a:Int)<b
 ·rw[aw h,Int.ediv_one,Int.add_sub_cancel,Int.toNat_sub]
 ·rw[au h,Nat.sub_eq_zero_of_le (jU.mp (Int.not_lt.mp h))]
  rfl
theorem Br(a b:Nat):sliceRange (a:Int) (b:Int) 1=(List.range (b-a)).map fun(k:Nat)=>a+k:=by
 show(List.range (if(a:Int)<b then((b:Int)-a+1-1)/1 else 0).toNat).map (fun(k:Nat)=>((a:Int)+1*(k:Int)).toNat)=_;rw[Jz];exact lS fun k ø=>by rw[Int.one_mul];rfl
theorem Bs{α:Type}(l:List α)(a b:Nat):(sliceRange (a:Int) (b:Int) 1).filterMap (l[·]?)=(l.drop a).take (b-a):=by
 rw[Br,vi]
theorem Gh(a b:Nat):(sliceRange (a:Int) (b:Int) 1).length=b-a:=by
 rw[Br,List.length_map,eM]
theorem Ul(lo hi:Option Int)(n:Nat):sliceBounds lo hi none n=((clip lo 0 n:Int),(clip hi n n:Int),1):=by
 rw[clz,clz];cases lo<;>cases hi<;>rfl
theorem Um(lo hi:Option Int)(n:Nat):Builtin.Str.strSliceIndices lo hi 1 n=sliceRange (clip lo 0 n:Int) (clip hi n n:Int) 1:=by
 rw[clz,clz];cases lo<;>cases hi<;>rfl
theorem E4{α:Type}(l:List α)(lo hi:Option Int):pick l lo hi none=(l.drop (clip lo 0 l.length)).take (clip hi l.length l.length-clip lo 0 l.length):=by
 unfold pick;rw[Ul];exact Bs l _ _
theorem vj(l:List Nat)(lo hi:Option Int):Ao l lo hi=(l.drop (clip lo 0 l.length)).take (clip hi l.length l.length-clip lo 0 l.length):=by
 unfold Ao;rw[Um,Gh,Bs];refine ite_eq_right_iff.mpr fun h=>(((List.take_sublist _ _).trans (List.drop_sublist _ _)).eq_of_length ?_).symm
 have h1:clip hi l.length l.length<=l.length:=MH (bL _);have h2:=eq_of_beq h;rw[tO,nG];exact tL (az (Nat.min_le_right _ _) (Nat.sub_le _ _)) (Nat.le_min.mpr ⟨jj h2.symm,az (jj h2.symm) (Nat.sub_le_sub_right h1 _)⟩)
noncomputable def bp{σ α τ:Type}(step:σ->α->Sum σ τ):List α->σ->Sum σ τ
 |[],s=>.inl s
 |x::xs,s=>match step s x with
  | .inl s'=>bp step xs s'
  | .inr t=>.inr t
theorem vk{σ α τ:Type}(step:σ->α->Sum σ τ)(s:σ):bp step [] s= .inl s:=rfl
theorem fe{σ α τ:Type}(step:σ->α->Sum σ τ)(x:α)(xs:List α)(s:σ):bp step (x::xs) s=match step s x with
 | .inl s'=>bp step xs s'
 | .inr t=>.inr t:=rfl
theorem JA(a b:List Nat):Hh (.str a) (.str b)=some (!(a==b)):=rfl
theorem bU(a b:Int):np (.int a) (.int b)=some (decide (a=b)):=by
 unfold np;show(if(0:Nat)<=50 then some (PyData.eqv (.int a) (.int b))else none)=_;rw[aw (by decide)];have e:PyData.eqv (.int a) (.int b)=(a==b):=by simp[PyData.eqv]
 rw[e];rfl
theorem Du(a b:Int):Hh (.int a) (.int b)=some (!decide (a=b)):=by
 unfold Hh;rw[bU];rfl
theorem zi(a b:Int)(h: -(2^64)<b/\b<2^64):zZ (.int a) (.int b)=some (.int (a*b)):=by show Option.or (if _ then some _ else _) _=_;rw[aw h];rfl
theorem E5(a b:Int)(h:0<b/\b<1073741824):CP (.int a) (.int b)=some (.int (a % b)):=by show(if _ then some _ else _)=_;rw[aw h,Int.fmod_eq_emod_of_nonneg _ (Int.le_of_lt h.1)]
theorem E6(a b:Int)(h:0<b/\b<1073741824):Lv (.int a) (.int b)=some (.int (a/b)):=by show(if _ then some _ else _)=_;rw[aw h,Int.fdiv_eq_ediv_of_nonneg _ (Int.le_of_lt h.1)]
theorem ft(a b:List Nat)(h:a.length+b.length<=most):ua (.str a) (.str b)=some (.str (a++b)):=by show Option.or (if _ then _ else _) _=_;rw[aw h];rfl
theorem zj(a b:List V)(h:a.length+b.length<=most):ua (.list a) (.list b)=some (.list (a++b)):=by show(if _ then _ else _)=_;rw[aw h]
theorem ff(a b:List Nat)(h:a.length+b.length<=most):Av (.str a) (.str b)=some (.str (a++b)):=HS a b h
theorem mw(a:List Nat)(h:a.length<=most):un [.str a]=some (.int a.length):=yj rfl h
theorem nZ(a:List V)(h:a.length<=most):un [.list a]=some (.int a.length):=yj rfl h
theorem JB(a:List V)(h:a.length<=most):un [.tup a]=some (.int a.length):=yj rfl h
noncomputable def sl{α:Type}(l:List α)(s e:Nat):List α:=(l.drop s).take (e-s)
theorem Gi(l:List Nat)(a b:Nat)(ha:a<=l.length)(hb:b<=l.length)(h:l.length<=most):ku (.str l) (some (a:Int)) (some (b:Int)) none=some (.str (sl l a b)):=by
 rw[uk,aw h,vj,nY _ _ _ ha,nY _ _ _ hb];rfl
theorem Bt(l:List Nat)(a:Nat)(ha:a<=l.length)(h:l.length<=most):ku (.str l) (some (a:Int)) none none=some (.str (sl l a l.length)):=by
 rw[uk,aw h,vj,nY _ _ _ ha];rfl
theorem rR(l:List V)(x:V)(h:l.length<most):FH (.list l) [x]=some (.list (l++[x]),.none):=by rw[LB,aw h]
theorem pE(l:List V)(b:Nat)(h:l.length<=most):ku (.list l) none (some (b:Int)) none=some (.list (l.take b)):=by
 rw[Ap,aw ⟨h,nofun⟩,E4];show some (V.list (l.take (clip (some (b:Int)) l.length l.length)))=_;by_cases q:b<=l.length
 ·rw[nY _ _ _ q]
 ·rw[Bq _ (xT q),xN,qU (xT q)]
theorem zk(l:List V)(a:Nat)(h:l.length<=most):ku (.list l) (some (a:Int)) none none=some (.list (l.drop a)):=by
 rw[Ap,aw ⟨h,nofun⟩,E4];show some (V.list ((l.drop (clip (some (a:Int)) 0 l.length)).take (l.length-clip (some (a:Int)) 0 l.length)))=_;by_cases q:a<=l.length
 ·rw[nY _ _ _ q,qU (jj nG)]
 ·rw[Bq _ (xT q),List.drop_length,tD (xT q),List.take_nil]
theorem qr(l:List Int):V.Fz (l.map .int)=some (l.map .int):=by
 induction l with
 |nil=>rfl
 |cons y l ih=>simp only[bB,V.x8,V.CQ,V.wT,V.wU,V.wV,V.wW,V.wX,ih,lN]
theorem Dv(l:List Int):PyData.depthAll (l.map .int)<=1:=by
 induction l with
 |nil=>simp[PyData.depthAll]
 |cons y l ih=>simp only[bB,PyData.depthAll,PyData.depth];omega
theorem eA{α β:Type}(a:α)(f:α->Option β):(some a).bind f=f a:=by
 have h:∀o:Option α,o=some a->o.bind f=f a:=fun o e=>by subst e;rfl
 exact h _ rfl
theorem ap{f:ao->Option V}{g:ao->Option (List V)}{ρ:ao}{x:V}{xs:List V}(hf:f ρ=some x)(hg:g ρ=some xs):cW f g ρ=some (x::xs):=by
 unfold cW;rw[hf,hg,eA,eA]
theorem cj{ρ:ao}{i:Nat}{a:V}(h:ρ i=some a):upd ρ i a=ρ:=by
 funext j
 by_cases e:j=i
 ·subst e;rw[kY,h]
 ·rw[iE _ _ e]
@[elab_as_elim] theorem ex1 {C:ao->Prop} (ρ:ao) {i:Nat} {a:V} (h1:ρ i=some a) (f:∀σ,C (upd σ i a)):C ρ:=by
 have:=f ρ;rwa[cj h1]at this
@[elab_as_elim] theorem ex2 {C:ao->Prop} (ρ:ao) {i j:Nat} {a b:V} (h1:ρ i=some a) (h2:ρ j=some b) (f:∀σ,C (upd (upd σ i a) j b)):C ρ:=by
 have:=f ρ;rwa[cj h1,cj h2]at this
@[elab_as_elim] theorem ex4 {C:ao->Prop} (ρ:ao) {i j k l:Nat} {a b c d:V} (h1:ρ i=some a) (h2:ρ j=some b) (h3:ρ k=some c) (h4:ρ l=some d) (f:∀σ,C (upd (upd (upd (upd σ i a) j b) k c) l d)):C ρ:=by
 have:=f ρ;rwa[cj h1,cj h2,cj h3,cj h4]at this
@[elab_as_elim] theorem ex3 {C:ao->Prop} (ρ:ao) {i j k:Nat} {a b c:V} (h1:ρ i=some a) (h2:ρ j=some b) (h3:ρ k=some c) (f:∀σ,C (upd (upd (upd σ i a) j b) k c)):C ρ:=by
 have:=f ρ;rwa[cj h1,cj h2,cj h3]at this
theorem bY{F:List V->Option V}{f:ao->Option V}{ρ:ao}{x:V}{r}(hf:f ρ=some x)(hF:F [x]=r):jm F (cW f fun ø=>some []) ρ=r:=by
 unfold jm cW;rw[hf,eA,eA,eA];exact hF
theorem ni{α:Type}{c:Option Bool}{t e r:Option α}(hc:c=some true)(h:t=r):(c.bind fun z=>if z=true then t else e)=r:=by
 subst hc;exact h
theorem iq{α:Type}{c:Option Bool}{t e r:Option α}(hc:c=some false)(h:e=r):(c.bind fun z=>if z=true then t else e)=r:=by
 subst hc;exact h
theorem cf{f g:ao->Option (ao×Fl)}{ρ am:ao}{r}(h:f ρ=some (am,.next))(hg:g am=r):eY f g ρ=r:=by
 unfold eY;rw[h];exact hg
theorem Qu{f g:ao->Option (ao×Fl)}{ρ am:ao}{v}(h:f ρ=some (am,.ret v)):eY f g ρ=some (am,.ret v):=by
 unfold eY;rw[h];rfl
theorem RN{a b:Int}(h:a=b):Hh (.int a) (.int b)=some false:=by rw[Du,h];simp
theorem neT{a b:Int}(h:a≠b):Hh (.int a) (.int b)=some true:=by rw[Du];simp[h]
theorem aG{F:V->V->Option Bool}{f g:ao->Option V}{ρ:ao}{x y:V}{r}(hf:f ρ=some x)(hg:g ρ=some y)(hF:F x y=r):eU F f g ρ=r:=by
 unfold eU;rw[hf,hg,eA,eA];exact hF
theorem Of{F:V->List V->Option (V×V)}{i:Nat}{f:ao->Option V}{ρ:ao}{y x:V}{r}(hy:ρ i=some y)(hf:f ρ=some x)(hF:F y [x]=some r):oX F i (cW f fun ø=>some []) ρ=some (upd ρ i r.1,r.2):=by
 unfold oX cW;rw[hy,hf,eA,eA,eA,eA,hF];rfl
theorem cB{α β:Type}{o:Option α}{a:α}{f:α->β}{b:Option β}(h:o=some a)(hb:some (f a)=b):o.map f=b:=by subst h;exact hb
@[elab_as_elim] theorem ex5 {C:ao->Prop} (ρ:ao) {i j k l m:Nat} {a b c d e:V} (h1:ρ i=some a) (h2:ρ j=some b) (h3:ρ k=some c) (h4:ρ l=some d) (h5:ρ m=some e) (f:∀σ,C (upd (upd (upd (upd (upd σ i a) j b) k c) l d) m e)):C ρ:=by
 have:=f ρ;rwa[cj h1,cj h2,cj h3,cj h4,cj h5]at this
theorem cN{α β:Type}{o:Option α}{a:α}{f:α->Option β}{r}(h:o=some a)(hf:f a=r):o.bind f=r:=by subst h;exact hf
theorem bT{F:V->V->Option V}{f g:ao->Option V}{ρ:ao}{x y:V}{r}(hf:f ρ=some x)(hg:g ρ=some y)(hF:F x y=r):iW F f g ρ=r:=cN hf (cN hg hF)
theorem n0{f:ao->Option V}{a b c:ao->Option (Option Int)}{ρ:ao}{x p q s r}(hf:f ρ=some x)(ha:a ρ=some p)(hb:b ρ=some q)(hc:c ρ=some s)(h:ku x p q s=r):ul f a b c ρ=r:=cN hf (cN ha (cN hb (cN hc h)))
theorem md{f:ao->Option V}{ρ:ao}{a b:Int}(hf:f ρ=some (.int a))(h:decide (0<b/\b<1073741824)=true):iW CP f (fun ø=>some (.int b)) ρ=some (.int (a % b)):=bT hf rfl (E5 a b (cV h))
theorem dv{f:ao->Option V}{ρ:ao}{a b:Int}(hf:f ρ=some (.int a))(h:decide (0<b/\b<1073741824)=true):iW Lv f (fun ø=>some (.int b)) ρ=some (.int (a/b)):=bT hf rfl (E6 a b (cV h))
theorem ad{f g:ao->Option V}{ρ:ao}{a b:Int}(hf:f ρ=some (.int a))(hg:g ρ=some (.int b)):iW ua f g ρ=some (.int (a+b)):=bT hf hg rfl
theorem Bu{f g:ao->Option Bool}{ρ:ao}{a b:Bool}(hf:f ρ=some a)(hg:g ρ=some b):Rw f g ρ=some (a||b):=cN hf (by cases a;exact hg;rfl)
theorem gC{f g:ao->Option Bool}{ρ:ao}{a b:Bool}(hf:f ρ=some a)(hg:g ρ=some b):ou f g ρ=some (a&&b):=cN hf (by cases a;rfl;exact hg)
theorem n4{α β:Type}(f:α->β)(l:List α)(x:α):l.map f++[f x]=(l++[x]).map f:=(List.map_append (f:=f) (l₁:=l) (l₂:=[x])).symm
theorem JC{α:Type}{p:α->Prop}{l:List α}{x:α}(h:∀e∈l,p e)(hx:p x):∀e∈l++[x],p e:=List.forall_mem_append.mpr ⟨h,List.forall_mem_singleton.mpr hx⟩
theorem bF{f g:ao->Option V}{ρ:ao}{x y:V}{r}(hf:f ρ=some x)(hg:g ρ=some y)(h:iP x y=r):C5 f g ρ=r:=cN hf (cN hg h)
theorem JD{F:V->List V->Option V}{f:ao->Option V}{g:ao->Option (List V)}{ρ:ao}{y:V}{xs:List V}{r}(hf:f ρ=some y)(hg:g ρ=some xs)(h:F y xs=r):RC F f g ρ=r:=cN hf (cN hg h)
theorem bQ{F:List V->Option V}{f:ao->Option V}{g:ao->Option (List V)}{ρ:ao}{l xs:List V}{r}(hf:f ρ=some (.obj l))(hl:l.length=5)(hg:g ρ=some xs)(h:F (.obj l::xs)=r):Jn F f g ρ=r:=cN hf (cN (a:=l) rfl ((aw hl).trans (cN hg h)))
theorem Yz{n:Nat}(h:n<=8):n<most:=eV h (by decide)
inductive RO(I:ao->Prop)(E:ao×Fl->Prop):ao×Fl->Prop
 |nx {ρ:ao} (h:I ρ):RO I E (ρ,.next)
 |br {ρ:ao} (h:E (ρ,.next)):RO I E (ρ,.brk)
 |rt {ρ:ao} {v:V} (h:E (ρ,.ret v)):RO I E (ρ,.ret v)
theorem vl{α:Type}{asg:ao->V->Option ao}{body:ao->Option (ao×Fl)}(toV:α->V)(us:List α)(I:List α->ao->Prop)(E:ao×Fl->Prop)
  (step:∀l u l' ρ,l++u::l'=us->I l ρ->∃am,asg ρ (toV u)=some am/\∃r,body am=some r/\RO (I (l++[u])) E r) (done:∀ρ,I us ρ->E (ρ,.next)) {ρ:ao} (h0:I [] ρ):∃r,gz asg body (us.map toV) ρ=some r/\E r:=by
 have go:∀(l' l:List α) ρ,l++l'=us->I l ρ->∃r,gz asg body (l'.map toV) ρ=some r/\E r:=by
  intro l'
  induction l' with
  |nil=>exact fun l ρ e h=>⟨_,rfl,done ρ (by rw[<-e,ea];exact h)⟩
  |cons u l' ih=>
   intro l ρ e h;obtain⟨am,h1,r,h2,h3⟩:=step l u l' ρ e h;rw[bB,uf,h1,eA,h2,eA]
   cases h3 with
   |nx h=>exact ih (l++[u]) _ (by rw[List.append_assoc];exact e) h
   |br h=>exact⟨_,rfl,h⟩
   |rt h=>exact⟨_,rfl,h⟩
 exact go us [] ρ rfl h0
theorem qs{α:Type}{asg:ao->V->Option ao}{body:ao->Option (ao×Fl)}(toV:α->V)(us:List α)(I:List α->ao->Prop)
  (step:∀l u l' ρ,l++u::l'=us->I l ρ->∃am,asg ρ (toV u)=some am/\∃r,body am=some r/\r.2= .next/\I (l++[u]) r.1) {ρ:ao} (h0:I [] ρ):∃r,gz asg body (us.map toV) ρ=some r/\r.2= .next/\I us r.1:=
 vl toV us I _ (fun l u l' ρ e h=>by
  obtain⟨am,h1,⟨di,_⟩,h2,rfl,h3⟩:=step l u l' ρ e h;exact⟨am,h1,_,h2,.nx h3⟩) (fun ρ h=>⟨rfl,h⟩) h0
theorem lu{α:Type}{asg:ao->V->Option ao}{body:ao->Option (ao×Fl)}(toV:α->V)(us:List α)(I:List α->ao->Prop)
  (step:∀l u ρ,u∈us->l.length<us.length->I l ρ->∃am di,asg ρ (toV u)=some am/\body am=some (di,.next)/\I (l++[u]) di) {ρ:ao} (h0:I [] ρ):∃r,gz asg body (us.map toV) ρ=some r/\r.2= .next/\I us r.1:=
 qs toV us I (fun l u l' ρ e h=>by
  obtain⟨am,di,h1,h2,h3⟩:=step l u ρ (by rw[<-e];exact ck _ gJ) (by rw[<-e,aY];exact tP (g9 _)) h;exact⟨am,h1,_,h2,rfl,h3⟩) h0
inductive Wb(i j k l m:Nat)(a b c d e:V)(ρ:ao):Prop
 |mk (h1:ρ i=some a) (h2:ρ j=some b) (h3:ρ k=some c) (h4:ρ l=some d) (h5:ρ m=some e)
@[elab_as_elim] theorem Wb.ex {C:ao->Prop} {ρ:ao} {i j k l m:Nat} {a b c d e:V} (h:Wb i j k l m a b c d e ρ) (f:∀σ,C (upd (upd (upd (upd (upd σ i a) j b) k c) l d) m e)):C ρ:=ex5 ρ h.1 h.2 h.3 h.4 h.5 f
inductive Qv(i j k l:Nat)(a b c d:V)(ρ:ao):Prop
 |mk (h1:ρ i=some a) (h2:ρ j=some b) (h3:ρ k=some c) (h4:ρ l=some d)
@[elab_as_elim] theorem Qv.ex {C:ao->Prop} {ρ:ao} {i j k l:Nat} {a b c d:V} (h:Qv i j k l a b c d ρ) (f:∀σ,C (upd (upd (upd (upd σ i a) j b) k c) l d)):C ρ:=ex4 ρ h.1 h.2 h.3 h.4 f
inductive At6(i j k l m n:Nat)(a b c d e f:V)(ρ:ao):Prop
 |mk (h1:ρ i=some a) (h2:ρ j=some b) (h3:ρ k=some c) (h4:ρ l=some d) (h5:ρ m=some e) (h6:ρ n=some f)
@[elab_as_elim] theorem At6.ex {C:ao->Prop} {ρ:ao} {i j k l m n:Nat} {a b c d e g:V} (h:At6 i j k l m n a b c d e g ρ) (f:∀σ,C (upd (upd (upd (upd (upd (upd σ i a) j b) k c) l d) m e) n g)):C ρ:=by
 have:=f ρ;rwa[cj h.1,cj h.2,cj h.3,cj h.4,cj h.5,cj h.6]at this
inductive YA(i j k l m n o:Nat)(a b c d e f g:V)(ρ:ao):Prop
 |mk (h1:ρ i=some a) (h2:ρ j=some b) (h3:ρ k=some c) (h4:ρ l=some d) (h5:ρ m=some e) (h6:ρ n=some f) (h7:ρ o=some g)
@[elab_as_elim] theorem YA.ex {C:ao->Prop} {ρ:ao} {i j k l m n o:Nat} {a b c d e g h':V} (h:YA i j k l m n o a b c d e g h' ρ) (f:∀σ,C (upd (upd (upd (upd (upd (upd (upd σ i a) j b) k c) l d) m e) n g) o h')):C ρ:=by
 have:=f ρ;rwa[cj h.1,cj h.2,cj h.3,cj h.4,cj h.5,cj h.6,cj h.7]at this
theorem te{k n:Nat}(h:k<n):hV (k:Int) n=some k:=by
 unfold hV;rw[aw (mW k),aw (iN.mpr h)];rfl
theorem iu{xs:List V}{k:Nat}{b:V}(h:xs[k]?=some b)(hm:xs.length<=most):iP (.list xs) (.int k)=some b:=by
 rw[LQ,aw hm,te (gH.mp h).1,eA,h]
theorem MI{xs:List V}{k:Nat}{b:V}(h:xs[k]?=some b)(hm:xs.length<=most):iP (.tup xs) (.int k)=some b:=by
 rw[LR,aw hm,te (gH.mp h).1,eA,h]
theorem get_mem{α:Type}{l:List α}{k:Nat}(h:k<l.length):∃e,l[k]?=some e:=⟨_,iK h⟩
theorem JE{F:V->List V->Option (V×V)}{i:Nat}{g:ao->Option (List V)}{ρ:ao}{y:V}{xs:List V}{r}(hy:ρ i=some y)(hx:g ρ=some xs)(hF:F y xs=some r):oX F i g ρ=some (upd ρ i r.1,r.2):=cN hy (cN hx (cB hF rfl))
theorem int_at{xs:List Int}{i:Int}(h0:0<=i)(h1:i<xs.length)(hm:xs.length<=most):∃b∈xs,xs[i.toNat]?=some b/\iP (.list (xs.map .int)) (.int i)=some (.int b):=by
 obtain⟨k,rfl⟩:=qY h0;obtain⟨b,hb⟩:=get_mem (iN.mp h1);exact⟨b,kb hb,hb,iu (by rw[dh,hb];rfl) (by rw[List.length_map];exact hm)⟩
theorem mx{i:Nat}{f:ao->Option V}{g:ao->Option (ao×Fl)}{ρ:ao}{v:V}{r}(h:f ρ=some v)(hg:g (upd ρ i v)=r):eY (fun ρ=>Option.map (fun y=>(upd ρ i y,.next)) (f ρ)) g ρ=r:=cf (cB h rfl) hg
theorem Gj{F:V->List V->Option (V×V)}{i:Nat}{xf:ao->Option (List V)}{g:ao->Option (ao×Fl)}{ρ:ao}{y:V}{xs:List V}{y' z:V}{r}(hy:ρ i=some y)(hx:xf ρ=some xs)(hF:F y xs=some (y',z))(hg:g (upd ρ i y')=r):eY (fun ρ=>Option.map (fun r=>(r.1,.next)) (oX F i xf ρ)) g ρ=r:=cf (cB (JE hy hx hF) rfl) hg
theorem oC{F:V->V->Option V}{i:Nat}{f:ao->Option V}{g:ao->Option (ao×Fl)}{ρ:ao}{x y z:V}{r}(hx:ρ i=some x)(hf:f ρ=some y)(hF:F x y=some z)(hg:g (upd ρ i z)=r):eY (fun ρ=>(ρ i).bind fun a=>(f ρ).bind fun b=>Option.map (fun c=>(upd ρ i c,.next)) (F a b)) g ρ=r:=cf (cN hx (cN hf (cB hF rfl))) hg
theorem jf{σ α τ:Type}(step:σ->α->Sum σ τ):∀(l l':List α) (s:σ),bp step (l++l') s=match bp step l s with
  | .inl s'=>bp step l' s'
  | .inr t=>.inr t
 |[],l',s=>rfl
 |x::l,l',s=>by
  simp only[List.cons_append,vk,fe]
  cases step s x with
  |inl s'=>exact jf step l l' s'
  |inr t=>rfl
theorem bD{σ α τ:Type}{step:σ->α->Sum σ τ}{l:List α}{u:α}{s s':σ}{r}(h:bp step l s= .inl s')(hs:step s' u= .inl r):bp step (l++[u]) s= .inl r:=by
 rw[jf,h];show bp step [u] s'=_;rw[fe,hs];rfl
theorem jg{σ α τ:Type}{step:σ->α->Sum σ τ}{l l':List α}{u:α}{s s':σ}{r}(h:bp step l s= .inl s')(hs:step s' u= .inr r):bp step (l++u::l') s= .inr r:=by
 rw[jf,h];show bp step (u::l') s'=_;rw[fe,hs]
theorem JF{f g:ao->Option (ao×Fl)}{ρ am:ao}(h:f ρ=some (am,.brk)):eY f g ρ=some (am,.brk):=by
 unfold eY;rw[h];rfl
theorem Un{F:V->V->V->Option V}{i:Nat}{f g:ao->Option V}{k:ao->Option (ao×Fl)}{ρ:ao}{v y j y':V}{r}(hf:f ρ=some v)(hy:ρ i=some y)(hg:g ρ=some j)(hF:F y j v=some y')(hk:k (upd ρ i y')=r):
 eY (fun ρ=>(f ρ).bind fun v=>(ρ i).bind fun y=>(g ρ).bind fun j=>Option.map (fun y'=>(upd ρ i y',.next)) (F y j v)) k ρ=r:=cf (cN hf (cN hy (cN hg (cB hF rfl)))) hk
noncomputable def kC:Cx:={vars:=[(Oz,.local,false),(Wq,.local,false),(Zq,.local,false),(Zr,.local,true),(R5,.local,false),(OA,.local,false)],aV:=[s9,wj]}
noncomputable def dN{P:Pk}{n:Nat}{aT:Addr}(cC:P.glob s9=some (.ref aT))(cg:Bl P aT)(cA:P.glob wj=some (.builtin "len")):{f:ao->Option (ao×Fl)//ow P n kC (dW (aO pq.main.body 7)) f}:=⟨_,(@af _ _ _ _ _ _ _ (@aN _ _ _ _ _ _ _ _ _ _ (ay Lz (aC rfl) (ac (ab 0 rfl rfl rfl)) rfl) (@af _ _ _ _ _ _ _ (aW (ac (ab 0 rfl rfl rfl))) ai) ai) (@af _ _ _ _ _ _ _ (aI 1 rfl (by decide) ae cz) (@af _ _ _ _ _ _ _ (aI 2 rfl (by decide) lZ cz) (@af _ _ _ _ _ _ _ (fV 3 rfl (by decide) (fq ag (by decide) len0) cz) (@af _ _ _ _ _ _ _ (@pD _ _ _ (false) _ _ _ _ _ _ _ (@nW _ _ _ _ _ _ _ _ _ rfl cC rfl cg (aa (ac (ab 0 rfl rfl rfl)) ag ir) ir (ca _ _)) (@fo _ _ _ _ _ _ _ (bh (aB 4 rfl (by decide) (by decide)) (bh (aB 5 rfl (by decide) (by decide)) eH)) (bA (bA fm)) ir) (@af _ _ _ _ _ _ _ (@aN _ _ _ _ _ _ _ _ _ _ (ay fk (ac (ab 5 rfl rfl rfl)) (aC rfl) rfl) (@af _ _ _ _ _ _ _ (@aN _ _ _ _ _ _ _ _ _ _ (ay WN (ac (ab 2 rfl rfl rfl)) lZ rfl) (af (aI 2 rfl (by decide) (ab 4 rfl rfl rfl) cz) ai) (@af _ _ _ _ _ _ _ (@aN _ _ _ _ _ _ _ _ _ _ (ay wk (ac (ab 1 rfl rfl rfl)) (ac (ab 2 rfl rfl rfl)) rfl) (@af _ _ _ _ _ _ _ (@eG _ _ _ _ _ _ (@eF _ _ _ 3 _ _ _ _ _ _ _ _ _ rfl rfl rfl ue (@aa _ _ _ _ _ _ _ _ (@fb _ _ _ _ _ _ _ _ _ _ _ _ _ _ (ab 0 rfl rfl rfl) (e7 (ac (ab 1 rfl rfl rfl))) (e7 (ac (ab 2 rfl rfl rfl))) cF) ag ir) ir (by decide) rfl ir) jE ir) ai) ai) (@af _ _ _ _ _ _ _ (aI 1 rfl (by decide) (al cm (ab 4 rfl rfl rfl) ae) cz) (af (aI 2 rfl (by decide) lZ cz) ai)))) ai) ai) ai) cz) (@af _ _ _ _ _ _ _ (@aN _ _ _ _ _ _ _ _ _ _ (@ay _ _ _ _ _ _ _ _ _ _ OM (ac (ab 1 rfl rfl rfl)) (@aJ _ _ _ _ _ _ _ _ _ _ _ rfl cA rfl ju (aa (ac (ab 0 rfl rfl rfl)) ag ir) ir (ca _ _)) rfl) (@af _ _ _ _ _ _ _ (@eG _ _ _ _ _ _ (@eF _ _ _ 3 _ _ _ _ _ _ _ _ _ rfl rfl rfl ue (@aa _ _ _ _ _ _ _ _ (@fb _ _ _ _ _ _ _ _ _ _ _ _ _ _ (ab 0 rfl rfl rfl) (e7 (ac (ab 1 rfl rfl rfl))) cF cF) ag ir) ir (by decide) rfl ir) jE ir) ai) ai) (@af _ _ _ _ _ _ _ (@aW _ _ _ _ _ _ (ij (aC rfl) EJ (aa (dc 3 rfl rfl rfl) ag ir) ir (by decide) rfl ir)) ai)))))))⟩
noncomputable def oD:Cx:={vars:=[(Oz,.local,false),(⟨#[111,112,101,110,115]⟩,.local,false),(R5,.local,false),(OA,.local,false)],aV:=[Em,s9]}
noncomputable def fE{P:Pk}{n:Nat}{aS:Addr}{bS:List V->Option V}(dy:P.glob Em=some (.ref aS))(dz:∀h,P.G h->∃o fd,h.get? aS=some o/\o.data= .func fd)(dA:aZ P n (.ref aS) bS){aT:Addr}(cC:P.glob s9=some (.ref aT))(cg:Bl P aT):{f:ao->Option (ao×Fl)//ow P n oD (dW (aO pq.main.body 8)) f}:=⟨_,(@af _ _ _ _ _ _ _ (@aI _ _ _ 0 _ _ _ _ _ _ rfl (by decide) (bM rfl dy rfl dz dA (aa (ab 0 rfl rfl rfl) ag ir) ir (ca _ _)) cz) (@af _ _ _ _ _ _ _ (aI 1 rfl (by decide) ae cz) (@af _ _ _ _ _ _ _ (@pD _ _ _ (false) _ _ _ _ _ _ _ (@nW _ _ _ _ _ _ _ _ _ rfl cC rfl cg (aa (ac (ab 0 rfl rfl rfl)) ag ir) ir (ca _ _)) (@fo _ _ _ _ _ _ _ (bh (aB 2 rfl (by decide) (by decide)) (bh (aB 3 rfl (by decide) (by decide)) eH)) (bA (bA fm)) ir) (@af _ _ _ _ _ _ _ (@aN _ _ _ _ _ _ _ _ _ _ (ay fk (ac (ab 3 rfl rfl rfl)) (aC rfl) rfl) (af (cS 1 rfl (by decide) rfl rfl gR ae) ai) (@af _ _ _ _ _ _ _ (@aN _ _ _ _ _ _ _ _ _ _ (ay fk (ac (ab 3 rfl rfl rfl)) (aC rfl) rfl) (@af _ _ _ _ _ _ _ (cS 1 rfl (by decide) rfl rfl O1 ae) (@af _ _ _ _ _ _ _ (@aN _ _ _ _ _ _ _ _ _ _ (ay OM (ac (ab 1 rfl rfl rfl)) ae rfl) (af (aW eX) ai) ai) ai)) ai) ai)) ai) cz) (@af _ _ _ _ _ _ _ (@aW _ _ _ _ _ _ (i9 fk (ac (ab 1 rfl rfl rfl)) ae rfl)) ai))))⟩
noncomputable def zl(p:Nat):List (List Nat)->List (Nat×List Nat)
 |[]=>[]
 |u::us=>(p+u.length-1,u)::zl (p+u.length) us
theorem E7(p:Nat):zl p []=[]:=rfl
theorem zm(p:Nat)(u:List Nat)(us:List (List Nat)):zl p (u::us)=(p+u.length-1,u)::zl (p+u.length) us:=rfl
noncomputable def wy(u:List Nat):Bool:=match u with
 |[c]=>c != 92
 |[c,_]=>c==92
 |_=>false
noncomputable def nj:List (List Nat)->Bool
 |[]=>true
 |[u]=>wy u||u==[92]
 |u::us=>wy u&&nj us
theorem tg:nj []=true:=rfl
theorem th(u:List Nat):nj [u]=(wy u||u==[92]):=rfl
theorem ti(u v:List Nat)(us:List (List Nat)):nj (u::v::us)=(wy u&&nj (v::us)):=rfl
theorem Bv{u:List Nat}(h:wy u=true)(p:Nat)(l:List Nat):gS p false (u++l)=(p+u.length-1,u)::gS (p+u.length) false l:=by
 cases u with
 |nil=>cases h
 |cons c u=>cases u with
  |nil=>
   have h:¬c=92:=fun e=>by rw[e]at h;cases h
   exact au h
  |cons d u=>cases u with
   |nil=>
    obtain rfl:=eq_of_beq h;rfl
   |cons=>cases h
theorem xq:∀(us:List (List Nat)) (p:Nat),nj us=true->gS p false us.flatten=zl p us
 |[],p,_=>rfl
 |[u],p,h=>by
  simp only[tg,th,ti,lG,jR]at h;rcases h with h|rfl
  ·have:=Bv h p []
   simpa[E7,zm,zb,EU,zc,td]using this
  ·simp[E7,zm,zb,EU,zc,td]
 |u::v::us,p,h=>by
  simp only[tg,th,ti,bX]at h;rw[eQ,Bv h.1,xq (v::us) _ h.2];rfl
noncomputable def cx(st:List (List Nat)×Option (List (List Nat)))(u:List Nat):List (List Nat)×Option (List (List Nat)):=match st.2 with
 |none=>if u=[34]then(st.1,some [u])else(st.1++[u],none)
 |some q=>if u=[34]then(st.1,none)else(st.1,some (q++[u]))
noncomputable def fG(us:List (List Nat)):List (List Nat):=(us.foldl cx ([],none)).1++(us.foldl cx ([],none)).2.getD []
theorem qt(us:List (List Nat)):(fG us).flatten.length<=us.flatten.length:=by
 have go:∀(us:List (List Nat)) (st:List (List Nat)×Option (List (List Nat))),(us.foldl cx st).1.flatten.length+((us.foldl cx st).2.getD []).flatten.length<=st.1.flatten.length+(st.2.getD []).flatten.length+us.flatten.length:=by
  intro us
  induction us with
  |nil=>intro st;simp
  |cons u us ih=>
   intro st;rw[dg];refine az (ih _) ?_;obtain⟨k,q⟩:=st;have:(cx (k,q) u).1.flatten.length+((cx (k,q) u).2.getD []).flatten.length<=k.flatten.length+(q.getD []).flatten.length+u.length:=by
    cases q<;>simp only[cx]<;>split<;>simp[bR]<;>omega
   simp only[eQ,aY];omega
 have:=go us ([],none);unfold fG;simpa[bR]using this
noncomputable def Ends(f:ao->Option (ao×Fl))(ρ:ao)(v:V):Prop:=∃aQ,f ρ=some (aQ,.ret v)
theorem bw{f g ρ am v}(h:f ρ=some (am,.next))(hg:Ends g am v):Ends (eY f g) ρ v:=by
 obtain⟨aQ,e⟩:=hg;exact⟨aQ,cN h e⟩
theorem dO{f g ρ v}(h:Ends f ρ v):Ends (eY f g) ρ v:=by
 obtain⟨aQ,e⟩:=h;exact⟨aQ,cN e rfl⟩
theorem eB{f g ρ v}(R:ao->Prop)(h:∃r,f ρ=some r/\r.2= .next/\R r.1)(hg:∀am,R am->Ends g am v):Ends (eY f g) ρ v:=by
 obtain⟨⟨am,fl⟩,e,rfl,q⟩:=h;exact bw e (hg _ q)
theorem vm{f g ρ v}(h:∃r,f ρ=some r/\(r.2= .ret v\/(r.2= .next/\Ends g r.1 v))):Ends (eY f g) ρ v:=by
 obtain⟨⟨am,fl⟩,e,h⟩:=h;dsimp only at h;rcases h with rfl|⟨rfl,h⟩
 ·exact dO ⟨_,e⟩
 ·exact bw e h
theorem eT{it asg bf}{ρ:ao}{xs:List V}{Q:ao×Fl->Prop}(hi:it ρ=some xs)(h:∃r,gz asg bf xs ρ=some r/\Q r):∃r,LE it asg bf ρ=some r/\Q r:=by
 obtain⟨r,e,q⟩:=h;exact⟨r,by simp[LE,hi,e],q⟩
noncomputable def rS(f:ao->Option (ao×Fl))(ρ:ao)(Q:V->Prop):Prop:=∃v,Q v/\Ends f ρ v
theorem jF{f g ρ am Q}(h:f ρ=some (am,.next))(hg:rS g am Q):rS (eY f g) ρ Q:=let⟨v,q,e⟩:=hg;⟨v,q,bw h e⟩
theorem Dw{f g ρ Q}(h:rS f ρ Q):rS (eY f g) ρ Q:=let⟨v,q,e⟩:=h;⟨v,q,dO e⟩
theorem sx{f g ρ Q}(R:ao->Prop)(h:∃r,f ρ=some r/\r.2= .next/\R r.1)(hg:∀am,R am->rS g am Q):rS (eY f g) ρ Q:=by
 obtain⟨⟨am,fl⟩,e,rfl,q⟩:=h;exact jF e (hg _ q)
theorem jG{i:Nat}{f:ao->Option V}{g ρ Q}{v:V}(h:f ρ=some v)(hg:rS g (upd ρ i v) Q):rS (eY (fun ρ=>Option.map (fun y=>(upd ρ i y,.next)) (f ρ)) g) ρ Q:=jF (cB h rfl) hg
theorem rT{f:ao->Option V}{g ρ}{Q:V->Prop}{v:V}(h:f ρ=some v)(q:Q v):rS (eY (fun ρ=>Option.map (fun x=>(ρ,.ret x)) (f ρ)) g) ρ Q:=Dw ⟨v,q,ρ,cB h rfl⟩
theorem dk{i:Nat}{f:ao->Option V}{g ρ v}{x:V}(h:f ρ=some x)(hg:Ends g (upd ρ i x) v):Ends (eY (fun ρ=>Option.map (fun y=>(upd ρ i y,.next)) (f ρ)) g) ρ v:=bw (cB h rfl) hg
theorem df{f:ao->Option V}{g ρ}{v:V}(h:f ρ=some v):Ends (eY (fun ρ=>Option.map (fun x=>(ρ,.ret x)) (f ρ)) g) ρ v:=dO ⟨ρ,cB h rfl⟩
theorem rU:∀ts:List (List Nat),oZ [] ts=ts.flatten
 |[]=>rfl
 |[x]=>by simp[AA,AB,AC]
 |x::y::r=>by simp[AA,AB,AC,rU (y::r)]
theorem rV:∀ts:List (List Nat),oY (ts.map .str)=some ts
 |[]=>rfl
 |x::r=>by simp[HY,H0,rV r]
theorem joinOk_of(sep:List Nat)(ts:List (List Nat))(h:ts.flatten.length+ts.length*sep.length<=1000000):JoinOk (pyStr sep) (ts.map pyStr)=true:=by
 unfold JoinOk;have e:∀(l:List (List Nat)) (k:Nat),(l.map pyStr).foldl (fun(n:Nat) (x:Str)=>n+x.length+(pyStr sep).length) k=k+(l.flatten.length+l.length*sep.length):=by
  intro l
  induction l with
  |nil=>intro k;simp
  |cons x l ih=>
   intro k;simp only[bB,dg,ih,eQ,aY,cr];have e1:(pyStr x).length=x.length:=by simp[pyStr,Str.length]
   have e2:(pyStr sep).length=sep.length:=by simp[pyStr,Str.length]
   rw[e1,e2,Nat.add_one_mul];omega
 have e3:Builtin.Str.tooLong ((ts.map pyStr).toArray.foldl (fun n x=>n+x.length+(pyStr sep).length) 0)=false:=by
  rw[List.foldl_toArray];rw[e];unfold Builtin.Str.tooLong;rw[jQ];simp only[tu,g8,gt_iff_lt];omega
 rw[e3];rfl
theorem Dx(l:List Nat){s e f:Nat}(h1:s<=e)(h2:e<=f):sl l s e++sl l e f=sl l s f:=by
 unfold sl;have:f-s=(e-s)+(f-e):=(Nat.sub_add_sub_cancel h2 h1).symm.trans (qZ _ _);rw[this,List.take_add,List.drop_drop];rw[re h1]
theorem zn(l:List Nat)(s:Nat):sl l s s=[]:=by simp[sl]
theorem MJ{l l' us:List (List Nat)}{u:List Nat}(h:l++u::l'=us):sl us.flatten l.flatten.length (l.flatten.length+u.length)=u/\l.flatten.length+u.length<=us.flatten.length:=by
 rw[<-h,bR,eQ];unfold sl;rw[List.drop_left,Nat.add_sub_cancel_left,List.take_left,aY,aY];exact⟨rfl,by omega⟩
theorem vn:∀(us:List (List Nat)) (k:List (List Nat)),(∀u∈us,u≠[34])->us.foldl cx (k,none)=(k++us,none)
 |[],k,_=>by simp
 |u::us,k,h=>by
  rw[dg];have:cx (k,none) u=(k++[u],none):=by simp[cx,h u gJ]
  rw[this,vn us _ fun v hv=>h v (ge _ hv)];simp
inductive JG(us:List (List Nat))(n p:Nat)(ρ:ao):List (List Nat)×Option (List (List Nat))->Prop
 |no {k} (s:Nat) (res:List (List Nat)) (h0:ρ 0=some (.str us.flatten)) (h1:ρ 1=some (.int s)) (h2:ρ 2=some .none) (h3:ρ 3=some (.list (res.map .str))) (hl:res.length<=n) (hs:s<=p) (hk:res.flatten++sl us.flatten s p=k.flatten):JG us n p ρ (k,none)
 |op {k q} (s o:Nat) (res:List (List Nat)) (h0:ρ 0=some (.str us.flatten)) (h1:ρ 1=some (.int s)) (h2:ρ 2=some (.int o)) (h3:ρ 3=some (.list (res.map .str))) (hl:res.length<=n) (hs:s<=o) (ho:o<p) (hk:res.flatten++sl us.flatten s o=k.flatten) (hq:sl us.flatten o p=q.flatten):JG us n p ρ (k,some q)
theorem JG.last{us:List (List Nat)}{n:Nat}{ρ:ao}{st}{C:Prop}(h:JG us n us.flatten.length ρ st)(k:∀(s:Nat) (res:List (List Nat)),ρ 0=some (.str us.flatten)->ρ 1=some (.int s)->ρ 3=some (.list (res.map .str))->res.length<=n->s<=us.flatten.length->res.flatten++sl us.flatten s us.flatten.length=(st.1++st.2.getD []).flatten->C):C:=by
 cases h with
 |no s res h0 h1 h2 h3 hl hs hk=>exact k s res h0 h1 h3 hl hs (hk.trans (by rw[Option.getD_none,ea]))
 |op s o res h0 h1 h2 h3 hl hs ho hk hq=>exact k s res h0 h1 h3 hl (az hs (dU ho)) (by rw[<-Dx us.flatten hs (dU ho),<-List.append_assoc,hk,hq,tQ,bR])
theorem Qw{us:List (List Nat)}{res:List (List Nat)}{s e:Nat}{k:List (List Nat)}(hk:res.flatten++sl us.flatten s e=k.flatten):(res++[sl us.flatten s e]).flatten=k.flatten:=by
 rw[bR,gK,hk]
theorem JH{us:List (List Nat)}{r:List Nat}{e:Nat}{k:List Nat}(hk:r=k):r++sl us.flatten e e=k:=by rw[zn,ea,hk]
theorem Bw{us res:List (List Nat)}(h:res.flatten=(fG us).flatten)(hl:us.flatten.length<=10000){ρ:ao}(h3:ρ 3=some (.list (res.map .str))):RC EH (fun ø=>some (.str [])) (cW (fun ρ=>ρ 3) fun ø=>some []) ρ=some (.str (fG us).flatten):=by
 have hf:res.flatten.length<=1000000:=by rw[h];exact az (qt us) (az hl (by decide))
 unfold RC cW;dsimp only;rw[h3,eA,eA,eA,eA,EI,rV,eA,aw (joinOk_of [] res (by simpa using hf)),rU,h]
theorem JI{res:List (List Nat)}{n:Nat}(x:V)(h:res.length<=n)(hn:n<=10000):FH (.list (res.map .str)) [x]=some (.list (res.map .str++[x]),.none):=rR _ _ (by rw[List.length_map];exact eV h (eV hn (by decide)))
theorem Dy{us:List (List Nat)}{f:ao->Option V}{ρ:ao}(h0:f ρ=some (.str us.flatten))(hm:us.flatten.length<=most)(h:nj us=true):((cW f fun ø=>some []) ρ).bind Qk=some ((zl 0 us).map m6):=
 cN (ap h0 rfl) (by rw[Ql,aw hm,xq us 0 h])
theorem sy{asg:ao->V->Option ao}{body:ao->Option (ao×Fl)}(ws:List (List Nat))(I:List (List Nat)->ao->Prop)(E:ao×Fl->Prop)
  (step:∀l u l' ρ,l++u::l'=ws->I l ρ->∃am,asg ρ (m6 (l.flatten.length+u.length-1,u))=some am/\∃r,body am=some r/\RO (I (l++[u])) E r) (done:∀ρ,I ws ρ->E (ρ,.next)) {ρ:ao} (h0:I [] ρ):∃r,gz asg body ((zl 0 ws).map m6) ρ=some r/\E r:=by
 have go:∀(l' l:List (List Nat)) ρ,l++l'=ws->I l ρ->∃r,gz asg body ((zl l.flatten.length l').map m6) ρ=some r/\E r:=by
  intro l'
  induction l' with
  |nil=>exact fun l ρ e h=>⟨_,rfl,done ρ (by rw[<-e,ea];exact h)⟩
  |cons u l' ih=>
   intro l ρ e h;obtain⟨am,h1,r,h2,h3⟩:=step l u l' ρ e h;rw[zm,bB,uf,h1,eA,h2,eA]
   cases h3 with
   |nx h=>
    have:=ih (l++[u]) _ (by rw[List.append_assoc];exact e) h;rwa[bR,gK,aY]at this
   |br h=>exact⟨_,rfl,h⟩
   |rt h=>exact⟨_,rfl,h⟩
 exact go ws [] ρ rfl h0
theorem vo{asg:ao->V->Option ao}{body:ao->Option (ao×Fl)}(ws:List (List Nat))(I:List (List Nat)->ao->Prop)
  (step:∀l u l' ρ,l++u::l'=ws->I l ρ->∃am di,asg ρ (m6 (l.flatten.length+u.length-1,u))=some am/\body am=some (di,.next)/\I (l++[u]) di) {ρ:ao} (h0:I [] ρ):∃r,gz asg body ((zl 0 ws).map m6) ρ=some r/\r.2= .next/\I ws r.1:=
 sy ws I _ (fun l u l' ρ e h=>by
  obtain⟨am,di,h1,h2,h3⟩:=step l u l' ρ e h;exact⟨am,h1,_,h2,.nx h3⟩) (fun ρ h=>⟨rfl,h⟩) h0
theorem E8(l:List (List Nat))(u:List Nat):(l++[u]).flatten=l.flatten++u:=by rw[bR,gK]
theorem Gl{P:Pk}{n:Nat}{a:Addr}{g gen gl}{us:List (List Nat)}(h:nj us=true)(hl:us.flatten.length<=10000)(hn:us.length<=10000){ρ:ao}(h0:ρ 0=some (.str us.flatten)):
  Ends (dN (P:=P) (n:=n) (aT:=a) g gen gl).1 ρ (.str (fG us).flatten):=by
 have hm:us.flatten.length<=most:=az hl (by decide);unfold dN;by_cases hq:34∈us.flatten
 case neg=>
  refine dO ⟨ρ,ni (aG rfl h0 (congrArg (fun b=>some !b) (db hq))) ?_⟩;have e:fG us=us:=by
   unfold fG;rw[vn us [] fun u hu z=>hq (List.mem_flatten.mpr ⟨u,hu,by rw[z];exact List.mem_singleton_self _⟩)];exact ea _
  rw[e];dsimp only[eY];rw[h0];rfl
 refine bw (am:=ρ) (iq (aG rfl h0 (congrArg (fun b=>some !b) (bo hq))) rfl) (bw rfl (bw rfl (bw rfl ?_)));refine eB (fun ρ=>JG us us.length us.flatten.length ρ (us.foldl cx ([],none))) (eT (Dy h0 hm h) (vo us (fun l ρ=>JG us l.length l.flatten.length ρ (l.foldl cx ([],none))) (fun l u l' ρ hx hR=>?_) (.no 0 [] h0 rfl rfl rfl (bL _) (bL _) rfl))) fun am hR=>?_
 ·obtain⟨YB,Af⟩:=MJ hx
  have ew:l.length<us.length:=by rw[<-hx,aY];exact tP (g9 _)
  rw[E8,aY,aY,dF,dg,mX];generalize l.foldl cx ([],none)=st at*;generalize l.flatten.length=p at*;generalize l.length=i at*;by_cases MK:u=[34]
  ·subst MK
   cases hR with
   |no s res h0 h1 h2 h3 hl hs hk=>exact ex4 ρ h0 h1 h2 h3 fun σ=>⟨_,_,rfl,rfl,JG.op s p res rfl rfl rfl rfl (dZ hl) hs (mT p) hk (YB.trans rfl)⟩
   |op s o res h0 h1 h2 h3 hl hs ho hk hq=>
    by_cases hz:s=o
    ·subst hz
     exact ex4 ρ h0 h1 h2 h3 fun σ=>⟨_,_,rfl,cf (ni rfl (cf (iq rfl (cf (iq (aG rfl rfl (RN rfl)) rfl) rfl)) rfl)) rfl,JG.no (p+1) res rfl rfl rfl rfl (dZ hl) (bL _) (JH (by rw[<-hk,zn,ea]))⟩
    ·exact ex4 ρ h0 h1 h2 h3 fun σ=>⟨_,_,rfl,cf (ni rfl (cf (iq rfl (cf (ni (aG rfl rfl (neT fun e=>hz (Int.ofNat.inj e))) (cf (cB (Of rfl (Gi us.flatten s o (by omega) (by omega) hm) (JI _ hl (by omega))) rfl) rfl)) rfl)) rfl)) rfl,JG.no (p+1) (res++[sl us.flatten s o]) rfl rfl rfl (by rw[List.map_append];rfl) (by rw[aY];exact eW hl) (bL _) (JH (Qw hk))⟩
  ·have hb:(u==[34])=false:=kQ.mpr MK
   cases hR with
   |no s res h0 h1 h2 h3 hl hs hk=>
    have e:cx (k,none) u=(k++[u],none):=au MK;rw[e];exact ex4 ρ h0 h1 h2 h3 fun σ=>⟨_,_,rfl,cf (iq (congrArg some hb) rfl) rfl,JG.no s res rfl rfl rfl rfl (dZ hl) (by omega) (by rw[<-Dx us.flatten hs (fB p u.length),YB,<-List.append_assoc,hk,bR,gK])⟩
   |op s o res h0 h1 h2 h3 hl hs ho hk hq=>
    have e:cx (k,some q) u=(k,some (q++[u])):=au MK;rw[e];exact ex4 ρ h0 h1 h2 h3 fun σ=>⟨_,_,rfl,cf (iq (congrArg some hb) rfl) rfl,JG.op s o res rfl rfl rfl rfl (dZ hl) hs (by omega) hk (by rw[<-Dx us.flatten (dU ho) (fB p u.length),YB,hq,bR,gK])⟩
 ·exact hR.last fun s res h0 h1 h3 hr hs hk=>ex3 am h0 h1 h3 fun σ=>by
   by_cases ew:s<us.flatten.length
   ·exact bw (ni (aG rfl (bY rfl (mw _ hm)) (congrArg some (bo (iN.mpr ew)))) (cf (cB (Of rfl (Bt us.flatten s hs hm) (JI _ hr hn)) rfl) rfl)) (dO ⟨_,cB (Bw (res:=res++[sl us.flatten s us.flatten.length]) (by rw[bR,gK,hk];rfl) hl (by rw[List.map_append];rfl)) rfl⟩)
   ·obtain rfl:s=us.flatten.length:=tL hs (tA ew)
    rw[zn,ea]at hk;exact bw (iq (aG rfl (bY rfl (mw _ hm)) (congrArg some (db fun e=>ew (iN.mp e)))) rfl) (dO ⟨_,cB (Bw (res:=res) (hk.trans rfl) hl rfl) rfl⟩)
noncomputable def n5(d:Nat)(u:List Nat):Sum Nat Unit:=if u=[40]then .inl (d+1)else if u=[41]then(if d=0 then .inr ()else .inl (d-1))else .inl d
noncomputable def pF(us:List (List Nat)):Bool:=match bp n5 us 0 with
 | .inl d=>d==0
 | .inr _=>false
theorem Gm{P:Pk}{n:Nat}{a a':Addr}{F g h c g' gen}{us ws:List (List Nat)}{t:List Nat}(hF:F [.str t]=some (.str ws.flatten))(hs:nj ws=true)(hl:ws.flatten.length<=10000){ρ:ao}(h0:ρ 0=some (.str t)):
  Ends (fE (P:=P) (n:=n) (aS:=a) (bS:=F) (aT:=a') g h c g' gen).1 ρ (.bool (pF ws)):=by
 have hm:ws.flatten.length<=most:=az hl (by decide);unfold fE;refine dk (bY h0 hF) (bw rfl (vm (eT (Dy rfl hm hs) (sy ws (fun l ρ=>∃d:Nat,ρ 1=some (.int d)/\bp n5 l 0= .inl d) _ (fun l u l' ρ hx hR=>?_) (fun ρ hR=>.inr ⟨rfl,?_⟩) ⟨0,rfl,rfl⟩))))
 ·obtain⟨d,hd,hf⟩:=hR
  by_cases e1:u=[40]
  ·subst e1
   exact ex1 ρ hd fun σ=>⟨_,rfl,_,rfl,.nx ⟨d+1,rfl,bD hf rfl⟩⟩
  ·have c1:(u==[40])=false:=kQ.mpr e1
   by_cases e2:u=[41]
   ·subst e2
    cases d with
    |zero=>
     have e:pF ws=false:=by unfold pF;rw[<-hx,jg hf rfl]
     exact ex1 ρ hd fun σ=>⟨_,rfl,_,rfl,.rt (.inl (by rw[e]))⟩
    |succ k=>exact ex1 ρ hd fun σ=>⟨_,rfl,_,cf (iq rfl (cf (ni rfl (cf rfl (cf (iq (congrArg some (db (by omega))) rfl) rfl))) rfl)) rfl,.nx ⟨k,congrArg (fun z=>some (V.int z)) (by omega),bD hf rfl⟩⟩
   ·have c2:(u==[41])=false:=kQ.mpr e2
    exact ex1 ρ hd fun σ=>⟨_,rfl,_,cf (iq (congrArg some c1) (cf (iq (congrArg some c2) rfl) rfl)) rfl,.nx ⟨d,rfl,bD hf ((au e1).trans (au e2))⟩⟩
 ·obtain⟨d,hd,hf⟩:=hR
  have e:pF ws=(d==0):=by unfold pF;rw[hf]
  rw[e];exact df (cB (aG hd rfl (bU _ _)) (by cases d<;>rfl))
noncomputable def xr:Cx:={vars:=[(Vl,.local,false),(⟨#[120]⟩,.local,false),(⟨#[110,117,109,98,101,114,115]⟩,.local,false),(Le,.local,true),(Zw,.local,false),(⟨#[100,101,112,116,104]⟩,.local,false),(R7,.local,false)],aV:=[wj,wd]}
noncomputable def zo:Cx:={vars:=[(⟨#[107]⟩,.local,false)],aV:=[]}
noncomputable def zp:Cx:={vars:=[(⟨#[120]⟩,.local,false)],aV:=[]}
noncomputable def rW{P:Pk}{n:Nat}(cA:P.glob wj=some (.builtin "len"))(aX:P.glob wd=some (.type "range")):{f:ao->Option (ao×Fl)//ow P n xr (dW (aO pq.main.body 61)) f}:=⟨_,(@af _ _ _ _ _ _ _ (@gP _ _ _ (zp) 2 _ _ _ _ _ _ _ _ _ _ _ _ _ _ (1) ([]) rfl (@dH _ _ _ _ _ (fb (ab 0 rfl rfl rfl) cF (e7 ae) cF)) (cu (by decide+kernel)) (aB 0 rfl (by decide) (by decide)) e6 (al jo (ab 0 rfl rfl rfl) (al NB ae ae)) cz rfl rfl) (@af _ _ _ _ _ _ _ (@aI _ _ _ 2 _ _ _ _ _ _ rfl (by decide) (@al _ _ _ _ _ _ _ _ _ _ _ cm (ab 2 rfl rfl rfl) (@fb _ _ _ _ _ _ _ _ _ _ _ _ _ _ (@cQ _ _ _ _ _ _ _ (@aa _ _ _ _ _ _ _ _ ae (@aa _ _ _ _ _ _ _ _ ae (@aa _ _ _ _ _ _ _ _ ae (@aa _ _ _ _ _ _ _ _ ae (@aa _ _ _ _ _ _ _ _ ae (aa ae (aa ae ag ir) ir) ir) ir) ir) ir) ir) (by decide) (@ah _ _ _ (@ah _ _ _ (@ah _ _ _ (@ah _ _ _ (ah (ah (ah len0)))))))) (@e7 _ _ _ _ _ (@aJ _ _ _ _ _ _ _ _ _ _ _ rfl cA rfl ju (aa (ac (ab 2 rfl rfl rfl)) ag ir) ir (ca _ _))) cF cF)) cz) (@af _ _ _ _ _ _ _ (@gQ _ _ _ ([(3,Le,.local,true),(4,Zw,.local,false),(5,⟨#[100,101,112,116,104]⟩,.local,false)]) ([_,_,_]) _ _ _ _ _ _ _ ⟨by decide+kernel,by decide+kernel⟩ rfl (@fX.new _ _ _ _ _ _ _ _ (fq ag (by decide) len0) (fX.dat ae (fX.dat ae fX.nil ir) ir) ir) (by decide) (ah (ah (ah len0))) kt.len ir (Ob (K:=xr) (i:=3) (j:=4) (l:=5) rfl rfl rfl rfl rfl (by decide+kernel) rfl rfl rfl rfl)) (@af _ _ _ _ _ _ _ (@dB _ _ _ (false) _ _ _ _ _ _ _ (dH (ab 2 rfl rfl rfl)) (aB 1 rfl (by decide) (by decide)) (@af _ _ _ _ _ _ _ (aI 6 rfl (by decide) (al jo (ab 1 rfl rfl rfl) ae) cz) (@af _ _ _ _ _ _ _ (@aN _ _ _ _ _ _ _ _ _ _ (ay fk (ac (ab 4 rfl rfl rfl)) ae rfl) (af (aI 6 rfl (by decide) ae cz) ai) (@af _ _ _ _ _ _ _ (@aN _ _ _ _ _ _ _ _ _ _ (@sh.or _ _ _ _ _ _ _ _ (@gk _ _ _ _ _ _ _ _ (ay fk (ac (ab 6 rfl rfl rfl)) ae rfl) (ay fk (ac (ab 4 rfl rfl rfl)) ae rfl)) (@gk _ _ _ _ _ _ _ _ (ay fk (ac (ab 6 rfl rfl rfl)) ae rfl) (ay fk (ac (ab 5 rfl rfl rfl)) ae rfl))) (af (aI 6 rfl (by decide) ae cz) ai) ai) ai)) (@af _ _ _ _ _ _ _ (@cS _ _ _ 4 _ _ _ _ _ _ _ _ rfl (by decide) rfl rfl gR (@jb _ _ _ _ _ _ _ _ _ _ _ (ay fk (ac (ab 6 rfl rfl rfl)) ae rfl) ae ae)) (@af _ _ _ _ _ _ _ (cS 5 rfl (by decide) rfl rfl gR (al Er ae (ab 6 rfl rfl rfl))) (@af _ _ _ _ _ _ _ (@eG _ _ _ _ _ _ (@eF _ _ _ 3 _ _ _ _ _ _ _ _ _ rfl rfl rfl ue (@aa _ _ _ _ _ _ _ _ (@de _ _ _ _ _ _ _ _ (@aa _ _ _ _ _ _ _ _ (ab 6 rfl rfl rfl) (@aa _ _ _ _ _ _ _ _ (al jo (al nK (ab 1 rfl rfl rfl) ae) ae) (aa (al nK (ab 1 rfl rfl rfl) ae) ag ir) ir) ir) (by decide) (ah (ah (ah len0)))) ag ir) ir (by decide) rfl ir) jE ir) ai))))) cz) (@af _ _ _ _ _ _ _ (@aW _ _ _ _ _ _ (@al _ _ _ _ _ _ _ _ _ _ _ cm (dc 3 rfl rfl rfl) (@ac _ _ _ _ _ (@fQ _ _ _ _ _ _ (@fW _ _ _ (zo) _ _ _ _ _ _ _ _ _ _ (1) ([]) (cL rfl aX (aa (ab 5 rfl rfl rfl) ag ir) ir (ca _ _)) (cu (by decide+kernel)) (aB 0 rfl (by decide) (by decide)) e6 (@de _ _ _ _ _ _ _ _ (@aa _ _ _ _ _ _ _ _ ae (aa ae (aa (ab 0 rfl rfl rfl) ag ir) ir) ir) (by decide) (ah (ah (ah len0)))) cz))))) ai)))))⟩
noncomputable abbrev Item:=Nat×Nat×Int
noncomputable abbrev Hl(e:Item):V:=.tup [.int e.1,.int e.2.1,.int e.2.2]
noncomputable def Dz(e:Item):Prop:=e.1<3/\e.2.1<3/\0<=e.2.2/\e.2.2<=1111111
noncomputable def eh(d a:Nat):Sum Nat Unit:=if a=0 then .inl (d+1)else if a=1 then .inl d else if d=0 then .inr ()else .inl (d-1)
structure j0(its:List Item):Prop where
 len:its.length<=11
 ok:∀e∈its,Dz e
 dyck:bp eh (its.map (·.1)) 0= .inl 0
 few:its.countP (fun e=>e.1 != 2)<=7
noncomputable def nk(m op dp:Nat):Nat:=if op=0 then 0 else if(m=0/\op=4)\/(m=2/\dp=0)then 1 else m
theorem ML{its:List Item}{d d':Nat}{e:Item}(h:bp eh (its.map (·.1)) 0= .inl d)(hs:eh d e.1= .inl d'):bp eh ((its++[e]).map (·.1)) 0= .inl d':=by
 rw[List.map_append];exact bD h hs
theorem Uo{m op dp:Nat}{ρ:ao}(h4:ρ 4=some (.int op))(h5:ρ 5=some (.int dp))(h6:ρ 6=some (.int m)):
  ((eU np (fun ρ=>ρ 4) (fun x=>some (V.int 0)) ρ).bind fun z=>if z=true then eY (fun ρ=>Option.map (fun y=>(upd ρ 6 y,Fl.next)) (some (V.int 0))) (fun ρ=>some (ρ,Fl.next)) ρ
   else eY (fun ρ=>(Rw (ou (eU np (fun ρ=>ρ 6) fun x=>some (V.int 0)) (eU np (fun ρ=>ρ 4) fun x=>some (V.int 4))) (ou (eU np (fun ρ=>ρ 6) fun x=>some (V.int 2)) (eU np (fun ρ=>ρ 5) fun x=>some (V.int 0))) ρ).bind fun z=>
    if z=true then eY (fun ρ=>Option.map (fun y=>(upd ρ 6 y,Fl.next)) (some (V.int 1))) (fun ρ=>some (ρ,Fl.next)) ρ else some (ρ,Fl.next)) (fun ρ=>some (ρ,Fl.next)) ρ)=some (upd ρ 6 (.int (nk m op dp)),.next):=by
 by_cases q:op=0
 ·subst q
  rw[nk,aw rfl];exact ni (aG h4 rfl (bU _ _)) rfl
 ·have c4:=aG (F:=np) (f:=fun ρ=>ρ 4) (g:=fun ø=>some (.int 0)) h4 rfl ((bU _ _).trans (congrArg some (db (p:=(op:Int)=0) (by omega))))
  have hc:Rw (ou (eU np (fun ρ=>ρ 6) fun x=>some (V.int 0)) (eU np (fun ρ=>ρ 4) fun x=>some (V.int 4))) (ou (eU np (fun ρ=>ρ 6) fun x=>some (V.int 2)) (eU np (fun ρ=>ρ 5) fun x=>some (V.int 0))) ρ=some (decide ((m=0/\op=4)\/(m=2/\dp=0))):=by
   refine(Bu (gC (aG h6 rfl (bU _ _)) (aG h4 rfl (bU _ _))) (gC (aG h6 rfl (bU _ _)) (aG h5 rfl (bU _ _)))).trans (congrArg some ?_);rw[lH];simp only[lG,bX,mS];omega
  rw[nk,au q];by_cases q2:(m=0/\op=4)\/(m=2/\dp=0)
  ·rw[aw q2]
   exact iq c4 (cf (ni (hc.trans (congrArg some (bo q2))) rfl) rfl)
  ·rw[au q2,cj h6]
   exact iq c4 (cf (iq (hc.trans (congrArg some (db q2))) rfl) rfl)
inductive Qx(nv:V)(i:Nat)(ρ:ao):Prop
 |mk (its:List Item) (op dp:Nat) (h2:ρ 2=some nv) (h3:ρ 3=some (.list (its.map Hl))) (h4:ρ 4=some (.int op)) (h5:ρ 5=some (.int dp)) (hl:its.length=i) (ho:op<=4) (hd:dp<=op) (hf:bp eh (its.map (·.1)) 0= .inl dp) (Cl:∀e∈its,Dz e)
theorem JJ{cy:List Int}(hs:cy.length<=63){ρ:ao}(h0:ρ 0=some (.list (cy.map .int))):
  m4 (fun ρ=>(ul (fun ρ=>ρ 0) (fun x=>some none) (fun ρ=>(some (V.int 7)).bind Ar) (fun x=>some none) ρ).bind elems) (fun ρ y=>some (upd ρ 0 y)) (fun x=>some true) (iW CP (fun ρ=>ρ 0) (iW OH (fun x=>some (V.int 10)) fun x=>some (V.int 7))) 1 [] ρ=some (.list (((cy.take 7).map (· % 10000000)).map .int)):=by
 rw[iL];exact gn (fun ø=>True) (cy.take 7) .int (fun x=>.int (x % 10000000)) (cN (n0 h0 rfl rfl rfl (pE _ 7 (by rw[List.length_map];exact az hs (by decide)))) (congrArg some (List.map_take ..).symm)) (eV (List.length_take_le _ _) (by decide)) (fun x hx ρ ø=>⟨upd ρ 0 (.int x),rfl,trivial,md rfl rfl⟩) trivial
theorem JK{l:List Int}(h8:l.length<=7)(hr:∀x∈l,0<=x/\x<10000000):∃nums:List Int,nums.length=7/\(∀x∈nums,0<=x/\x<10000000)/\l.map V.int++([2286,41023,580014,20029,1301167,47,2103639].map V.int).drop (l.map V.int).length=nums.map V.int/\(l.map V.int).length+(([2286,41023,580014,20029,1301167,47,2103639].map V.int).drop (l.map V.int).length).length<=most:=by
 refine⟨l++[2286,41023,580014,20029,1301167,47,2103639].drop l.length,by rw[aY,nG];exact re h8,fun x hx=>?_,by rw[List.map_append,List.map_drop,List.length_map],?_⟩
 ·rcases bZ.mp hx with hx|hx
  ·exact hr x hx
  ·exact(by decide:∀x∈[2286,41023,580014,20029,1301167,47,2103639],(0:Int)<=x/\x<10000000) x (List.mem_of_mem_drop hx)
 ·rw[nG,List.length_map]
  show l.length+(7-l.length)<=1000000;omega
theorem JL{m op dp:Nat}(hm:m<3):nk m op dp<3:=by
 unfold nk;split
 ·decide
 ·split
  ·decide
  ·exact hm
theorem JM{m op dp:Nat}(hm:m<3)(ho:op<=4)(hd:dp<=op):∃Up Uq:Nat,Up<=4/\Uq<=Up/\eh dp (nk m op dp)= .inl Uq/\(Up:Int)=op+(if nk m op dp=0 then 1 else 0)/\(Uq:Int)=dp+(1-nk m op dp):=by
 have h3:=JL (op:=op) (dp:=dp) hm;unfold eh;by_cases q:nk m op dp=0
 ·refine⟨op+1,dp+1,?_,eW hd,aw q,by rw[aw q];rfl,by rw[q];omega⟩
  unfold nk at q;split at q
  ·omega
  ·split at q
   ·cases q
   ·omega
 ·by_cases q1:nk m op dp=1
  ·exact⟨op,dp,ho,hd,by rw[au q,aw q1],by rw[au q];omega,by rw[q1];omega⟩
  ·have q2:nk m op dp=2:=by omega
   have hz:dp≠0:=fun z=>by
    unfold nk at q2;split at q2
    ·cases q2
    ·split at q2
     ·cases q2
     ·omega
   exact⟨op,dp-1,ho,by omega,by rw[au q,au q1,au hz],by rw[au q];omega,by rw[q2];omega⟩
theorem JN(dp:Nat):∀k:Nat,k<=dp->bp eh (((List.range k).map fun(j:Nat)=>((2,0,(j:Int)):Item)).map (·.1)) dp= .inl (dp-k)
 |0,_=>rfl
 |k+1,h=>by
  rw[tN,List.map_append,List.map_append];refine bD (JN dp k (kT h)) ?_;show eh (dp-k) 2=_;unfold eh;rw[au (by decide),au (by decide),au (by omega)];exact congrArg Sum.inl (by omega)
theorem MM(l:List Nat):(l.map fun(j:Nat)=>((2,0,(j:Int)):Item)).countP (fun e=>e.1 != 2)=0:=List.countP_eq_zero.mpr fun e he=>by
 obtain⟨j,_,rfl⟩:=dt.mp he;exact nE
theorem MN{P:Pk}{n:Nat}{g1 g2}{cy:List Int}(hs:cy.length<=63){ρ:ao}(h0:ρ 0=some (.list (cy.map .int))):
  rS (rW (P:=P) (n:=n) g1 g2).1 ρ fun v=>∃its,j0 its/\v= .list (its.map Hl):=by
 have h8:((cy.take 7).map (· % 10000000)).length<=7:=by rw[List.length_map];exact List.length_take_le _ _
 have hr:∀x∈(cy.take 7).map (· % 10000000),0<=x/\x<10000000:=fun x hx=>by
  obtain⟨y,_,rfl⟩:=dt.mp hx;omega
 have e1:=JJ hs h0;generalize(cy.take 7).map (· % 10000000)=l at e1 h8 hr;obtain⟨nums,RB,hnr,hn,Li⟩:=JK h8 hr;have DA:(l.map V.int).length<=most:=by rw[List.length_map];exact az h8 (by decide)
 unfold rW;dsimp only;refine jG e1 (jG (bT rfl (n0 rfl (cN (bY rfl (nZ _ DA)) rfl) rfl rfl (zk _ _ (by decide))) ((zj _ _ Li).trans (congrArg (fun z=>some (V.list z)) hn))) (jF rfl ?_));refine sx (Qx (.list (nums.map .int)) 7) (eT (xs:=nums.map .int) rfl (Bn (fun i ρ=>Qx (.list (nums.map .int)) i ρ) _ (fun i x ρ hx hR=>?_) (fun ρ hR=>⟨rfl,?_⟩) (.mk [] 0 0 rfl rfl rfl rfl rfl (by decide) (bL _) rfl (List.forall_mem_nil _)))) fun am hR=>?_
 ·rw[dh]at hx
  refine cI hx fun x zW e=>?_
  subst e;have hil:i<7:=RB▸(gH.mp zW).1;have hxr:=hnr x (kb zW);obtain⟨m,hm⟩:=qY (a:=x % 3) (by omega);obtain⟨w,hw⟩:=qY (a:=x/3 % 3) (by omega);have hd:0<=x/9/\x/9<=1111111:=by omega
  obtain⟨its,op,dp,h2,h3,h4,h5,hl,ho,Ly,hf,Cl⟩:=hR;obtain⟨Up,Uq,o1,o2,o3,o4,o5⟩:=JM (m:=m) (op:=op) (dp:=dp) (by omega) ho Ly;have Li:=JL (m:=m) (op:=op) (dp:=dp) (by omega);have hit:(its.map Hl).length<most:=by rw[List.length_map,hl];exact Nat.lt_trans hil (by decide)
  have hb:∀aQ:ao,aQ 6=some (.int (nk m op dp))->CO (eU np (fun ρ=>ρ 6) fun x=>some (V.int 0)) (fun x=>some (V.int 1)) (fun x=>some (V.int 0)) aQ=some (.int (if nk m op dp=0 then 1 else 0)):=fun aQ h6=>by
   by_cases q:nk m op dp=0
   ·rw[aw q];exact ni (aG h6 rfl ((bU _ _).trans (congrArg some (bo (by rw[q];rfl))))) rfl
   ·rw[au q];exact iq (aG h6 rfl ((bU _ _).trans (congrArg some (db (by omega))))) rfl
  exact ex4 ρ h2 h3 h4 h5 fun σ=>⟨_,_,rfl,mx ((md rfl rfl).trans (congrArg (fun z=>some (V.int z)) hm)) (cf (Uo rfl rfl rfl) (oC rfl (hb _ rfl) (congrArg (fun z=>some (V.int z)) o4.symm)
    (oC rfl (bT rfl rfl rfl) (congrArg (fun z=>some (V.int z)) o5.symm) (Gj rfl (ap (cB (ap rfl (ap ((md (dv rfl rfl) rfl).trans (congrArg (fun z=>some (V.int z)) hw)) (ap (dv rfl rfl) rfl))) rfl) rfl) (rR _ _ hit) rfl)))),
   Qx.mk (its++[(nk m op dp,w,x/9)]) Up Uq rfl (congrArg (fun z=>some (V.list z)) (n4 Hl its (nk m op dp,w,x/9))) rfl rfl (by rw[aY,hl];rfl) o1 o2 (ML hf o3) (JC Cl ⟨Li,by show w<3;omega,hd⟩)⟩
 ·obtain⟨its,op,dp,h2,h3,h4,h5,hl,ho,Ly,hf,Cl⟩:=hR
  refine ex2 am h3 h5 fun σ=>rT (bT rfl (gn (fun ø=>True) (List.range dp) (fun(j:Nat)=>V.int j) (fun(j:Nat)=>Hl (2,0,(j:Int))) (cN (ap rfl rfl) ?_) (by rw[eM];exact eV (az Ly ho) (by decide)) (fun j hj ρ ø=>⟨upd ρ 0 (.int j),rfl,trivial,rfl⟩) trivial) (zj _ _ ?_)) ⟨its++(List.range dp).map fun(j:Nat)=>((2,0,(j:Int)):Item),⟨?_,fun e he=>?_,?_,?_⟩,?_⟩
  ·rw[HG,aw (by exact(bX _ _).mpr ⟨bo (by omega),bo (by omega)⟩)]
   refine congrArg some ?_;unfold NI;have e:(Builtin.Range.rangeSize 0 (dp:Int) 1).toNat=dp:=by
    unfold Builtin.Range.rangeSize;simp;split<;>omega
   rw[e];simp
  ·rw[List.length_map,List.length_map,eM,hl]
   exact az (jX (az Ly ho) 7) (by decide)
  ·rw[aY,List.length_map,eM,hl]
   omega
  ·rcases bZ.mp he with he|he
   ·exact Cl e he
   ·obtain⟨j,hj,rfl⟩:=dt.mp he
    have:=ec.mp hj;exact⟨(by decide:2<3),(by decide:0<3),by show(0:Int)<=(j:Int);omega,by show(j:Int)<=1111111;omega⟩
  ·rw[List.map_append,jf,hf]
   show bp eh _ dp=_;rw[JN dp dp (bL _),tK]
  ·rw[List.countP_append,MM]
   exact az List.countP_le_length (jj hl)
  ·rw[List.map_append,iL]
   rfl
 ·rw[List.length_map,RB]at hR
  exact hR
noncomputable def n6:Cx:={vars:=[(Lu,.local,false),(⟨#[101,100,103,101,115]⟩,.local,false),(Zu,.local,false)],aV:=[Rs]}
noncomputable def iw{P:Pk}{n:Nat}(m7:P.glob Rs=some (.builtin "chr")):{f:ao->Option (ao×Fl)//ow P n n6 (dW (aO pq.main.body 62)) f}:=⟨_,(@af _ _ _ _ _ _ _ (@aI _ _ _ 1 _ _ _ _ _ _ rfl (by decide) (@cQ _ _ _ _ _ _ _ (@aa _ _ _ _ _ _ _ _ ae (@aa _ _ _ _ _ _ _ _ ae (@aa _ _ _ _ _ _ _ _ ae (@aa _ _ _ _ _ _ _ _ ae (@aa _ _ _ _ _ _ _ _ ae (@aa _ _ _ _ _ _ _ _ ae (@aa _ _ _ _ _ _ _ _ ae (@aa _ _ _ _ _ _ _ _ ae (@aa _ _ _ _ _ _ _ _ ae (@aa _ _ _ _ _ _ _ _ ae (@aa _ _ _ _ _ _ _ _ ae (@aa _ _ _ _ _ _ _ _ ae (@aa _ _ _ _ _ _ _ _ ae (@aa _ _ _ _ _ _ _ _ ae (aa ae (aa ae ag ir) ir) ir) ir) ir) ir) ir) ir) ir) ir) ir) ir) ir) ir) ir) ir) (by decide) (@ah _ _ _ (@ah _ _ _ (@ah _ _ _ (@ah _ _ _ (@ah _ _ _ (@ah _ _ _ (@ah _ _ _ (@ah _ _ _ (@ah _ _ _ (@ah _ _ _ (@ah _ _ _ (@ah _ _ _ (@ah _ _ _ (ah (ah (ah len0))))))))))))))))) cz) (@af _ _ _ _ _ _ _ (@aI _ _ _ 2 _ _ _ _ _ _ rfl (by decide) (@aF _ _ _ _ _ _ _ _ _ (aC rfl) (al jo (ac (ab 0 rfl rfl rfl)) ae) cz) cz) (@af _ _ _ _ _ _ _ (@aW _ _ _ _ _ _ (@cQ _ _ _ _ _ _ _ (@aa _ _ _ _ _ _ _ _ (ac (ab 2 rfl rfl rfl)) (@aa _ _ _ _ _ _ _ _ (@al _ _ _ _ _ _ _ _ _ _ _ cm (ac (ab 2 rfl rfl rfl)) (@aJ _ _ _ _ _ _ _ _ _ _ _ rfl m7 rfl EE (@aa _ _ _ _ _ _ _ _ (@aF _ _ _ _ _ _ _ _ _ (ac (ab 1 rfl rfl rfl)) (@al _ _ _ _ _ _ _ _ _ _ _ jo (al nK (ac (ab 0 rfl rfl rfl)) ae) ae) cz) ag ir) ir (ca _ _))) (@aa _ _ _ _ _ _ _ _ (@aF _ _ _ _ _ _ _ _ _ (@cQ _ _ _ _ _ _ _ (@aa _ _ _ _ _ _ _ _ (aC rfl) (@aa _ _ _ _ _ _ _ _ (aC rfl) (@aa _ _ _ _ _ _ _ _ (aC rfl) (@aa _ _ _ _ _ _ _ _ (aC rfl) (@aa _ _ _ _ _ _ _ _ (aC rfl) (aa (aC rfl) (aa (aC rfl) ag ir) ir) ir) ir) ir) ir) ir) (by decide) (@ah _ _ _ (@ah _ _ _ (@ah _ _ _ (@ah _ _ _ (ah (ah (ah len0)))))))) (@al _ _ _ _ _ _ _ _ _ _ _ jo (al nK (ac (ab 0 rfl rfl rfl)) ae) ae) cz) ag ir) ir) ir) (by decide) (ah (ah (ah len0))))) ai)))⟩
section
variable{P:Pk}{n:Nat}{K:Cx}{lo:Bool}
noncomputable def chn(MO MP:V->V->Option Bool)(f Au yi:ao->Option V):ao->Option Bool:=fun ρ=>(f ρ).bind fun x=>(Au ρ).bind fun y=>(MO x y).bind fun b=>if b then(yi ρ).bind fun z=>MP y z else some false
theorem vp{l Qy Qz:Expr}{JO JP:CmpOp}{pos:Pos}{MO MP f Au yi}(Ur:jl P JO MO)(Us:jl P JP MP)(hl:eo P n K true l f)(h1:eo P n K true Qy Au)(h2:eo P n K true Qz yi)(hm:lastMarks [JO,JP] [Qy,Qz]=false):
  sh P n K (.Compare l [JO,JP] [Qy,Qz] pos) (chn MO MP f Au yi):=fun A env out hid m B s ρ b E rm S hf=>by
 obtain⟨x,hx,hf⟩:=kP.mp hf;obtain⟨y,hy,hf⟩:=kP.mp hf;obtain⟨c,hc,hf⟩:=kP.mp hf;refine isTrue_chain (aD (hl A env out hid m B s ρ x E rm S hx) (fun u s₁ C7=>?_) fun ø ø q=>q) hm;refine test_link (aD (h1 A env out hid m B s₁ ρ y E rm (S.after C7.1) hy) (fun v s₂ As=>?_) fun ø ø q=>q);have dI:=(S.after C7.1).after As.1;refine aD (Ur A s₂ out x y c u v E (rm.less (eK _)) dI.G (dI.Ep true) (C7.2.kp As.1) As.2 hc) (fun w s₃ C8=>?_) fun ø ø q=>q
 rw[C8.2];refine mR ?_
 cases c with
 |false=>
  simp only[kN,gZ]at hf ⊢;cases hf;exact⟨C7.1.trans (As.1.trans C8.1),rfl⟩
 |true=>
  simp only[jP]at hf ⊢;obtain⟨z,hz,hf⟩:=kP.mp hf;have rv:=dI.after C8.1;refine test_last (aD (h2 A env out hid m B s₃ ρ z E rm rv hz) (fun w' km MQ=>?_) fun ø ø q=>q);have rx:=rv.after MQ.1;refine aD (Us A km out y z b v w' E (rm.less (eK _)) rx.G (rx.Ep true) (As.2.kp (C8.1.trans MQ.1)) MQ.2 hf) (fun w'' rr Ut=>?_) fun ø ø q=>q
  rw[Ut.2];exact mR ⟨C7.1.trans (As.1.trans (C8.1.trans (MQ.1.trans Ut.1))),rfl⟩
end
section
variable{P:Pk}{n:Nat}{K:Cx}{lo:Bool}
noncomputable def E9(P:Pk)(n:Nat)(K:Cx)(es:List Expr)(f:ao->Option Bool):Prop:=
 ∀(A:Around) (env:Env) (out hid:List Addr) (m:Str->Option Value) (B s:Shared) (ρ:ao) (b:Bool) (E:Value->Shared->Prop),cJ n A->aU P K env out hid m B s ρ->f ρ=some b->
  wpAny (model P.prog P.w) A (allTrue .And es env) (fun c s'=>Kp s s'/\c=b) E s
theorem E9.nil:E9 P n K [] fun ø=>some true:=fun A env out hid m B s ρ b E rm S hf=>wpAny_allTrue_And_nil ⟨.refl s,Option.some.inj hf⟩
theorem E9.cons{a:Expr}{es:List Expr}{f g}(ha:sh P n K a f)(hs:E9 P n K es g):E9 P n K (a::es) (ou f g):=fun A env out hid m B s ρ b E rm S hf=>by
 refine ak hf fun x hx hf=>Cn (aD (ha A env out hid m B s ρ x E rm S hx) (fun x' s₁ aj=>?_) fun ø ø q=>q)
 rw[aj.2]
 induction x with
 |false=>exact⟨aj.1,Option.some.inj hf⟩
 |true=>exact aD (hs A env out hid m B s₁ ρ b E rm (S.after aj.1) hf) (fun c s₂ q=>⟨aj.1.trans q.1,q.2⟩) fun ø ø q=>q
theorem sh.all{es:List Expr}{pos:Pos}{f}(h:E9 P n K es f):sh P n K (.BoolOp .And es pos) f:=fun A env out hid m B s ρ b E rm S hf=>Cm (h A env out hid m B s ρ b E rm S hf)
theorem MR{K:Cx}{ts:List Expr}{p p':Pos}{k k':Nat}{es:List Expr}{names:List Str}(h:(!(ts.length==2||ts.length==3))=true):
  ∀env:Env,(∀(i:Nat) x kd b,K.vars[i]?=some (x,kd,b)->env.kindOf x=some kd)->env.scope.kind= .function->swappedStores [.Tuple ts k p] (.Tuple es k' p') env=pure none\/swappedStores [.Tuple ts k p] (.Tuple es k' p') env=pure (some names):=fun env hk hf=>
 .inl ((RM.2 ..).trans (aw (by rw[h];rfl)))
theorem MS{K:Cx}{i j:Nat}{x y:Str}{b:Bool}{p1 p2 p p':Pos}{k k':Nat}{es:List Expr}{names:List Str}(hj:K.vars[i]?=some (x,.cell,b))(h1:es.any star=false):
  ∀env:Env,(∀(i:Nat) x kd b,K.vars[i]?=some (x,kd,b)->env.kindOf x=some kd)->env.scope.kind= .function->swappedStores [.Tuple [.Name x p1,.Name y p2] k p] (.Tuple es k' p') env=pure none\/swappedStores [.Tuple [.Name x p1,.Name y p2] k p] (.Tuple es k' p') env=pure (some names):=fun env hk hf=>.inl (by
 have e1:vf env [.Name x p1,.Name y p2] (.Name x p1)=none:=by
  show(if(env.kindOf x==some .local&&p1.line==p1.line)=true then some x else none)=none;rw[hk i x _ _ hj];rfl
 cases e2:vf env [.Name x p1,.Name y p2] (.Name y p2)with
 |none=>exact E0 ((CG e1).trans (CG e2)) rfl
 |some a=>exact E0 ((CG e1).trans (rd e2)) rfl)
end
section
variable{P:Pk}{n:Nat}{K K':Cx}{lo:Bool}
noncomputable def tabIn(I:List Nat->Bool):V->Option V
 | .str l=>some (.bool (I l))
 |_=>none
set_option tactic.hygienic true in
theorem RP{l:Expr}{id:Str}{p pos:Pos}{a:Addr}{I:List Nat->Bool}{f}(hx:K.aV.contains id=true)(hv:P.glob id=some (.ref a))(hd:(id==("__debug__":Str))=false)(lE:(a==sysModules)=false)
  (hG:∀h,P.G h->∃g:Str->Option Value,h.MapOf (PySem.strKind P.prog P.w) a g/\∀l,I l=(g (pyStr l)).isSome) (hl:eo P n K true l f) (hm:behindInMarks .In (.Name id p)=false):
  eo P n K lo (.Compare l [.In] [.Name id p] pos) (fun ρ=>(f ρ).bind (tabIn I)):=fun A env out hid m B s ρ z E rm S hf=>by
 obtain⟨x,zW,hf⟩:=kP.mp hf;unfold tabIn at hf;split at hf
 ·rename_i k
  cases hf;refine wpAny_Compare1 (aD (hl A env out hid m B s ρ _ E rm S zW) (fun u s₁ aj=>?_) fun ø ø q=>q) hm;have bC:=S.after aj.1;refine bH bC hx hv hd ?_;obtain⟨t,rfl⟩:=aj.2.str_inv;obtain⟨g,hM,hI⟩:=hG _ bC.G;refine wpAny_in_of (strKind_is P.prog P.w (pyStr k) t) lE hM ⟨aj.1.trans (Kp.toks s₁ _),?_⟩;rw[<-hI];exact .ofBool _
 ·cases hf
set_option tactic.hygienic true in
theorem Gn{l:Expr}{id:Str}{p pos:Pos}{a:Addr}{I:List Nat->Bool}{f}(hx:K.aV.contains id=true)(hv:P.glob id=some (.ref a))(hd:(id==("__debug__":Str))=false)(lE:(a==sysModules)=false)
  (hG:∀h,P.G h->∃g:Str->Option Value,h.MapOf (PySem.strKind P.prog P.w) a g/\∀l,I l=(g (pyStr l)).isSome) (hl:eo P n K true l f) (hm:behindInMarks .In (.Name id p)=false):
  sh P n K (.Compare l [.In] [.Name id p] pos) (fun ρ=>(f ρ).bind fun x=>(tabIn I x).bind px):=fun A env out hid m B s ρ b E rm S hf=>by
 obtain⟨x,zW,hf⟩:=kP.mp hf;unfold tabIn at hf;split at hf
 ·rename_i k
  cases hf;refine tq (aD (hl A env out hid m B s ρ _ E rm S zW) (fun u s₁ aj=>?_) fun ø ø q=>q) hm;have bC:=S.after aj.1;refine bH bC hx hv hd ?_;obtain⟨t,rfl⟩:=aj.2.str_inv;obtain⟨g,hM,hI⟩:=hG _ bC.G;refine wpAny_in_of (strKind_is P.prog P.w (pyStr k) t) lE hM ?_;rw[<-hI];exact mR ⟨aj.1.trans (Kp.toks s₁ _),rfl⟩
 ·cases hf
end
section
variable{P:Pk}{n:Nat}{K K':Cx}{lo:Bool}
noncomputable def vq:V->List V->Option V
 | .str l,[]=>some (.bool (l.all (· <128)))
 |_,_=>none
set_option tactic.hygienic true in
theorem DB:HX P "isascii" vq:=fun s hid y v xs r G hv hF=>by
 unfold vq at hF;split at hF
 ·rename_i l
  cases hF;obtain⟨t,rfl⟩:=hv.str_inv;refine⟨"str","str.isascii",Cy,PySem.F.slot_str_isascii,PySem.F.type_str_isascii,qW _ _ _,(fun ø e=>nomatch e),fun A s₁ vs E rm H1 live uc hx=>?_⟩;obtain rfl:=bd.nil_inv hx;refine PySem.call_gives PySem.F.slot_str_isascii (qW _ _ _) PySem.F.entry_str_isascii (PySem.F.args_str_isascii_1 _) (gives_str_isascii (pyStr l) t) ?_;refine⟨Kp.refl s₁,?_⟩;rw[show((pyStr l).cps.all fun x=>decide (x<128))=l.all (fun x=>decide (x<128))from List.all_toArray ..];exact .ofBool _
 ·cases hF
theorem Bx{h:Heap}{hid:List Addr}:∀{l:List V} {is:List Int} {ws:List Value},ii l=some is->bd P h hid l ws->IntsAre ws is
 |[],is,ws,h1,h2=>by
  cases h1;obtain rfl:=bd.nil_inv h2;exact .nil
 |y::l,is,ws,h1,h2=>by
  obtain⟨k,LY,rfl,h',rfl⟩:=oo h1;obtain⟨v,r,rfl,h3,h4⟩:=bd.cons_inv h2;obtain⟨t,rfl⟩:=h3.int_inv;exact .cons k t (Bx h' h4)
noncomputable def zq:V->List V->Option V
 | .list l,[.int k]=>(ii l).map fun is=>.int (is.count k:Nat)
 |_,_=>none
set_option tactic.hygienic true in
theorem JQ:HX P "count" zq:=fun s hid y v xs r G hv hF=>by
 unfold zq at hF;split at hF
 ·rename_i l k
  obtain⟨is,LZ,rfl⟩:=nB.mp hF;obtain⟨a,ws,rfl,ha,ht,hd⟩:=hv.cK;refine⟨"list","list.count",Cp,PySem.F.slot_list_count,PySem.F.type_list_count,ht.isList.typeIs,?_,fun A s₁ vs E rm H1 live uc hx=>?_⟩
  ·intro b e
   cases e;obtain⟨m,q⟩:=ht;exact⟨_,q,rfl⟩
  ·obtain⟨a',OP,e,Yt,ht',lF⟩:=uc.cK
   cases e;obtain⟨u,rfl,hu⟩:=yk hx;obtain⟨t,rfl⟩:=hu.int_inv;exact count_list_ints ht'.isList (Bx LZ lF) ⟨Kp.toks s₁ _,.ofInt _ _⟩
 ·cases hF
end
section
variable{P:Pk}{n:Nat}{K:Cx}{lo:Bool}
theorem ro.keys{A:Around}(hh:A.handled=none){I d:Addr}(cZ:d≠I){ks:List Int}{oW:List (Int×Value)}{ep:Nat}(hl:oW.map (·.1)=ks):
  ro P A I [I] none (ks.map .int) (fun hid i s=>(s.heap.IsKeyIter I d i oW.length ep/\s.heap.DictAt (intKind P.prog P.w) d oW ep)/\True/\(∀b∈[I,d],b≠I->b∉hid/\∃o,s.heap.get? b=some o)/\I∈hid):=by
 have W:=Walks.dictKeys (prog:=P.prog) (w:=P.w) (knd:=intKind P.prog P.w) hh I d cZ oW ep;have e:oW.length=(ks.map V.int).length:=by rw[List.length_map,<-hl,List.length_map]
 have W':Walks P.prog P.w A I [I,d] [I] (ks.map V.int).length (fun i v=>∃k x,oW[i]?=some (k,x)/\(intKind P.prog P.w).is k v=true) (fun i h=>h.IsKeyIter I d i oW.length ep/\h.DictAt (intKind P.prog P.w) d oW ep):=by
  rw[<-e];exact W
 refine ro.of W' (fun hid s=>True) (fun ø ø ø ø ø ø ø=>trivial) (fun ø ø ø ø ø ø ø=>trivial) (fun hid i x v s ø hx hv=>?_) fun i h st=>?_
 ·obtain⟨k,u,hk,hi⟩:=hv
  obtain⟨t,rfl⟩:=Value.isInt_shape hi;rw[dh,<-hl,dh,hk]at hx;cases hx;exact .ofInt _ _
 ·obtain⟨⟨o,ho,hc,_⟩,_⟩:=st
  exact⟨o,"dict_keyiterator",ho,hc,by decide⟩
noncomputable def JR:V->Option (List V)
 | .dict ks _=>some (ks.map .int)
 |_=>none
set_option tactic.hygienic true in
theorem DC{e:Expr}{f}(h:eo P n K false e f):LD P n K e (fun ρ=>(f ρ).bind JR):=fun A env out hid m B s ρ xs E rm S hf=>by
 obtain⟨x,hx,hf⟩:=kP.mp hf;refine aD (h A env out hid m B s ρ x E rm S hx) (fun v s₁ aj=>?_) fun ø ø q=>q
 have bC:=S.after aj.1;have jr:s.heap.get? s₁.heap.objs.size=none:=by
  cases e:s.heap.get? s₁.heap.objs.size with
  |none=>rfl
  |some o=>have:=aj.1.keep _ _ e;rw[bE]at this;cases this
 cases x<;>simp only[JR]at hf<;>try cases hf
 rename_i ks l;obtain⟨a,ws,rfl,ha,hlen,lE,ht,hd⟩:=aj.2.kX;obtain⟨o,es,ep,q1,q2,q3,q4,q5,q6⟩:=ht;have la:s₁.heap.DictAt (intKind P.prog P.w) a (ks.zip ws) ep:=⟨o,es,q1,q2,q3,q4,q5,q6⟩;have cZ:a≠s₁.heap.objs.size:=fun e=>by rw[e,bE]at q1;cases q1
 have YC:(ks.zip ws).map (·.1)=ks:=List.map_fst_zip (by omega);refine wpAny_pyIter_dict lE la ?_;refine⟨s₁.heap.objs.size,[s₁.heap.objs.size],none,_,rfl,aj.1.trans (Kp.push s₁ _ _),ro.keys (ep:=ep) rm.handled cZ YC,fun b hb=>?_,fun b hb=>?_,fun g q=>(nomatch q),?_⟩
 ·obtain rfl:b=s₁.heap.objs.size:=by simpa using hb
  exact jr
 ·obtain rfl:b=s₁.heap.objs.size:=by simpa using hb
  exact⟨_,bJ _ rfl⟩
 ·refine⟨⟨⟨_,bJ _ rfl,rfl,rfl⟩,la.at' fun o e=>bz _ e⟩,trivial,fun b hb zV=>?_,by simp⟩
  have:b=a:=by
   rcases bI.mp hb with q|q
   ·exact absurd q zV
   ·simpa using q
  subst this;exact⟨fun q=>(bZ.mp q).elim (fun w=>zV (by simpa using w)) ha,_,bz _ q1⟩
end
section
section
variable{prog:Program}{w:World}{A:Around}{I:Addr}{fp wr:List Addr}{G:Array GenState->Array GenState->Prop}{n:Nat}{Pp:Nat->Value->Prop}{St:Nat->Shared->Prop}
noncomputable abbrev rX(xs:Array Value)(c:Nat):Obj:={cls:=.type "list",dict:=none,data:=.seq xs c,slots:= #[]}
theorem JS{R:Result->Shared->Prop}(W:WalksS prog w A.in1 I fp wr G n Pp St){S:Addr}(Wc:S∉fp)(res:Value)(pre:Array Value)(hn:pre.size+n<=sizeLine):
  ∀(k i:Nat) (s:Shared) (acc:Array Value) (c:Nat),n-i=k->i<=n->St i s->s.heap.get? S=some (rX (pre++acc) c)->ItemsOf Pp acc i->
  (∀s' eN c',Moved (S::wr) G s s'->s'.heap.get? S=some (rX (pre++eN) c')->ItemsOf Pp eN n->R (.ok (.ret res)) s')->
  codeAny (model prog w) A (.builtin "list.extend.loop" ⟨[.ref S,.ref I,res],[]⟩) R s:=by
 have hSw:S∉wr:=fun h=>Wc (W.sub _ h)
 have JT:∀b∈wr,b∈S::wr:=fun b hb=>ge _ hb
 intro k
 induction k with
 |zero=>
  intro i s acc c hk hi iX hS iG hR;obtain rfl:i=n:=tL hi (Nat.sub_eq_zero_iff_le.mp hk);refine xU xV ?_;rw[xW lY _];show wpAny _ A.in1 (pyNext (.ref I)>>= _) _ _ s;exact aA (W.done s _ _ iX fun s' hm=>bK (hR s' acc c (hm.mono JT) (hm.heap S _ hSw hS) iG))
 |succ k ih=>
  intro i s acc c hk hi iX hS iG hR;have ew:i<n:=Nat.sub_pos_iff_lt.mp (hk▸g9 k);have sj:(pre++acc).size=pre.size+i:=by rw[Array.size_append,iG.1]
  refine xU xV ?_;rw[xW lY _];show wpAny _ A.in1 (pyNext (.ref I)>>= _) _ _ s;refine aA (W.item i s _ _ ew iX fun v s' hP YD hm=>?_);have RQ:=hm.heap S _ hSw hS;have Uu:(pre++acc).push v=pre++acc.push v:=by simp
  show wpAny _ A.in1 (updateSeq S (·.push v)>>= _) _ _ _;refine aA (nH RQ rfl (bK ⟨tR lY _,ih (i+1) _ (acc.push v) _ (by rw[<-Nat.sub_sub,hk];rfl) ew (W.frame _ s' _ s'.toks YD (bL _) fun b hb o e=>?_) ((kR _ RQ rfl).trans (by rw[<-Uu];rfl)) (iG.push hP) fun hU eN c' YE YF JU=>?_⟩)
   (by rw[sj];exact az (jX hi _) hn) (by show((pre++acc).push v).size<=sizeLine+1;rw[tU,sj];exact eW (az (jX hi _) hn)))
  ·exact(kh _ _ (fun h:S=b=>Wc (by rw[h];exact hb))).trans e
  ·refine hR hU eN c' (Moved.trans W.gtrans ((hm.mono JT).then_heap (bL _) fun b o hb e=>?_) YE) YF JU
   exact(kh _ _ (fun h:S=b=>hb (by rw[h];exact gJ))).trans e
theorem zr{s:Shared}{R:Result->Shared->Prop}{r:Addr}{a b c:Int}{t u v:Tok}{k:Nat}(hh:A.handled=none)(hr:IsRange s.heap r a b c t u v)(lE:Builtin.Range.small a b c=true)(hk:(k:Int)=Builtin.Range.rangeSize a b c)(hl:k<=2^24)(S:Addr)(res:Value)(pre:Array Value)(c₀:Nat)(hn:pre.size+k<sizeLine)
  (hS:s.heap.get? S=some (rX pre c₀))
  (hR:∀h' tk eN c',(∀b o,b≠S->s.heap.get? b=some o->h'.get? b=some o)->h'.get? S=some (rX (pre++eN) c')->ItemsOf (fun i v=>∃t,v= .int (a+i*c) t) eN k->R (.ok (.ret res)) {s with heap:=h',toks:=tk}):
  wpAny (model prog w) A.in1 (Builtin.List.listExtendWith (.ref S) (.ref r) res)
   (fun fin s'=>match fin with| .done f=>R (.ok f) s'| .again c'=>c'.quiet=true/\codeAny (model prog w) A c' R s') (fun e s'=>R (.error e) s') s:=by
 have hSr:S≠r:=fun e=>by rw[e,hr]at hS;simp at hS
 have Uv:S≠s.heap.objs.size:=ny (ez hS);have Wc:S∉[s.heap.objs.size]:=fun hm=>Uv (cq.mp hm)
 have W:=(Walks.range (prog:=prog) (w:=w) (A:=A.in1) hh s.heap.objs.size a c k).toS;have key:∀(h:Heap) (c₁ tk:Nat),IsRangeIter h s.heap.objs.size (a+((0:Nat):Int)*c) ((k:Int)-((0:Nat):Int)) c->(∀b o,b≠S->s.heap.get? b=some o->h.get? b=some o)->
   h.get? S=some (rX pre c₁)->codeAny (model prog w) A (.builtin "list.extend.loop" ⟨[.ref S,.ref s.heap.objs.size,res],[]⟩) R {s with heap:=h,toks:=tk}:=by
  intro h c₁ tk hit JV By;refine JS W Wc res pre (dU hn) k 0 _ #[] c₁ rfl (eK _) hit (by rw[Array.append_empty];exact By) (ItemsOf.nil _) fun s' eN c' hm RQ iG=>?_
  rw[Moved.eq_with hm];refine hR s'.heap s'.toks eN c' (fun b o hb e=>hm.heap b o (fun oB=>?_) (JV b o hb e)) RQ iG;exact(bI.mp oB).elim hb fun oB=>absurd (ez e) (by rw[cq.mp oB];exact gv _)
 unfold Builtin.List.listExtendWith;refine aA (wpAny_typeOf (T:="range") ⟨_,hr,rfl⟩ ?_);have h1:Builtin.List.listSameRef (.ref S) (.ref r)=false:=by simp[Builtin.List.listSameRef,hSr]
 have h2:(Value.type "range"==Value.type "list")=false:=by decide
 have h3:(Value.type "range"==Value.type "tuple")=false:=by decide
 simp only[h1,h2,h3,Bool.or_false,kN,gZ];refine aA (Cs hr lE ?_);refine aA (gI (wpAny_hint_range (n:=k) (bz _ hr) hk.symm hl ?_));have rC:IsRangeIter (s.heap.push {cls:=.type "range_iterator",data:=.fields #[rawInt a,rawInt (Builtin.Range.rangeSize a b c),rawInt c]}) s.heap.objs.size (a+((0:Nat):Int)*c) ((k:Int)-((0:Nat):Int)) c:=by
  show IsRangeIter _ _ _ _ _;rw[<-hk];simpa using bJ _ rfl
 have By:=bz {cls:=.type "range_iterator",data:=.fields #[rawInt a,rawInt (Builtin.Range.rangeSize a b c),rawInt c]} hS;have hz:pre.size<=sizeLine:=az (fB _ _) (dU hn);refine wpAny_ite_split (fun RL=>?_) (fun ø=>bK ⟨tR lY _,key _ c₀ _ rC (fun b o ø e=>bz _ e) By⟩);refine aA (q9 ?_);refine aA ?_;show wpAny _ _ (updateSeq S (·.push .none)>>= fun ø=>updateSeq S (·.pop)) _ _ _;refine aA (nH By rfl ?_ hz (by show(pre.push Value.none).size<=_;rw[tU];exact az (eV (fB _ _) hn) (jT _)));have vr:=kR (Obj.mapSeq (·.push Value.none)) By rfl;have W0:pre.size+1<=sizeLine:=eV (fB _ _) hn;refine nH vr rfl ?_ (by show(pre.push Value.none).size<=_;rw[tU];exact W0) (by show((pre.push Value.none).pop).size<=_;rw[Array.pop_push];exact dZ hz);have JW:=kR (Obj.mapSeq (·.pop)) vr rfl;refine bK ⟨tR lY _,key _ _ _ ?_ (fun b o hb e=>?_) (JW.trans (by show some (rX ((pre.push Value.none).pop) _)=_;rw[Array.pop_push]))⟩
 ·exact(kh _ _ Uv).trans ((kh _ _ Uv).trans rC)
 ·exact(kh _ _ (fu hb)).trans ((kh _ _ (fu hb)).trans (bz _ e))
end
variable{P:Pk}{n:Nat}{K:Cx}{lo:Bool}
theorem DD{h:Heap}{hid:List Addr}{a c:Int}{k:Nat}{acc:Array Value}(e:ItemsOf (fun i v=>∃t,v=Value.int (a+i*c) t) acc k):bd P h hid ((List.range k).map fun(i:Nat)=>V.int (a+(i:Int)*c)) acc.toList:=by
 have go:∀(vs:List Value) (j:Nat),(∀(i:Nat) (v:Value),vs[i]?=some v->∃t,v=Value.int (a+((j+i:Nat):Int)*c) t)->bd P h hid ((List.range' j vs.length).map fun(i:Nat)=>V.int (a+(i:Int)*c)) vs:=by
  intro vs
  induction vs with
  |nil=>exact fun ø ø=>.nil
  |cons v vs ih=>
   intro j hv;obtain⟨t,et⟩:=hv 0 v rfl;rw[et];exact .cons (Dn.ofInt (P:=P) _ _) (ih (j+1) fun i v q=>by rw[Nat.add_right_comm];exact hv (i+1) v q)
 have:=go acc.toList 0 fun i v q=>by rw[gg];exact e.2 i v (by rw[<-Array.getElem?_toList];exact q)
 rw[Array.length_toList,e.1]at this;rwa[List.range_eq_range']
noncomputable def QA(i:Nat)(g:ao->Option (List V)):ao->Option (ao×V):=fun ρ=>(ρ i).bind fun y=>y.gm.bind fun l=>(g ρ).bind fun xs=>(oy xs).bind fun r=>if l.length+r.length<=most then some (upd ρ i (.list (l++r)),.none)else none
set_option tactic.hygienic true in
theorem DE(i:Nat){x:Str}{k:NameKind}{p apos rp QB pos:Pos}{name:Str}{es:List Expr}{g}(hi:K.vars[i]?=some (x,k,true))(hd:(x==("__debug__":Str))=false)(hc:(x==("__classdict__":Str))=false)(Uw:name=Str.ofString "extend")
  (hx:K.aV.contains "range"=true) (hv:P.glob "range"=some (.type "range")) (hs:kl P n K false es g) (iX:∀env,starEach es env=es.map fun e=>(false,eval e env)) (cZ:es≠[])
  (pW:(apos.endLine==pos.line)=true) (pX:∀env,attributeBase (.Name x p) name env (eval (.Name x p) env)=eval (.Name x p) env):
  Sh P n K (.Call (.Attribute (.Name x p) name apos) [.Call (.Name "range" rp) es [] QB] [] pos) (QA i g):=fun A env out hid m B s ρ aQ z E rm S hf=>by
 refine ak hf fun y hy hf=>ak hf fun l hl hf=>ak hf fun xs yb hf=>ak hf fun r hr hf=>eR hf fun hlen e=>?_
 obtain⟨e1,e2⟩:=mQ e;rw[V.eO hl]at hy;have eg:(backTo pos (starEach [.Call (.Name "range" rp) es [] QB] env)).any (·.1)=false:=ct fun ø=>rfl
 refine xF (pX env) (nN eg (show 1<20 by decide)) pW ?_;refine fP (S.load hi hy hd hc fun v FF la=>?_) hd;rw[aw rfl]at FF;obtain⟨a,ws,ev,h1,h2,h3,h4,h5⟩:=eP.cK FF;rw[ev,Uw];rw[ev]at la;refine⟨"list","list.extend",Cp,CH,PySem.F.type_list_extend,h4.isList.typeIs,fun b e=>?_,tt eg ?_⟩
 ·obtain⟨k,q⟩:=h4
  exact⟨_,Value.ref.inj e▸q,rfl⟩
 refine bW eg (nq ?_);refine kO (bH S hx hv (by decide) ?_);refine pj (ct iX) ?_;refine bW (ct iX) (aD (hs A env out hid m B s ρ xs E QB rm S yb) (fun vs s₁ aj=>?_) fun ø ø q=>q);refine pY (vs:=[]++vs) aj.2 hr fun a' b c t u v' k s₂ el hk lE hra kp=>nA ?_
 have kk:=aj.1.trans kp;have dI:=S.after kk;obtain⟨c0,q4⟩:=id h4;have ka:=kk.keep a _ q4;have hlk:r.length=k:=by rw[el,List.length_map,eM]
 have hm:=cR;have Mt:ws.toArray.size=l.length:=(cb ..).trans h5.length;have YG:k<=2^24:=az (hlk▸az (tV _ _) hlen) (by decide);refine wpAny_call (codeAny_call_builtin CH.plain PySem.F.entry_list_extend (CH.check _ _ _ _ _ _ _ _ ⟨_,ka,rfl⟩ (PySem.F.args_list_extend_2 _ _) ?_));show wpAny _ _ (Builtin.List.listExtendWith (.ref a) (.ref s₁.heap.objs.size) .none) _ _ _;refine zr (R:=wants (fun v s'=>Vv P K env out hid B s s' aQ z v) E) rm.handled hra lE hk YG a .none ws.toArray c0 (eV (by rw[Mt,<-hlk];exact hlen) (show most<sizeLine by rw[jQ];decide)) ka fun h' tk eN c' JV RQ iG=>?_
 have keep:∀b o,b∉hid->s.heap.get? b=some o->h'.get? b=some o:=fun b o hb e=>JV b o (fun z=>hb (z▸h1)) (kk.keep b o e)
 have bx:eP P env.locals h' out hid (.list (l++r)) (.ref a):=eP.ofList (vs:=ws++eN.toList) h1 h2 h3 ⟨c',by rw[RQ];simp⟩ ((bd.grow (P:=P) h5 keep fun ø q=>.inl q).app (el▸DD iG));obtain⟨z1,z2⟩:=dI.mut (s':={s₂ with heap:=h',toks:=tk}) hi (la.grow (fun c v q=>q.keeps kk.keep) fun ø q=>q) hy (eP.grow (P:=P) (ev▸FF) kk.keep (fun ø q=>q) fun ø q=>.inl q) JV (.refl _) rfl bx;rw[<-e1,<-e2];exact⟨hid,m,z1,(Ks.iO kk).trans z2,.ub⟩
theorem Go{i:Nat}{g:ao->Option (List V)}:∀ρ r,QA i g ρ=some r->r.2= .none:=fun ρ r hf=>
 ak hf fun y hy hf=>ak hf fun l hl hf=>ak hf fun xs yb hf=>ak hf fun r' hr hf=>eR hf fun hlen e=>e▸rfl
theorem YH:jl P .In Rx:=fun A s hid x y b u v E rm G hh hx hy hf=>Es rm hx hy hf false
theorem Dn.MT{h:Heap}{hid:List Addr}{x:V}{v:Value}(d:Dn P h hid x v)(hs:x.scalar=true):∀a,v≠ .ref a:=by
 intro a e;rw[e]at d;cases x<;>first|(cases hs;done)|(obtain⟨_,q⟩:=d.int_inv;cases q;done)|(obtain⟨_,q⟩:=d.str_inv;cases q;done)|(have q:=d.none_inv;cases q;done)|(have q:=d.bool_inv;cases q;done)|cases d
theorem Bz{e:Expr}{pos:Pos}{f}(h:Sh P n K e f)(hs:∀env,swapsWith e none pos.line env=pure false):zU P n K (.Expr e pos) (fun ρ=>(f ρ).bind fun r=>if r.2.scalar=true then some (r.1,.next)else none):=fun A env out hid m B s ρ aQ fl E r S hf=>by
 refine ak hf fun q hq hf=>eR hf fun WL e=>?_
 obtain⟨e1,e2⟩:=mQ e;obtain⟨am,x⟩:=q;refine wpAny_Expr (aD (h A env out hid m B s ρ am x E r S hq) (fun v s₁ q=>?_) fun ø ø q=>q) ?_ (hs env)
 ·obtain⟨ar,m',S',K',hv⟩:=q
  have nr:=hv.MT WL;have fin:Hi P K env out hid B s s₁ aQ fl .next:=e1▸e2▸⟨ar,m',S',K',rfl⟩
  cases v with
  |ref a=>exact absurd rfl (nr a)
  |_=>exact fin
 ·unfold interactive;rw[S.fn];rfl
end
noncomputable def kF:Cx:={vars:=[(Hg,.local,false),(Lu,.local,false),(OD,.cell,false),(⟨#[98,97,115,101,115]⟩,.cell,false),(⟨#[117,110,115,101,101,110]⟩,.local,false),(⟨#[115,105,103,110,115]⟩,.local,true)],aV:=[R9,wd,wj,Rs]}
noncomputable def rY:Cx:={vars:=[(WA,.local,false),(⟨#[98,97,115,101,115]⟩,.cell,false),(OD,.cell,false)],aV:=[Rs,WB]}
noncomputable def fT{P:Pk}{n:Nat}(iH:P.glob R9=some (.type "list"))(aX:P.glob wd=some (.type "range"))(cA:P.glob wj=some (.builtin "len"))(m7:P.glob Rs=some (.builtin "chr"))(vt:P.glob WB=some (.builtin "ord")):{f:ao->Option (ao×Fl)//ow P n kF (dW (aO pq.main.body 63)) f}:=⟨_,(@af _ _ _ _ _ _ _ (@aI _ _ _ 3 _ _ _ _ _ _ rfl (by decide) (@cQ _ _ _ _ _ _ _ (@aa _ _ _ _ _ _ _ _ ae (@aa _ _ _ _ _ _ _ _ ae (@aa _ _ _ _ _ _ _ _ ae (@aa _ _ _ _ _ _ _ _ ae (@aa _ _ _ _ _ _ _ _ ae (@aa _ _ _ _ _ _ _ _ ae (@aa _ _ _ _ _ _ _ _ ae (@aa _ _ _ _ _ _ _ _ ae (@aa _ _ _ _ _ _ _ _ ae (@aa _ _ _ _ _ _ _ _ ae (aa ae (aa ae ag ir) ir) ir) ir) ir) ir) ir) ir) ir) ir) ir) ir) (by decide) (@ah _ _ _ (@ah _ _ _ (@ah _ _ _ (@ah _ _ _ (@ah _ _ _ (@ah _ _ _ (@ah _ _ _ (@ah _ _ _ (@ah _ _ _ (ah (ah (ah len0))))))))))))) cz) (@af _ _ _ _ _ _ _ (@aI _ _ _ 4 _ _ _ _ _ _ rfl (by decide) (@al _ _ _ _ _ _ _ _ _ _ _ cm (@cQ _ _ _ _ _ _ _ (@aa _ _ _ _ _ _ _ _ ae (@aa _ _ _ _ _ _ _ _ ae (@aa _ _ _ _ _ _ _ _ ae (@aa _ _ _ _ _ _ _ _ ae (@aa _ _ _ _ _ _ _ _ ae (@aa _ _ _ _ _ _ _ _ ae (@aa _ _ _ _ _ _ _ _ ae (@aa _ _ _ _ _ _ _ _ ae (@aa _ _ _ _ _ _ _ _ ae (aa ae (aa ae ag ir) ir) ir) ir) ir) ir) ir) ir) ir) ir) ir) (by decide) (@ah _ _ _ (@ah _ _ _ (@ah _ _ _ (@ah _ _ _ (@ah _ _ _ (@ah _ _ _ (@ah _ _ _ (@ah _ _ _ (ah (ah (ah len0)))))))))))) (@fQ _ _ _ _ _ _ (@sN _ _ _ _ _ _ _ _ _ rfl aX rfl iH (aa ae (aa ae ag ir) ir) ir ir))) cz) (@af _ _ _ _ _ _ _ (@gP _ _ _ (rY) 5 _ _ _ _ _ _ _ _ _ _ _ _ _ _ (1) ([3,2]) rfl (dH (ab 0 rfl rfl rfl)) (cu (by decide+kernel)) (aB 0 rfl (by decide) (by decide)) e6 (@jb _ _ _ _ _ _ _ _ _ _ _ (vp Hv Hv (aC rfl) (ac (ab 0 rfl rfl rfl)) (aC rfl) rfl) (@aJ _ _ _ _ _ _ _ _ _ _ _ rfl m7 rfl EE (@aa _ _ _ _ _ _ _ _ (@al _ _ _ _ _ _ _ _ _ _ _ Er (@al _ _ _ _ _ _ _ _ _ _ _ cm (@aF _ _ _ _ _ _ _ _ _ (ab 1 rfl rfl rfl) (@al _ _ _ _ _ _ _ _ _ _ _ jo (al nK (ac (ab 2 rfl rfl rfl)) ae) ae) cz) (aJ rfl vt rfl HU (aa (ab 0 rfl rfl rfl) ag ir) ir (ca _ _))) ae) ag ir) ir (ca _ _)) (ab 0 rfl rfl rfl)) cz rfl rfl) (@af _ _ _ _ _ _ _ (@aN _ _ _ _ _ _ _ _ _ _ (@sh.all _ _ _ _ _ _ (@E9.cons _ _ _ _ _ _ _ (@ay _ _ _ _ _ _ _ _ _ _ Sf (@aJ _ _ _ _ _ _ _ _ _ _ _ rfl cA rfl ju (aa (ac (ab 0 rfl rfl rfl)) ag ir) ir (ca _ _)) ae rfl) (@E9.cons _ _ _ _ _ _ _ (@ja _ _ _ _ _ (ij (ac (ab 0 rfl rfl rfl)) DB ag ir (by decide) rfl ir) cz) (@E9.cons _ _ _ _ _ _ _ (@ay _ _ _ _ _ _ _ _ _ _ fk (@al _ _ _ _ _ _ _ _ _ _ _ jo (al nK (ac (ab 2 rfl rfl rfl)) ae) ae) ae rfl) E9.nil)))) (@af _ _ _ _ _ _ _ (@fV _ _ _ 5 _ _ _ _ _ _ rfl (by decide) (@fq _ _ _ _ _ _ (@aa _ _ _ _ _ _ _ _ (@aJ _ _ _ _ _ _ _ _ _ _ _ rfl m7 rfl EE (@aa _ _ _ _ _ _ _ _ (@al _ _ _ _ _ _ _ _ _ _ _ cm ae (al jo (al nK (ab 1 rfl rfl rfl) ae) ae)) ag ir) ir (ca _ _)) ag ir) (by decide) (ah len0)) cz) ai) ai) (@af _ _ _ _ _ _ _ (@aN _ _ _ _ _ _ _ _ _ _ (@ay _ _ _ _ _ _ _ _ _ _ wk (@al _ _ _ _ _ _ _ _ _ _ _ jo (al nK (ac (ab 2 rfl rfl rfl)) ae) ae) ae rfl) (@af _ _ _ _ _ _ _ (@eG _ _ _ _ _ _ (@eF _ _ _ 5 _ _ _ _ _ _ _ _ _ rfl rfl rfl Sl (@aa _ _ _ _ _ _ _ _ ae (@aa _ _ _ _ _ _ _ _ (@aJ _ _ _ _ _ _ _ _ _ _ _ rfl m7 rfl EE (@aa _ _ _ _ _ _ _ _ (@aF _ _ _ _ _ _ _ _ _ (ab 4 rfl rfl rfl) (@al _ _ _ _ _ _ _ _ _ _ _ jo (al nK (ac (ab 2 rfl rfl rfl)) ae) ae) cz) ag ir) ir (ca _ _)) ag ir) ir) ir (by decide) rfl ir) Jr ir) ai) ai) (@af _ _ _ _ _ _ _ (@aW _ _ _ _ _ _ (ij (aC rfl) EJ (aa (dc 5 rfl rfl rfl) ag ir) ir (by decide) rfl ir)) ai))))))⟩
noncomputable def gT:List Int:=[97,65,119808,119860,119912,120016,120172,120224,120276,120328,120380,120432]
noncomputable def fY:List Int:=[172,174,846,848,6149,6151,6154,6158,8202,8206,8287,8289,65023,65040,65278,65280]
noncomputable def gV:List Int:=[173,847,6150,6155,6156,6157,8203,8204,8205,8288,65279]++(List.range 16).map fun(i:Nat)=>(65024+i:Int)
noncomputable def qu:List (List Nat):=[[102,102],[102,105],[102,108],[102,102,105],[102,102,108],[115,116],[115,116]]
theorem Fa{c:Int}(h0:0<=c)(h1:c<200000):FS [.int c]=some (.str [c.toNat]):=by
 rw[O5];rw[aw (by omega)]
noncomputable def n7:List Nat:=[40,41,34,92,43,45,42,47,124,38,60,62,61,46,37,126,94,64,44,58,59,33]
structure CM where
 f:Nat->List Nat
 base:∀b∈gT,∀i:Nat,i<26->f (b.toNat+i)=[97+i]
 edge:∀e∈fY,f e.toNat=[e.toNat]
 unseen:∀u∈gV,f u.toNat=[]
 sign:∀c∈n7,f c=[c]
 lig:∀j:Nat,j<7->f (64256+j)=qu[j]?.getD []
noncomputable def MU(c:Nat):Bool:=c != 92&&c != 34&&c != 40&&c != 41&&decide ((mh [c]).length<10)
noncomputable def aH(w:Nat)(total:Int):List Nat:=if w=0 then [(97+total % 26).toNat]else if w=1 then [(97+total % 26).toNat,(fY[(total/26 % 16).toNat]?.getD 0).toNat]else qu[(total/416 % 7).toNat]?.getD []
structure bV(M:CM)(N l:List Nat):Prop where
 ne:l≠[]
 len:l.length<=4
 ok:l.all MU=true
 map:(l.map M.f).flatten=N
theorem MV:(gT.all fun b=>(List.range 26).all fun i=>MU (b.toNat+i))=true:=by decide+kernel
theorem MW:(fY.all fun b=>MU b.toNat)=true:=by decide+kernel
theorem Gp:(gV.all fun b=>MU b.toNat)=true:=by decide+kernel
theorem QC:((List.range 7).all fun b=>MU (64256+b))=true:=by decide+kernel
theorem DF:((gT++fY++gV).all fun b=>decide (0<=b)&&decide (b<130000))=true:=by decide+kernel
noncomputable abbrev Og(l:List Nat):V:=.list (l.map fun c=>.str [c])
theorem vu{l:List Nat}(h:l.length<=4):EH (.str []) [Og l]=some (.str l):=by
 have e:(l.map fun c=>V.str [c])=(l.map fun c=>[c]).map .str:=by rw[iL];rfl
 have e2:∀l:List Nat,(l.map fun c=>[c]).flatten=l:=fun l=>by
  induction l with
  |nil=>rfl
  |cons x l ih=>rw[bB,eQ,ih];rfl
 rw[Og,e,EI,rV,eA,aw (joinOk_of [] _ (by rw[e2,gy,pp];exact az h (by decide))),rU,e2]
theorem MX(a u:Nat){r:List Nat}(h:(a::r).length<=4):LC (Og (a::r)) [.int 1,.str [u]]=some (Og (a::u::r),.none):=by
 have e:min (1:Int).toNat ((a::r).map fun c=>V.str [c]).length=1:=xX (by rw[bB,cr];exact eW (eK _));rw[Og,OU,aw ⟨by decide,by decide,by rw[List.length_map];exact eV h (by decide)⟩,e];rfl
theorem bV.ins{M:CM}{N:List Nat}{a:Nat}{r:List Nat}(h:bV M N (a::r))(h3:(a::r).length<=3){u:Int}(hu:u∈gV):bV M N (a::u.toNat::r):=by
 obtain⟨_,_,ok,map⟩:=h;refine⟨ca _ _,eW h3,?_,?_⟩
 ·rw[hO]at ok ⊢
  rw[hO,cH.mp Gp u hu];exact ok
 ·rw[bB,bB,M.unseen u hu]
  exact map
theorem zt{b:Int}(h:b∈gT++fY++gV){i:Int}(h0:0<=i)(h1:i<26):FS [.int (b+i)]=some (.str [(b+i).toNat])/\(b+i).toNat=b.toNat+i.toNat:=by
 obtain⟨h2,h3⟩:=(bX _ _).mp (cH.mp DF b h);have h2:=cV h2;have h3:=cV h3;exact⟨Fa (Int.add_nonneg h2 h0) (by omega),Int.toNat_add h2 h0⟩
theorem MY{b:Int}(hb:b∈gT){i:Nat}(hi:i<26):MU (b.toNat+i)=true:=cH.mp (cH.mp MV b hb) i (ec.mpr hi)
theorem Fb:(qu.all fun l=>decide (l≠[])&&decide (l.length<=3)&&l.all fun c=>decide (97<=c)&&decide (c<123))=true:=by decide+kernel
theorem Gq{P:Pk}{n:Nat}{g1}{total:Int}{ρ:ao}(h0:ρ 0=some (.int total)):
  Ends (iw (P:=P) (n:=n) g1).1 ρ (.list [.str (aH 0 total),.str (aH 1 total),.str (aH 2 total)]):=by
 obtain⟨e,he,YI,hite⟩:=int_at (xs:=fY) (i:=total/26 % 16) (by omega) (show _<(16:Int) by omega) (by decide);have hce:=zt (b:=e) (i:=0) (cP _ (ck _ he)) (by decide) (by decide);rw[Int.add_zero]at hce;obtain⟨a,ha,RR⟩:∃a:Nat,a<26/\total % 26=a:=⟨(total % 26).toNat,by omega,by omega⟩;obtain⟨j,hj,DG⟩:∃j:Nat,j<7/\total/416 % 7=j:=⟨(total/416 % 7).toNat,by omega,by omega⟩;obtain⟨lg,Oh⟩:=get_mem (l:=qu) hj;have Li:iP (.str ((List.range 26).map (97+ ·))) (.int (total % 26))=some (.str [97+a]):=by
  rw[RR,EC,aw (by rw[List.length_map,eM];decide),List.length_map,eM,te ha,eA,dh,Ct ha];rfl
 have e0:aH 0 total=[97+a]:=by rw[aH,aw rfl,RR];exact congrArg (fun z=>[z]) (by omega)
 have e1:aH 1 total=[97+a]++[e.toNat]:=by rw[aH,au (by decide),aw rfl,YI,RR];exact congrArg (fun z=>[z,e.toNat]) (by omega)
 have e2:aH 2 total=lg:=by rw[aH,au (by decide),au (by decide),DG,lT,Oh];rfl
 unfold iw;dsimp only;rw[e0,e1,e2];refine ex1 ρ h0 fun σ=>dk (v:=_) (x:=.list (fY.map .int)) (by exact rfl) (dk (bF (x:=.str ((List.range 26).map (97+ ·))) rfl (md rfl rfl) Li) (df (cB (ap rfl (ap (bT rfl (bY (bF rfl (md (dv rfl rfl) rfl) hite) hce.1) (ft _ _ (show 2<=most by decide))) (ap (bF (x:=.list (qu.map .str)) rfl (md (dv rfl rfl) rfl) ?_) rfl))) rfl)))
 rw[DG];exact iu (by rw[dh,Oh];rfl) (by decide)
structure DH(N:List Nat):Prop where
 ne:N≠[]
 len:N.length<=3
 sg:∀c∈N,(97<=c/\c-97<26)\/(¬(97<=c/\c<=122)/\∃e∈fY,c=e.toNat)
theorem JX:(fY.all fun e=>decide (172<=e)&&decide (e<130000))=true:=by decide+kernel
theorem BA{e:Int}(h:e∈fY):172<=e.toNat:=by
 have:=cV ((bX _ _).mp (cH.mp JX e h)).1;omega
theorem iY{w:Nat}(hw:w<3)(total:Int):DH (aH w total)/\(w=1->∃c∈aH w total,128<=c)/\(w=0->(aH w total).length=1):=by
 obtain⟨a,ha,RR⟩:∃a:Nat,a<26/\(97+total % 26).toNat=97+a:=⟨(total % 26).toNat,by omega,by omega⟩;obtain⟨e,he,YI,_⟩:=int_at (xs:=fY) (i:=total/26 % 16) (by omega) (show _<(16:Int) by omega) (by decide);obtain⟨j,hj,DG⟩:∃j:Nat,j<7/\total/416 % 7=j:=⟨(total/416 % 7).toNat,by omega,by omega⟩;obtain⟨lg,Oh⟩:=get_mem (l:=qu) hj;have hb:=BA he
 match w,hw with
 |0,_=>
  rw[aH,aw rfl,RR];exact⟨⟨ca _ _,(by decide:1<=3),fun c hc=>.inl (by rw[cq.mp hc];omega)⟩,nofun,fun ø=>rfl⟩
 |1,_=>
  rw[aH,au (by decide),aw rfl,RR,YI];refine⟨⟨ca _ _,(by decide:2<=3),fun c hc=>?_⟩,fun ø=>⟨e.toNat,.tail _ (.head _),az (by decide) hb⟩,nofun⟩;rcases bI.mp hc with rfl|hc
  ·exact .inl (by omega)
  ·rw[cq.mp hc]
   exact .inr ⟨fun z=>gv _ (fw (eV z.2 (by decide:122<172)) hb),e,he,rfl⟩
 |2,_=>
  rw[aH,au (by decide),au (by decide),DG,lT,Oh];have hl:=cH.mp Fb lg (kb Oh);obtain⟨l7,Ys⟩:=(bX _ _).mp hl;obtain⟨CW,Gr⟩:=(bX _ _).mp l7;refine⟨⟨cV CW,cV Gr,fun c hc=>.inl ?_⟩,nofun,nofun⟩;obtain⟨h1,h2⟩:=(bX _ _).mp (cH.mp Ys c hc);have h1:=cV h1;have h2:=cV h2;omega
noncomputable def JY(b:Int)(c:Nat):Nat:=if 97<=c/\c<=122 then b.toNat+(c-97)else c
theorem DI{M:CM}{N:List Nat}{b:Int}(hb:b∈gT)(h:DH N):bV M N (N.map (JY b)):=by
 have key:∀c∈N,MU (JY b c)=true/\M.f (JY b c)=[c]:=fun c hc=>by
  rcases h.sg c hc with q|⟨q,e,he,rfl⟩
  ·rw[JY,aw (by omega)]
   exact⟨MY hb q.2,(M.base b hb _ q.2).trans (by rw[re q.1])⟩
  ·rw[JY,au q]
   exact⟨cH.mp MW e he,M.edge e he⟩
 refine⟨fun z=>h.ne (CI.mp z),by rw[List.length_map];exact dZ h.len,cH.mpr fun c hc=>?_,?_⟩
 ·obtain⟨z,hz,rfl⟩:=dt.mp hc
  exact(key z hz).1
 ·rw[iL]
  have go:∀l:List Nat,(∀c∈l,M.f (JY b c)=[c])->(l.map (M.f∘JY b)).flatten=l:=fun l=>by
   induction l with
   |nil=>exact fun ø=>rfl
   |cons c l ih=>
    intro hl;rw[bB,eQ,ih fun x hx=>hl x (.tail _ hx),Function.comp_apply,hl c (.head _)];rfl
  exact go N fun c hc=>(key c hc).2
theorem JZ{M:CM}{total:Int}{j:Nat}(hj:j<7)(e:total/416 % 7=j):bV M (aH 2 total) [64256+j]:=by
 refine⟨ca _ _,(show 1<=4 by decide),by rw[hO,cH.mp QC j (ec.mpr hj)];rfl,?_⟩;rw[aH,au (by decide),au (by decide),e,bB,M.lig j hj,po,gK,lT]
inductive YJ(M:CM)(N:List Nat)(draw:Int)(ρ:ao):Prop
 |mk (l:List Nat) (h2:ρ 2=some (.int draw)) (h4:ρ 4=some (.list (gV.map .int))) (h5:ρ 5=some (Og l)) (h3:l.length<=3) (hg:bV M N l)
theorem zu(a b:Nat):Vp (.str [a]) (.str [b])=some (decide (a<=b)):=by
 show some (!decide ([b]<[a]))=_;refine congrArg some ?_;have:([b]<[a])<->b<a:=by
  refine⟨fun h=>?_,fun h=>.rel h⟩
  cases h with
  |rel h=>exact h
  |cons h=>cases h
 rw[lH,Bool.not_eq_true',tu,nz,this];exact g8
theorem BB{P:Pk}{n:Nat}{g1 g2 g3 g4 g5}{M:CM}{w:Nat}(hw:w<3){total draw:Int}(hd:0<=draw){ρ:ao}(h0:ρ 0=some (.str (aH w total)))(h1:ρ 1=some (.int total))(h2:ρ 2=some (.int draw)):
  rS (fT (P:=P) (n:=n) g1 g2 g3 g4 g5).1 ρ fun v=>∃l,bV M (aH w total) l/\v= .str l:=by
 obtain⟨b,hb,_,hitb⟩:=int_at (xs:=gT) (i:=draw/7 % 12) (by omega) (show _<(12:Int) by omega) (by decide);obtain⟨u,hu,_,hitu⟩:=int_at (xs:=gV) (i:=draw/84 % 27) (by omega) (show _<(27:Int) by omega) (by decide);have hmb:b∈gT++fY++gV:=cP _ (cP _ hb);have hcu:=zt (b:=u) (i:=0) (ck _ hu) (by decide) (by decide);rw[Int.add_zero]at hcu;obtain⟨j,hj,DG⟩:∃j:Nat,j<7/\total/416 % 7=j:=⟨(total/416 % 7).toNat,by omega,by omega⟩;obtain⟨hN,hN1,hN0⟩:=iY hw total;have hNm:(aH w total).length<=most:=az hN.len (by decide);unfold fT;dsimp only;refine ex3 ρ h0 h1 h2 fun σ=>?_
 refine jG (v:=.list (gT.map .int)) (by exact rfl) (jG (v:=.list (gV.map .int)) (by exact rfl) (jG (v:=Og ((aH w total).map (JY b))) ?_ (sx (YJ M (aH w total) draw) ?_ fun am hR=>?_)))
 ·rw[Og,iL]
  refine gn (fun ρ=>ρ 1=some (.list (gT.map .int))/\ρ 2=some (.int draw)) (aH w total) (fun c=>.str [c]) ((fun c=>V.str [c])∘JY b) (cN rfl rfl) (eV hN.len (by decide)) (fun c hc ρ hI=>ex2 ρ hI.1 hI.2 fun σ=>⟨_,rfl,⟨rfl,rfl⟩,?_⟩) ⟨rfl,rfl⟩;rw[Function.comp_apply];by_cases q:97<=c/\c<=122
  ·have hz:b+(c:Int)-97=b+((c-97:Nat):Int):=by omega
   obtain⟨c2,c3⟩:=zt (i:=((c-97:Nat):Int)) hmb (by omega) (by omega);rw[c3,lT]at c2;rw[JY,aw q];exact ni (cN rfl (cN rfl (cN (zu 97 c) ((aw (bo q.1)).trans (cN rfl ((zu c 122).trans (congrArg some (bo q.2)))))))) (bY (bT (ad (bF rfl (md (dv rfl rfl) rfl) hitb) (bY rfl rfl)) rfl rfl) (Eq.trans (congrArg (fun z=>FS [.int z]) hz) c2))
  ·rw[JY,au q]
   refine iq (cN rfl (cN rfl (cN (zu 97 c) ?_))) rfl;by_cases q1:97<=c
   ·exact(aw (bo q1)).trans (cN rfl ((zu c 122).trans (congrArg some (db fun z=>q ⟨q1,z⟩))))
   ·exact au fun z=>q1 (cV z)
 ·have hc:∀aQ:ao,aQ 0=some (.str (aH w total))->aQ 2=some (.int draw)->(ou (eU WM (jm un (cW (fun ρ=>ρ 0) fun x=>some [])) fun x=>some (V.int 1)) (ou (fun ρ=>(RC vq (fun ρ=>ρ 0) (fun x=>some []) ρ).bind px) (ou (eU np (iW CP (iW Lv (fun ρ=>ρ 2) fun x=>some (V.int 2268)) fun x=>some (V.int 2)) fun x=>some (V.int 1)) fun x=>some true)) aQ)=some (decide (1<((aH w total).length:Int))&&((aH w total).all (· <128)&&(decide (draw/2268 % 2=1)&&true))):=fun aQ z0 z2=>
   gC (aG (bY z0 (mw _ hNm)) rfl rfl) (gC (cN (JD z0 rfl rfl) rfl) (gC (aG (md (dv z2 rfl) rfl) rfl (bU _ _)) rfl))
  cases hq:decide (1<((aH w total).length:Int))&&((aH w total).all (· <128)&&(decide (draw/2268 % 2=1)&&true))with
  |true=>
   have hw2:w=2:=by
    simp only[bX,mS]at hq;obtain⟨q1,q2,_⟩:=hq
    match w,hw with
    |0,_=>rw[hN0 rfl]at q1;omega
    |1,_=>
     obtain⟨c,hc,RS⟩:=hN1 rfl;have:=cH.mp q2 c hc;have:=cV this;omega
    |2,_=>rfl
   subst hw2;exact⟨_,ni ((hc _ rfl rfl).trans (congrArg some hq)) (mx (cB (ap (bY (ad rfl (md (dv rfl rfl) rfl)) (Eq.trans (congrArg (fun z=>FS [.int (64256+z)]) DG) (Fa (c:=((64256+j:Nat):Int)) (by omega) (by omega)))) rfl) rfl) rfl),rfl,YJ.mk [64256+j] rfl rfl rfl (show 1<=3 by decide) (JZ hj DG)⟩
  |false=>exact⟨_,iq ((hc _ rfl rfl).trans (congrArg some hq)) rfl,rfl,YJ.mk _ rfl rfl rfl (by rw[List.length_map];exact hN.len) (DI hb hN)⟩
 ·obtain⟨l,h2,h4,h5,h3,hg⟩:=hR
  refine ex3 am h2 h4 h5 fun σ=>?_
  by_cases q:draw/4536 % 3=0
  ·exact jF (iq (aG (md (dv rfl rfl) rfl) rfl (RN q)) rfl) (rT (JD rfl rfl (vu hg.len)) ⟨l,hg,rfl⟩)
  ·obtain⟨a,r,rfl⟩:=xE hg.ne
   exact jF (ni (aG (md (dv rfl rfl) rfl) rfl (neT q)) (Gj rfl (ap rfl (ap (bY (bF rfl (md (dv rfl rfl) rfl) hitu) hcu.1) rfl)) (MX a u.toNat hg.len) rfl)) (rT (JD rfl rfl (vu (hg.ins h3 hu).len)) ⟨_,hg.ins h3 hu,rfl⟩)
noncomputable def Ln:List (Int×Str)->Nat->Option (List Nat)
 |[],_=>none
 |p::r,c=>if p.1=(c:Int)then some p.2.cps.toList else Ln r c
theorem QD(c:Nat):Ln [] c=none:=rfl
theorem QE(p:Int×Str)(r:List (Int×Str))(c:Nat):Ln (p::r) c=if p.1=(c:Int)then some p.2.cps.toList else Ln r c:=rfl
theorem BC(c:Nat):∀ps:List (Int×Str),p0 (ps.map (·.1)) ((ps.map fun p=>p.2.cps.toList).map .str) (c:Int)=(Ln ps c).map .str
 |[]=>rfl
 |p::r=>by
  simp only[bB,sX,EA,EB,QD,QE,BC c r];split<;>rfl
noncomputable def J0(c:Nat):List Nat:=if(c:Int)∈Uk then []else(Ln ER c).getD (mh [c])
noncomputable def Gs(b:Int):Bool:=(List.range 26).all fun i=>J0 (b.toNat+i)==[97+i]
theorem YK:Gs 97=true:=by kernel_rfl
theorem YL:Gs 65=true:=by kernel_rfl
theorem YM:Gs 119808=true:=by kernel_rfl
theorem YN:Gs 119860=true:=by kernel_rfl
theorem YO:Gs 119912=true:=by kernel_rfl
theorem YQ:Gs 120016=true:=by kernel_rfl
theorem YR:Gs 120172=true:=by kernel_rfl
theorem YS:Gs 120224=true:=by kernel_rfl
theorem YT:Gs 120276=true:=by kernel_rfl
theorem YU:Gs 120328=true:=by kernel_rfl
theorem Ux:Gs 120380=true:=by kernel_rfl
theorem Uy:Gs 120432=true:=by kernel_rfl
theorem MZ:(gT.all fun b=>(List.range 26).all fun i=>J0 (b.toNat+i)==[97+i])=true:=by
 show(gT.all Gs)=true;rw[gT,hO,YK,iM,hO,YL,iM,hO,YM,iM,hO,YN,iM,hO,YO,iM,hO,YQ,iM,hO,YR,iM,hO,YS,iM,hO,YT,iM,hO,YU,iM,hO,Ux,iM,hO,Uy,iM,List.all_nil]
theorem M0:(fY.all fun e=>J0 e.toNat==[e.toNat])=true:=by kernel_rfl
theorem Gu:(gV.all fun e=>J0 e.toNat==[])=true:=by kernel_rfl
theorem M1:(n7.all fun c=>J0 c==[c])=true:=by kernel_rfl
theorem QF:((List.range 7).all fun j=>J0 (64256+j)==qu[j]?.getD [])=true:=by kernel_rfl
noncomputable def DJ:Cx:={vars:=[(Le,.local,false),(Lu,.local,false),(R6,.local,false),(R7,.local,false),(Rq,.local,false),(OD,.local,false),(Zv,.local,false)],aV:=[K8,He]}
noncomputable def pG{P:Pk}{n:Nat}{gD:Addr}{n8:List V->Option V}(vw:P.glob K8=some (.ref gD))(vx:∀h,P.G h->∃o fd,h.get? gD=some o/\o.data= .func fd)(vy:aZ P n (.ref gD) n8){da:Addr}{gE:List V->Option V}(my:P.glob He=some (.ref da))(mz:∀h,P.G h->∃o fd,h.get? da=some o/\o.data= .func fd)(mB:aZ P n (.ref da) gE):{f:ao->Option (ao×Fl)//ow P n DJ (dW (aO pq.main.body 64)) f}:=⟨_,(@af _ _ _ _ _ _ _ (aI 2 rfl (by decide) (aC rfl) cz) (@af _ _ _ _ _ _ _ (@dB _ _ _ (false) _ _ _ _ _ _ _ (dH (ab 0 rfl rfl rfl)) (@fo _ _ _ _ _ _ _ (@bh _ _ _ _ _ _ _ (aB 3 rfl (by decide) (by decide)) (bh (aB 4 rfl (by decide) (by decide)) (bh (aB 5 rfl (by decide) (by decide)) eH))) (bA (bA (bA fm))) ir) (@af _ _ _ _ _ _ _ (@aI _ _ _ 6 _ _ _ _ _ _ rfl (by decide) (@aF _ _ _ _ _ _ _ _ _ (@cQ _ _ _ _ _ _ _ (@aa _ _ _ _ _ _ _ _ (aC rfl) (@aa _ _ _ _ _ _ _ _ (aC rfl) (@aa _ _ _ _ _ _ _ _ (aC rfl) (@aa _ _ _ _ _ _ _ _ (aC rfl) (@aa _ _ _ _ _ _ _ _ (aC rfl) (aa (aC rfl) (aa (aC rfl) ag ir) ir) ir) ir) ir) ir) ir) (by decide) (@ah _ _ _ (@ah _ _ _ (@ah _ _ _ (@ah _ _ _ (ah (ah (ah len0)))))))) (al jo (ac (ab 5 rfl rfl rfl)) ae) cz) cz) (@af _ _ _ _ _ _ _ (@aN _ _ _ _ _ _ _ _ _ _ (ay fk (ac (ab 3 rfl rfl rfl)) ae rfl) (@af _ _ _ _ _ _ _ (cS 2 rfl (by decide) rfl rfl gR (al cm (ab 6 rfl rfl rfl) (aC rfl))) ai) (@af _ _ _ _ _ _ _ (@aN _ _ _ _ _ _ _ _ _ _ (@gk _ _ _ _ _ _ _ _ (ay wk (ac (ab 2 rfl rfl rfl)) (aC rfl) rfl) (@ay _ _ _ _ _ _ _ _ _ _ wk (@fb _ _ _ _ _ _ _ _ _ _ _ _ _ _ (ac (ab 2 rfl rfl rfl)) (e7 (FV ae)) cF cF) (aC rfl) rfl)) (@af _ _ _ _ _ _ _ (@cS _ _ _ 2 _ _ _ _ _ _ _ _ rfl (by decide) rfl rfl gR (@aF _ _ _ _ _ _ _ _ _ (aC rfl) (@al _ _ _ _ _ _ _ _ _ _ _ jo (al nK (ac (ab 5 rfl rfl rfl)) ae) ae) cz)) ai) ai) (@af _ _ _ _ _ _ _ (@cS _ _ _ 2 _ _ _ _ _ _ _ _ rfl (by decide) rfl rfl gR (@al _ _ _ _ _ _ _ _ _ _ _ cm (@al _ _ _ _ _ _ _ _ _ _ _ cm (ab 6 rfl rfl rfl) (@bM _ _ _ _ _ _ _ _ _ _ _ rfl vw rfl vx vy (@aa _ _ _ _ _ _ _ _ (@aF _ _ _ _ _ _ _ _ _ (bM rfl my rfl mz mB (aa (ab 1 rfl rfl rfl) ag ir) ir (ca _ _)) (ac (ab 4 rfl rfl rfl)) cz) (aa (ab 1 rfl rfl rfl) (aa (ab 5 rfl rfl rfl) ag ir) ir) ir) ir (ca _ _))) (@jb _ _ _ _ _ _ _ _ _ _ _ (ay fk (ac (ab 3 rfl rfl rfl)) ae rfl) (aC rfl) (aC rfl)))) ai))) ai)) cz) (@af _ _ _ _ _ _ _ (aW (ac (ab 2 rfl rfl rfl))) ai)))⟩
noncomputable def sP:List (List (List Nat)):=[[],[[92,40]],[[34],[41],[34]],[[34],[92,34],[41],[34]],[[92,34]],[[92,92]],[[34],[40],[34]]]
noncomputable def Fc:List (List (List Nat)):=[[],[[92,40]],[],[],[[92,34]],[[92,92]],[]]
noncomputable def qv(draw:Int):List (List Nat):=sP[(draw % 7).toNat]?.getD []
noncomputable def pH(draw:Int):List (List Nat):=Fc[(draw % 7).toNat]?.getD []
theorem DK{draw:Int}:iP (.list (sP.map fun u=>V.str u.flatten)) (.int (draw % 7))=some (.str (qv draw).flatten):=by
 obtain⟨j,DG⟩:=qY (Int.emod_nonneg draw (show(7:Int)≠0 by decide));have hj:j<sP.length:=iN.mp (DG▸Int.emod_lt_of_pos draw (by decide));have e:(sP.map fun u=>V.str u.flatten)[j]?=some (.str (qv draw).flatten):=by
  unfold qv;rw[DG,dh];show _=some (V.str (sP[j]?.getD []).flatten);rw[iK hj];rfl
 exact DG▸iu e (by decide)
noncomputable def zv:List Nat:=[43,45,42,47,124,38,60,62,61,46,37,126,94,64,44,58,59,33]
noncomputable def jH(draw:Int):Nat:=zv[(draw/13608 % 18).toNat]?.getD 0
theorem Fd{draw:Int}:iP (.str zv) (.int (draw/13608 % 18))=some (.str [jH draw])/\jH draw∈zv:=by
 obtain⟨j,DG⟩:=qY (Int.emod_nonneg (draw/13608) (show(18:Int)≠0 by decide));have hj:j<zv.length:=iN.mp (DG▸Int.emod_lt_of_pos (draw/13608) (by decide));have e:zv[j]?=some (jH draw):=by
  unfold jH;rw[DG,lT,iK hj];rfl
 refine⟨?_,kb e⟩;rw[DG,EC,aw (by decide),te hj,eA,e];rfl
noncomputable def YV(M:CM)(total:Int)(SP:Nat->Int->List Nat)(F:List V->Option V):Prop:=∀w d,w<3->0<=d->F [.str (aH w total),.int total,.int d]=some (.str (SP w d))/\bV M (aH w total) (SP w d)
noncomputable def Gv(SP:Nat->Int->List Nat)(b:Bool)(e:Item):List (List Nat):=
 if e.1=2 then qv e.2.2++[[41]]else(if b then [[jH e.2.2]]else [])++(qv e.2.2++((SP e.2.1 e.2.2).map (fun c=>[c])++(if e.1=0 then [[40]]else [])))
noncomputable def J1(b:Bool)(its:List Item):Bool:=match its.getLast? with
 |none=>b
 |some e=>e.1 != 0
noncomputable def eC(SP:Nat->Int->List Nat):Bool->List Item->List (List Nat)
 |_,[]=>[]
 |b,e::r=>Gv SP b e++eC SP (e.1 != 0) r
theorem vz(SP:Nat->Int->List Nat)(b:Bool):eC SP b []=[]:=rfl
theorem lx(SP:Nat->Int->List Nat)(b:Bool)(e:Item)(r:List Item):eC SP b (e::r)=Gv SP b e++eC SP (e.1 != 0) r:=rfl
theorem vA(SP:Nat->Int->List Nat):∀(l:List Item) (b:Bool) (e:Item),eC SP b (l++[e])=eC SP b l++Gv SP (J1 b l) e
 |[],b,e=>by rw[gh,lx,vz,vz,ea,gh];rfl
 |x::l,b,e=>by
  rw[List.cons_append,lx,vA SP l _ e,lx,List.append_assoc];have:J1 (x.1 != 0) l=J1 b (x::l):=by
   cases l with
   |nil=>rfl
   |cons y l=>unfold J1;rw[List.getLast?_cons_cons];cases h:(y::l).getLast?<;>simp at h ⊢
  rw[this]
theorem J2(b:Bool)(l:List Item)(e:Item):J1 b (l++[e])=(e.1 != 0):=by
 unfold J1;rw[List.getLast?_concat]
theorem BD:∀l:List Nat,(l.map fun c=>[c]).flatten=l
 |[]=>rfl
 |x::l=>by rw[bB,eQ,BD l];rfl
theorem lt7{P:Nat->Prop}(h0:P 0)(h1:P 1)(h2:P 2)(h3:P 3)(h4:P 4)(h5:P 5)(h6:P 6):∀j,j<7->P j
 |0,_=>h0
 |1,_=>h1
 |2,_=>h2
 |3,_=>h3
 |4,_=>h4
 |5,_=>h5
 |6,_=>h6
 |n+7,h=>absurd h (g8.mpr (tV 7 n))
theorem Oi(draw:Int):(draw % 7).toNat<7:=by omega
theorem kG(draw:Int):(∀u∈qv draw,wy u=true)/\(∀u∈pH draw,wy u=true/\u.length=2)/\(qv draw).flatten.length<=5/\(pH draw).length<=1/\(qv draw).length<=4:=
 (by decide:∀j,j<7->(∀u∈sP[j]?.getD [],wy u=true)/\(∀u∈Fc[j]?.getD [],wy u=true/\u.length=2)/\(sP[j]?.getD []).flatten.length<=5/\(Fc[j]?.getD []).length<=1/\(sP[j]?.getD []).length<=4) _ (Oi draw)
theorem M2{SP:Nat->Int->List Nat}{M:CM}{N:List Nat}{b:Bool}{e:Item}(h:bV M N (SP e.2.1 e.2.2)):(Gv SP b e).flatten.length<=11/\(Gv SP b e).length<=11:=by
 have h1:=(kG e.2.2).2.2;have h2:=h.len;unfold Gv;split
 ·rw[bR,aY,aY]
  simp only[gK,cr,gy];omega
 ·simp only[bR,aY,BD,List.length_map]
  have e1:(if b=true then [[jH e.2.2]]else []).flatten.length<=1/\(if b=true then [[jH e.2.2]]else []).length<=1:=by split<;>exact⟨cV rfl,cV rfl⟩
  have e2:(if e.1=0 then [[40]]else([]:List (List Nat))).flatten.length<=1/\(if e.1=0 then [[40]]else([]:List (List Nat))).length<=1:=by split<;>exact⟨by decide,by decide⟩
  omega
theorem rZ{SP:Nat->Int->List Nat}{M:CM}{total:Int}:∀{its:List Item} {b:Bool},(∀e∈its,bV M (aH e.2.1 total) (SP e.2.1 e.2.2))->(eC SP b its).flatten.length<=11*its.length/\(eC SP b its).length<=11*its.length
 |[],b,_=>⟨bL _,bL _⟩
 |e::r,b,h=>by
  have h1:=M2 (b:=b) (h e (.head _));have h2:=rZ (its:=r) (b:=e.1 != 0) fun x hx=>h x (.tail _ hx)
  rw[lx,bR,aY,aY,cr];omega
noncomputable def Uz(t:List Nat):Bool:=!(t==[])&&!(t.drop (t.length-1)==[40])
theorem Gw(t:List Nat)(x:Nat):(t++[x]).drop ((t++[x]).length-1)=[x]:=by
 rw[aY];show(t++[x]).drop (t.length+1-1)=_;rw[Nat.add_sub_cancel,List.drop_left]
theorem vB(t:List Nat)(x:Nat):Uz (t++[x])=(x != 40):=by
 unfold Uz;rw[Gw];have e1:(t++[x]==[])=false:=by cases t<;>rfl
 rw[e1];show(true&&!([x]==[40]))=_;rw[iM];by_cases q:x=40
 ·subst q;rfl
 ·have a1:([x]==[40])=false:=kQ.mpr fun e=>q (tW e).1
  have a2:(x==40)=false:=kQ.mpr q;rw[a1];show true=!(x==40);rw[a2];rfl
theorem QG{SP:Nat->Int->List Nat}{M:CM}{N:List Nat}{b:Bool}{e:Item}(h:bV M N (SP e.2.1 e.2.2))(t:List Nat):Uz (t++(Gv SP b e).flatten)=(e.1 != 0):=by
 unfold Gv;split
 ·rename_i q
  rw[bR,<-List.append_assoc,gK,vB,q];rfl
 ·rename_i q
  by_cases q0:e.1=0
  ·rw[aw q0,bR,bR,bR,<-List.append_assoc,<-List.append_assoc,<-List.append_assoc,gK,vB,q0];rfl
  ·rw[au q0,ea,bR,bR,BD]
   have hs:=h.ne;rw[<-List.dropLast_concat_getLast hs,<-List.append_assoc,<-List.append_assoc,<-List.append_assoc,vB];have hk:=cH.mp h.ok _ (List.getLast_mem hs);simp only[MU,bX]at hk;rw[hk.1.1.2];exact(oS.mpr q0).symm
theorem Gx(l:List Nat)(h:l.length<=most):ku (.str l) (some (-1)) none none=some (.str (l.drop (l.length-1))):=by
 rw[uk,aw h,vj];have e:clip (some (-1)) 0 l.length=l.length-1:=by
  show(max 0 (min (if(-1:Int)<0 then-1+(l.length:Int)else-1) l.length)).toNat=_;rw[aw (by decide)];generalize l.length=n
  cases n with
  |zero=>rfl
  |succ n=>
   rw[show(-1:Int)+((n+1:Nat):Int)=(n:Int)from(Int.add_comm _ _).trans (Int.add_neg_cancel_right (n:Int) 1),Int.min_eq_left (jU.mpr (jT n)),tM (mW n)];rfl
 rw[e];exact congrArg (fun z=>some (V.str z)) (qU (jj nG))
theorem J3{P:Pk}{n:Nat}{a1 F1 g1 h1 c1 a2 F2 g2 h2 c2}{M:CM}{SP:Nat->Int->List Nat}{total:Int}{its:List Item}(hg:j0 its)(uA:YV M total SP F1)(NX:F2 [.int total]=some (.list [.str (aH 0 total),.str (aH 1 total),.str (aH 2 total)])){ρ:ao}(h0:ρ 0=some (.list (its.map Hl)))(Hn:ρ 1=some (.int total)):
  Ends (pG (P:=P) (n:=n) (gD:=a1) (n8:=F1) g1 h1 c1 (da:=a2) (gE:=F2) g2 h2 c2).1 ρ (.str (eC SP false its).flatten):=by
 have hgn:∀e∈its,bV M (aH e.2.1 total) (SP e.2.1 e.2.2):=fun e he=>(uA e.2.1 e.2.2 (hg.ok e he).2.1 (hg.ok e he).2.2.1).2
 unfold pG;dsimp only;refine bw rfl (eB (fun ρ=>(ρ 1=some (.int total)/\ρ 2=some (.str (eC SP false its).flatten))/\Uz (eC SP false its).flatten=J1 false its) (eT (cN (f:=elems) h0 rfl) (qs Hl its (fun l ρ=>(ρ 1=some (.int total)/\ρ 2=some (.str (eC SP false l).flatten))/\Uz (eC SP false l).flatten=J1 false l) (fun l u l' ρ hx hR=>?_) ⟨⟨Hn,rfl⟩,rfl⟩)) fun am hR=>df hR.1.2);have hu:u∈its:=hx▸ck _ gJ;have UA:l.length<its.length:=by rw[<-hx,aY];exact tP (g9 _)
 have DA:∀e∈l,e∈its:=fun e he=>hx▸cP _ he
 have hlen:=(rZ (b:=false) fun e he=>hgn e (DA e he)).1;have M3:l.length<=10:=tX (fw UA hg.len);have ht:(eC SP false l).flatten.length<=110:=az hlen (jk 11 M3);have Cl:=hg.ok u hu;obtain⟨hF,hGN⟩:=uA u.2.1 u.2.2 Cl.2.1 Cl.2.2.1;have Oj:=(kG u.2.2).2.2.1;have RT:=hGN.len;obtain⟨⟨g1',g2'⟩,hd⟩:=hR;have YW:=QG (b:=J1 false l) hGN (eC SP false l).flatten;have hsn:(eC SP false (l++[u])).flatten=(eC SP false l).flatten++(Gv SP (J1 false l) u).flatten:=by rw[vA,bR]
 rw[hsn,YW,J2];have Lm:iP (.list [.str (aH 0 total),.str (aH 1 total),.str (aH 2 total)]) (.int u.2.1)=some (.str (aH u.2.1 total)):=iu (by
  match u.2.1,Cl.2.1 with
  |0,_=>rfl
  |1,_=>rfl
  |2,_=>rfl) (show 3<=most by decide)
 have EK:most=1000000:=rfl;obtain⟨op1,op2⟩:=Fd (draw:=u.2.2);generalize(eC SP false l).flatten=t at*;generalize J1 false l=b at*;refine ex2 ρ g1' g2' fun σ=>⟨_,rfl,?_⟩
 unfold Gv;by_cases q2:u.1=2
 ·rw[aw q2]
  refine⟨_,mx (bF (x:=.list (sP.map fun u=>V.str u.flatten)) rfl (md rfl rfl) DK) (cf (ni (aG rfl rfl ((bU _ _).trans (congrArg some (bo (by rw[q2];rfl))))) (oC rfl (bT rfl rfl (ft _ _ (az (jS Oj 1) (by decide)))) (ff _ _ ?_) rfl)) rfl),rfl,⟨rfl,?_⟩,rfl⟩
  ·rw[aY];exact az (kU ht (jS Oj 1)) (by decide)
  ·exact congrArg (fun z=>some (V.str z)) (by rw[bR,gK])
 ·rw[au q2]
  have ab2:CO (eU np (fun ρ=>ρ 3) fun x=>some (V.int 0)) (fun x=>some (V.str [40])) (fun x=>some (V.str []))=CO (eU np (fun ρ=>ρ 3) fun x=>some (V.int 0)) (fun x=>some (V.str [40])) (fun x=>some (V.str [])):=rfl;have hp:∀aQ:ao,aQ 3=some (.int u.1)->CO (eU np (fun ρ=>ρ 3) fun x=>some (V.int 0)) (fun x=>some (V.str [40])) (fun x=>some (V.str [])) aQ=some (.str (if u.1=0 then [[40]]else([]:List (List Nat))).flatten):=fun aQ h3=>by
   by_cases q:u.1=0
   ·rw[aw q];exact ni (aG h3 rfl ((bU _ _).trans (congrArg some (bo (by rw[q];rfl))))) rfl
   ·rw[au q];exact iq (aG h3 rfl ((bU _ _).trans (congrArg some (db (by omega))))) rfl
  have Af:(if u.1=0 then [[40]]else([]:List (List Nat))).flatten.length<=1:=by split<;>decide
  have c2:∀aQ:ao,aQ 3=some (.int u.1)->eU np (fun ρ=>ρ 3) (fun x=>some (V.int 2)) aQ=some false:=fun aQ h3=>aG h3 rfl ((bU _ _).trans (congrArg some (db (by omega))))
  have BE:∀aQ:ao,aQ 2=some (.str t)->ou (eU Hh (fun ρ=>ρ 2) fun x=>some (V.str [])) (eU Hh (ul (fun ρ=>ρ 2) (fun ρ=>((some (V.int 1)).bind SM).bind Ar) (fun x=>some none) fun x=>some none) fun x=>some (V.str [40])) aQ=some b:=fun aQ h2=>
   (gC (aG h2 rfl (JA _ _)) (aG (n0 h2 rfl rfl rfl (Gx t (az ht (by decide)))) rfl (JA _ _))).trans (congrArg some hd)
  cases b with
  |true=>
   refine⟨_,mx (bF (x:=.list (sP.map fun u=>V.str u.flatten)) rfl (md rfl rfl) DK) (cf (iq (c2 _ rfl) (cf (ni (BE _ rfl) (oC rfl (bF (x:=.str zv) rfl (md (dv rfl rfl) rfl) op1) (ff _ _ ?_) rfl)) (oC rfl (bT (bT rfl (cN (ap (bF (bY rfl NX) rfl Lm) (ap rfl (ap rfl rfl))) hF) (ft _ _ ?_)) (hp _ rfl) (ft _ _ ?_)) (ff _ _ ?_) rfl))) rfl),rfl,⟨rfl,?_⟩,rfl⟩
   ·exact az (jS ht 1) (by decide)
   ·exact az (kU Oj RT) (by decide)
   ·rw[aY];exact az (kU (kU Oj RT) Af) (by decide)
   ·rw[aY,aY,aY];exact az (kU (jS ht 1) (kU (kU Oj RT) Af)) (by decide)
   ·refine congrArg (fun z=>some (V.str z)) ?_
    rw[aw rfl,bR,bR,bR,BD,gK];simp only[List.append_assoc]
  |false=>
   refine⟨_,mx (bF (x:=.list (sP.map fun u=>V.str u.flatten)) rfl (md rfl rfl) DK) (cf (iq (c2 _ rfl) (cf (iq (BE _ rfl) rfl) (oC rfl (bT (bT rfl (cN (ap (bF (bY rfl NX) rfl Lm) (ap rfl (ap rfl rfl))) hF) (ft _ _ ?_)) (hp _ rfl) (ft _ _ ?_)) (ff _ _ ?_) rfl))) rfl),rfl,⟨rfl,?_⟩,rfl⟩
   ·exact az (kU Oj RT) (by decide)
   ·rw[aY];exact az (kU (kU Oj RT) Af) (by decide)
   ·rw[aY,aY];exact az (kU ht (kU (kU Oj RT) Af)) (by decide)
   ·refine congrArg (fun z=>some (V.str z)) ?_
    rw[au (show ¬(false=true) by decide),gh,bR,bR,BD];simp only[List.append_assoc]
noncomputable def qx:Cx:={vars:=[(R6,.local,false),(⟨#[108,101,102,116]⟩,.local,false),(Hf,.local,true),(Hg,.local,false),(Wz,.local,false),(R8,.local,false),(⟨#[117,110,105,116]⟩,.local,false),(WA,.local,false)],aV:=[Em,s9,wj,s5,s8,Vi]}
noncomputable def mC{P:Pk}{n:Nat}{aS:Addr}{bS:List V->Option V}(dy:P.glob Em=some (.ref aS))(dz:∀h,P.G h->∃o fd,h.get? aS=some o/\o.data= .func fd)(dA:aZ P n (.ref aS) bS){aT:Addr}(cC:P.glob s9=some (.ref aT))(cg:Bl P aT)(cA:P.glob wj=some (.builtin "len")){gW:Addr}{pe:List V->Option V}(wz:P.glob s5=some (.ref gW))(wA:∀h,P.G h->∃o fd,h.get? gW=some o/\o.data= .func fd)(wB:aZ P n (.ref gW) pe){gF:Addr}{n9:List V->Option V}(vC:P.glob s8=some (.ref gF))(vD:∀h,P.G h->∃o fd,h.get? gF=some o/\o.data= .func fd)(vF:aZ P n (.ref gF) n9){cX:Addr}{iQ:List Nat->Option Int}(iR:P.glob Vi=some (.ref cX))(oE:∀h,P.G h->∃f:Str->Option Value,h.MapOf (strKind P.prog P.w) cX f/\∀l k,iQ l=some k->∃t,f (pyStr l)=some (.int k t)){iS:List Nat->Bool}(oF:(cX==sysModules)=false)(oG:∀h,P.G h->∃g:Str->Option Value,h.MapOf (PySem.strKind P.prog P.w) cX g/\∀l,iS l=(g (pyStr l)).isSome):{f:ao->Option (ao×Fl)//ow P n qx (dW (aO pq.main.body 65)) f}:=⟨_,(@af _ _ _ _ _ _ _ (@aI _ _ _ 1 _ _ _ _ _ _ rfl (by decide) (@bM _ _ _ _ _ _ _ _ _ _ _ rfl dy rfl dz dA (aa (al cm (ab 0 rfl rfl rfl) (aC rfl)) ag ir) ir (ca _ _)) cz) (@af _ _ _ _ _ _ _ (@gQ _ _ _ ([(2,Hf,.local,true),(3,Hg,.local,false),(4,Wz,.local,false)]) ([_,_,_]) _ _ _ _ _ _ _ ⟨by decide+kernel,by decide+kernel⟩ rfl (@fX.new _ _ _ _ _ _ _ _ (fq ag (by decide) len0) (fX.dat (aC rfl) (fX.dat (aC rfl) fX.nil ir) ir) ir) (by decide) (ah (ah (ah len0))) kt.len ir (Ob (K:=qx) (i:=2) (j:=3) (l:=4) rfl rfl rfl rfl rfl (by decide+kernel) rfl rfl rfl rfl)) (@af _ _ _ _ _ _ _ (@pD _ _ _ (false) _ _ _ _ _ _ _ (@nW _ _ _ _ _ _ _ _ _ rfl cC rfl cg (aa (ac (ab 1 rfl rfl rfl)) ag ir) ir (ca _ _)) (@fo _ _ _ _ _ _ _ (bh (aB 5 rfl (by decide) (by decide)) (bh (aB 6 rfl (by decide) (by decide)) eH)) (bA (bA fm)) ir) (@af _ _ _ _ _ _ _ (cS 4 rfl (by decide) rfl rfl gR (ab 6 rfl rfl rfl)) (@af _ _ _ _ _ _ _ (@aN _ _ _ _ _ _ _ _ _ _ (@ay _ _ _ _ _ _ _ _ _ _ wk (@aJ _ _ _ _ _ _ _ _ _ _ _ rfl cA rfl ju (aa (ac (ab 4 rfl rfl rfl)) ag ir) ir (ca _ _)) (al cm (ac (ab 5 rfl rfl rfl)) ae) rfl) (@af _ _ _ _ _ _ _ (aW (cQ ag (by decide) len0)) ai) ai) (@af _ _ _ _ _ _ _ (@aN _ _ _ _ _ _ _ _ _ _ (@gk _ _ _ _ _ _ _ _ (@ay _ _ _ _ _ _ _ _ _ _ fk (@aJ _ _ _ _ _ _ _ _ _ _ _ rfl cA rfl ju (aa (ac (ab 6 rfl rfl rfl)) ag ir) ir (ca _ _)) ae rfl) (@wS _ _ _ _ _ _ (@ja _ _ _ _ _ (@bM _ _ _ _ _ _ _ _ _ _ _ rfl wz rfl wA wB (aa (ac (ab 6 rfl rfl rfl)) ag ir) ir (ca _ _)) cz))) (@af _ _ _ _ _ _ _ (@dB _ _ _ (false) _ _ _ _ _ _ _ (@dH _ _ _ _ _ (bM rfl vC rfl vD vF (aa (ab 6 rfl rfl rfl) ag ir) ir (ca _ _))) (aB 7 rfl (by decide) (by decide)) (@af _ _ _ _ _ _ _ (@aN _ _ _ _ _ _ _ _ _ _ (Gn rfl iR rfl oF oG (ac (ab 7 rfl rfl rfl)) rfl) (@af _ _ _ _ _ _ _ (@eG _ _ _ _ _ _ (@eF _ _ _ 2 _ _ _ _ _ _ _ _ _ rfl rfl rfl ue (@aa _ _ _ _ _ _ _ _ (@de _ _ _ _ _ _ _ _ (@aa _ _ _ _ _ _ _ _ (ab 3 rfl rfl rfl) (@aa _ _ _ _ _ _ _ _ (AG rfl iR rfl oE (ac (ab 7 rfl rfl rfl)) cz) ag ir) ir) (by decide) (ah (ah len0))) ag ir) ir (by decide) rfl ir) jE ir) (af (aI 3 rfl (by decide) (aC rfl) cz) ai)) (af (cS 3 rfl (by decide) rfl rfl gR (ab 7 rfl rfl rfl)) ai)) ai) cz) ai) ai) ai))) cz) (@af _ _ _ _ _ _ _ (@aW _ _ _ _ _ _ (@jb _ _ _ _ _ _ _ _ _ _ _ (@gk _ _ _ _ _ _ _ _ (ay fk (ac (ab 4 rfl rfl rfl)) (ac (ab 1 rfl rfl rfl)) rfl) (ay fk (ac (ab 3 rfl rfl rfl)) (aC rfl) rfl)) (dc 2 rfl rfl rfl) (cQ ag (by decide) len0))) ai))))⟩
noncomputable abbrev sA:=List Nat×Nat
noncomputable abbrev sB(e:sA):V:=.tup [.str e.1,.int e.2]
noncomputable abbrev iI:=List sA×List Nat
noncomputable def cU(tk:Nat->Option Nat)(st:iI)(c:Nat):iI:=match tk c with
 |some k=>(st.1++[(st.2,k)],[])
 |none=>(st.1,st.2++[c])
noncomputable def Fe(M:CM)(F3 F4:List V->Option V):Prop:=∀c,(mh [c]).length<10->(F3 [.str [c]]=some (.bool true)/\M.f c=[])\/(F3 [.str [c]]=some (.bool false)/\F4 [.str [c]]=some (.str (M.f c)))
noncomputable def J4(tk:Nat->Option Nat)(T:List Nat->Option Int)(I:List Nat->Bool):Prop:=∀c,I [c]=(tk c).isSome/\∀k,tk c=some k->T [c]=some (k:Int)
noncomputable def iy(M:CM)(u:List Nat):List Nat:=match u with
 |[c]=>M.f c
 |_=>[]
theorem zw(M:CM){u:List Nat}(h:u.length=2):iy M u=[]:=by
 match u,h with
 |[_,_],_=>rfl
noncomputable def cG(tk:Nat->Option Nat)(M:CM)(st:iI)(u:List Nat):iI:=(iy M u).foldl (cU tk) st
theorem DL(tk:Nat->Option Nat):∀(l:List Nat) (st:iI),(l.foldl (cU tk) st).1.length+(l.foldl (cU tk) st).2.length<=st.1.length+st.2.length+l.length
 |[],st=>bL _
 |c::l,st=>by
  rw[dg,cr];refine az (DL tk l _) ?_;have:(cU tk st c).1.length+(cU tk st c).2.length<=st.1.length+st.2.length+1:=by
   unfold cU;split
   ·simp only[aY,cr,gy];omega
   ·simp only[aY,cr,gy];omega
  omega
theorem J5(tk:Nat->Option Nat)(M:CM):∀(ws:List (List Nat)) (st:iI),(ws.foldl (cG tk M) st).1.length+(ws.foldl (cG tk M) st).2.length<=st.1.length+st.2.length+(ws.map (iy M)).flatten.length
 |[],st=>bL _
 |u::ws,st=>by
  rw[dg,bB,eQ,aY];have:=J5 tk M ws (cG tk M st u);have:=DL tk (iy M u) st;unfold cG at*;omega
theorem DM(a b:List Nat):np (.str a) (.str b)=some (a==b):=rfl
inductive UB(w:V)(st:iI)(seen:List Nat)(ρ:ao):Prop
 |mk (h1:ρ 1=some w) (h2:ρ 2=some (.list (st.1.map sB))) (h3:ρ 3=some (.str st.2)) (h4:ρ 4=some (.str seen))
theorem Gy{tk T I}(hT:J4 tk T I){w:V}{seen cs:List Nat}{st:iI}(hb:st.1.length+st.2.length+cs.length<=1000){ρ:ao}(h:UB w st seen ρ):
  ∃r,gz (fun ρ y=>some (upd ρ 7 y)) (eY (fun ρ=>((ρ 7).bind fun x=>(tabIn I x).bind px).bind fun z=>if z=true then
    eY (fun ρ=>Option.map (fun r=>(r.fst,Fl.next)) (oX FH 2 (cW (fun ρ=>Option.map V.tup (cW (fun ρ=>ρ 3) (cW (fun ρ=>(ρ 7).bind (tabS T)) fun x=>some []) ρ)) fun x=>some []) ρ))
     (eY (fun ρ=>Option.map (fun y=>(upd ρ 3 y,Fl.next)) (some (V.str []))) fun ρ=>some (ρ,Fl.next)) ρ
   else eY (fun ρ=>(ρ 3).bind fun a=>(ρ 7).bind fun b=>Option.map (fun c=>(upd ρ 3 c,Fl.next)) (Av a b)) (fun ρ=>some (ρ,Fl.next)) ρ) fun ρ=>some (ρ,Fl.next)) (cs.map fun c=>V.str [c]) ρ=some r/\r.2= .next/\UB w (cs.foldl (cU tk) st) seen r.1:=by
 refine lu (fun c=>V.str [c]) cs (fun l ρ=>UB w (l.foldl (cU tk) st) seen ρ) (fun l c ρ hc hl hR=>?_) h;have hlen:=DL tk l st;rw[dF,dg,mX];generalize l.foldl (cU tk) st=Ck at*;obtain⟨h1,h2,h3,h4⟩:=hR;obtain⟨t1,t2⟩:=hT c;refine ex4 ρ h1 h2 h3 h4 fun σ=>?_
 cases hk:tk c with
 |some k=>
  rw[hk]at t1;have e:cU tk Ck c=(Ck.1++[(Ck.2,k)],[]):=by unfold cU;rw[hk]
  rw[e];refine⟨_,_,rfl,cf (ni (cN rfl (cN rfl (congrArg some t1))) (Gj rfl (ap (cB (ap rfl (ap (cN rfl (cB (t2 k hk) rfl)) rfl)) rfl) rfl) (rR _ _ (by rw[List.length_map];exact eV (az (fB _ Ck.2.length) (az hlen (az (jX (dU hl) _) hb))) (by decide))) rfl)) rfl,.mk rfl ?_ rfl rfl⟩;exact congrArg (fun z=>some (V.list z)) (n4 sB Ck.1 (Ck.2,k))
 |none=>
  rw[hk]at t1;have e:cU tk Ck c=(Ck.1,Ck.2++[c]):=by unfold cU;rw[hk]
  rw[e];exact⟨_,_,rfl,cf (iq (cN rfl (cN rfl (congrArg some t1))) (oC rfl rfl (ff _ _ (by
   have:most=1000000:=rfl;show Ck.2.length+1<=most;omega)) rfl)) rfl,.mk rfl rfl rfl rfl⟩
theorem DN{P:Pk}{n:Nat}{a1 F1 g1 h1 c1 a2 g2 UC g3 a3 F3 g3' h3 c3 a4 F4 g4 h4 c4 a5 T5 g5 t5 I5 s5 i5}{ρ:ao}{M:CM}{tk:Nat->Option Nat}{t:List Nat}{ws:List (List Nat)}(uA:F1 [.str (t++[59,34,92])]=some (.str ws.flatten))(ht:t.length<=10000)(hws:nj ws=true)(Mt:ws.flatten.length<=10000)
  (hM:Fe M F3 F4) (hT:J4 tk T5 I5) (UD:∀u∈ws,u.length=2\/∃c,u=[c]/\(mh [c]).length<10) (J6:(ws.map (iy M)).flatten.length<=1000) (Dk:(ws.foldl (cG tk M) ([],[])).2=[34,92]) (h0:ρ 0=some (.str t)):
  Ends (mC (P:=P) (n:=n) (aS:=a1) (bS:=F1) g1 h1 c1 (aT:=a2) g2 UC g3 (gW:=a3) (pe:=F3) g3' h3 c3 (gF:=a4) (n9:=F4) g4 h4 c4 (cX:=a5) (iQ:=T5) g5 t5 (iS:=I5) s5 i5).1 ρ (.list ((ws.foldl (cG tk M) ([],[])).1.map sB)):=by
 have hwm:ws.flatten.length<=most:=az Mt (by decide);unfold mC;dsimp only;refine dk (bY (bT h0 rfl (ft _ _ (az (jS ht 3) (by decide)))) uA) (bw rfl (eB (UB (.str ws.flatten) (ws.foldl (cG tk M) ([],[])) ws.flatten) (eT (Dy rfl hwm hws) (vo ws (fun l ρ=>UB (.str ws.flatten) (l.foldl (cG tk M) ([],[])) l.flatten ρ) (fun l u l' ρ h hR=>?_) (.mk rfl rfl rfl rfl))) fun am hR=>?_))
 ·have hum:u∈ws:=h▸ck _ gJ
  have Sz:l.flatten.length+u.length<=10000:=by
   rw[<-h,bR,aY,eQ,aY]at Mt;exact az (jX (fB _ _) _) Mt
  have YX:=J5 tk M l ([],[]);have RB:(l.map (iy M)).flatten.length+(iy M u).length<=1000:=by
   rw[<-h,List.map_append,bR,aY,bB,eQ,aY]at J6;exact az (jX (fB _ _) _) J6
  have hu1:1<=u.length:=by
   rcases UD u hum with h|⟨c,rfl,_⟩
   ·rw[h];decide
   ·exact bL _
  have cZ:((l.flatten++u).length:Int)=((l.flatten.length+u.length-1:Nat):Int)+1:=by rw[aY];exact congrArg Int.ofNat (xG (az hu1 (tV _ _))).symm
  have lE:(l.flatten++u).length<=most:=by rw[aY];exact az Sz (by decide)
  have M4:l.flatten.length+u.length<=most:=az Sz (by decide);have QH:u.length<=most:=az (tV _ _) M4;rw[dF,dg,mX,E8];have hb:(l.foldl (cG tk M) ([],[])).1.length+(l.foldl (cG tk M) ([],[])).2.length+(iy M u).length<=1000:=az (jS (az YX (by simp)) _) RB;generalize l.foldl (cG tk M) ([],[])=st at*;obtain⟨r1,r2,r3,r4⟩:=hR;refine ex4 ρ r1 r2 r3 r4 fun σ=>?_
  rcases UD u hum with h2|⟨c,rfl,hc⟩
  ·have e:cG tk M st u=st:=by unfold cG;rw[zw M h2];rfl
   rw[e];exact⟨_,_,rfl,oC rfl rfl (ff _ _ M4) (cf (iq (aG (bY rfl (mw _ lE)) (ad rfl rfl) (RN cZ)) rfl) (cf (iq (iq (aG (bY rfl (mw _ QH)) rfl ((bU _ _).trans (congrArg some (db (by rw[h2];decide))))) rfl) rfl) rfl)),.mk rfl rfl rfl rfl⟩
  ·rcases hM c hc with⟨YY,hmf⟩|⟨YY,hf4⟩
   ·have e:cG tk M st [c]=st:=by unfold cG;rw[show iy M [c]=[]from hmf];rfl
    rw[e];exact⟨_,_,rfl,oC rfl rfl (ff _ _ M4) (cf (iq (aG (bY rfl (mw _ lE)) (ad rfl rfl) (RN cZ)) rfl) (cf (iq (ni (aG (bY rfl (mw _ QH)) rfl (bU _ _)) (cB (cN (bY rfl YY) rfl) rfl)) rfl) rfl)),.mk rfl rfl rfl rfl⟩
   ·obtain⟨⟨di,fl⟩,z1,z2,z3⟩:=Gy hT hb (ρ:=upd (upd (upd (upd (upd (upd (upd σ 1 (.str ws.flatten)) 2 (.list (st.1.map sB))) 3 (.str st.2)) 4 (.str l.flatten)) 5 (.int ((l.flatten.length+[c].length-1:Nat):Int))) 6 (.str [c])) 4 (.str (l.flatten++[c]))) (w:=.str ws.flatten) (seen:=l.flatten++[c]) (.mk rfl rfl rfl rfl)
    cases z2;exact⟨_,di,rfl,oC rfl rfl (ff _ _ M4) (cf (iq (aG (bY rfl (mw _ lE)) (ad rfl rfl) (RN cZ)) rfl) (cf (ni (ni (aG (bY rfl (mw _ QH)) rfl (bU _ _)) (cB (cN (bY rfl YY) rfl) rfl)) (cf (cN (cN (bY rfl hf4) rfl) z1) rfl)) rfl)),z3⟩
 ·obtain⟨r1,r2,r3,r4⟩:=hR
  rw[Dk]at r3;exact ex4 am r1 r2 r3 r4 fun σ=>df (ni (gC (aG rfl rfl ((DM _ _).trans (congrArg some (qQ _)))) (aG rfl rfl rfl)) rfl)
noncomputable def UE:CM where
 f:=J0
 base:=fun b hb i hi=>by
  have:=cH.mp (cH.mp MZ b hb) i (ec.mpr hi);simpa using this
 edge:=fun e he=>by
  have:=cH.mp M0 e he;simpa using this
 unseen:=fun e he=>by
  have:=cH.mp Gu e he;simpa using this
 sign:=fun c hc=>by
  have:=cH.mp M1 c hc;simpa using this
 lig:=fun j hj=>by
  have:=cH.mp QF j (ec.mpr hj);simpa using this
noncomputable def QI{P:Pk}{n:Nat}(g1:P.glob "ord"=some (.builtin "ord"))(g2:P.glob "b1_set"=some (.ref 22)){T:Int->Bool}(hG:∀h,P.G h->∃n,h.SetOf (intKind P.prog P.w) 22 T n):{f:ao->Option (ao×Fl)//ow P n KB1 (dW (aO pq.main.body 2)) f}:=by
 refine⟨_,af (aW (AF ?_ g2 ?_ hG (aJ ?_ g1 ?_ HU (aa (ac (ab 0 rfl ?_ ?_)) ag (fun ø=>rfl)) (fun ø=>rfl) (by simp)) ?_)) ai⟩
 all_goals first|rfl|decide
noncomputable def QJ{P:Pk}{n:Nat}(g1:P.glob "ord"=some (.builtin "ord"))(g2:P.glob "b3_exceptions"=some (.ref 33)){F}(hG:H3 P 33 "get" F):{f:ao->Option (ao×Fl)//ow P n KB3 (dW (aO pq.main.body 4)) f}:=by
 refine⟨_,af (aI 1 rfl ?_ (AE ?_ g2 ?_ hG (aa (aJ ?_ g1 ?_ HU (aa (ab 0 rfl ?_ ?_) ag (fun ø=>rfl)) (fun ø=>rfl) (by simp)) ag (fun ø=>rfl)) (fun ø=>rfl) (by decide) ?_ (fun ø=>rfl)) ?_)
  (af (aN (ay ya (ac (ab 1 rfl ?_ ?_)) lZ ?_) (af (aW (ac (ab 1 rfl ?_ ?_))) ai) ai)
  (af (aW (ij (ac (ab 0 rfl ?_ ?_)) SH ag (fun ø=>rfl) (by decide) ?_ (fun ø=>rfl))) ai))⟩
 all_goals first|rfl|decide|(intro _ _;rfl)|skip
theorem QK{P:Pk}{n:Nat}{g1 g2}{T:Int->Bool}{hG}{ρ:ao}{c:Nat}(h0:ρ 0=some (.str [c])):Ends (QI (P:=P) (n:=n) g1 g2 (T:=T) hG).1 ρ (.bool (T c)):=by
 unfold QI;dsimp only;refine dO ⟨ρ,?_⟩;simp[jm,cW,h0,O4,H6]
theorem QL{P:Pk}{n:Nat}{g1 g2}{hG:H3 P 33 "get" (H4 P5 P6)}{ρ:ao}{c:Nat}(hc:(mh [c]).length<10)(h0:ρ 0=some (.str [c])):Ends (QJ (P:=P) (n:=n) g1 g2 hG).1 ρ (.str ((Ln ER c).getD (mh [c]))):=by
 unfold QJ;dsimp only;have ht:H4 P5 P6 [.int c]=some (((Ln ER c).map V.str).getD .none):=by
  simp only[Pf];rw[BC]
 have hl:Pa (.str [c]) []=some (.str (mh [c])):=by
  apply Pb;unfold mh at hc;unfold Builtin.Str.tooLong;simp only[tu];have sj:(10:Nat)<=sizeLine:=by decide
  have e:(Txt.lower (pyStr [c])).length=(Txt.lower (pyStr [c])).cps.toList.length:=by simp[Str.length]
  omega
 generalize Ln ER c=o at*;refine ex1 ρ h0 fun σ=>?_
 cases o with
 |none=>exact dk (cN (ap (bY rfl rfl) rfl) ht) (bw (iq rfl rfl) (df (JD rfl rfl hl)))
 |some t=>exact dk (cN (ap (bY rfl rfl) rfl) ht) (dO ⟨_,ni rfl rfl⟩)
section
section
variable{P:Pk}(X:bG P)
include X
theorem bG.dK:P.glob s9=some (.ref 85):=X.glob _ _ (by kernel_rfl)
theorem bG.dP:P.glob Em=some (.ref 92):=X.glob _ _ (by kernel_rfl)
theorem bG.oH:P.glob Hc=some (.ref 99):=X.glob _ _ (by kernel_rfl)
theorem bG.M5:P.glob s4=some (.ref 22):=X.glob _ _ (by kernel_rfl)
theorem bG.qz:P.glob s5=some (.ref 32):=X.glob _ _ (by kernel_rfl)
theorem bG.vG:P.glob s6=some (.ref 33):=X.glob _ _ (by kernel_rfl)
theorem bG.pf:P.glob s8=some (.ref 78):=X.glob _ _ (by kernel_rfl)
theorem bG.sE:P.glob CN=some (.ref 161):=X.glob _ _ (by kernel_rfl)
theorem bG.jI:P.glob Vi=some (.ref 166):=X.glob _ _ (by kernel_rfl)
theorem bG.r6:P.glob K7=some (.ref 173):=X.glob _ _ (by kernel_rfl)
theorem bG.j1:P.glob He=some (.ref 180):=X.glob _ _ (by kernel_rfl)
theorem bG.wC:P.glob K8=some (.ref 185):=X.glob _ _ (by kernel_rfl)
theorem bG.pI:P.glob K9=some (.ref 192):=X.glob _ _ (by kernel_rfl)
theorem bG.mD:P.glob La=some (.ref 199):=X.glob _ _ (by kernel_rfl)
theorem bG.pJ:P.glob Lb=some (.ref 204):=X.glob _ _ (by kernel_rfl)
theorem bG.mE:P.glob Lc=some (.ref 209):=X.glob _ _ (by kernel_rfl)
theorem bG.oe:P.glob Ld=some (.ref 214):=X.glob _ _ (by kernel_rfl)
theorem bG.aX:P.glob wd=some (.type "range"):=X.built _ _ (by decide) (by kernel_rfl) (by kernel_rfl)
theorem bG.cA:P.glob wj=some (.builtin "len"):=X.built _ _ (by decide) (by kernel_rfl) (by kernel_rfl)
theorem bG.vt:P.glob WB=some (.builtin "ord"):=X.built _ _ (by decide) (by kernel_rfl) (by kernel_rfl)
theorem bG.m7:P.glob Rs=some (.builtin "chr"):=X.built _ _ (by decide) (by kernel_rfl) (by kernel_rfl)
theorem bG.vH:P.glob WE=some (.builtin "sum"):=X.built _ _ (by decide) (by kernel_rfl) (by kernel_rfl)
theorem bG.fg:P.glob Eo=some (.builtin "max"):=X.built _ _ (by decide) (by kernel_rfl) (by kernel_rfl)
theorem bG.iH:P.glob R9=some (.type "list"):=X.built _ _ (by decide) (by kernel_rfl) (by kernel_rfl)
theorem bG.zx:P.glob WF=some (.type "tuple"):=X.built _ _ (by decide) (by kernel_rfl) (by kernel_rfl)
theorem bG.vI:P.glob WG=some (.type "zip"):=X.built _ _ (by decide) (by kernel_rfl) (by kernel_rfl)
theorem bG.dQ:∀h,P.G h->∃o fd,h.get? 92=some o/\o.data= .func fd:=fun h G=>by
 obtain⟨⟨o,h1,h2,h3⟩,h4⟩:=NZ (X.top h G) fun ø ø e=>e
 exact⟨o,_,h1,h3⟩
theorem bG.oJ:∀h,P.G h->∃o fd,h.get? 99=some o/\o.data= .func fd:=fun h G=>by
 obtain⟨⟨o,h1,h2,h3⟩,h4⟩:=N0 (X.top h G) fun ø ø e=>e
 exact⟨o,_,h1,h3⟩
theorem bG.qA:∀h,P.G h->∃o fd,h.get? 32=some o/\o.data= .func fd:=fun h G=>by
 obtain⟨⟨o,h1,h2,h3⟩,h4⟩:=N1 (X.top h G) fun ø ø e=>e
 exact⟨o,_,h1,h3⟩
theorem bG.pg:∀h,P.G h->∃o fd,h.get? 78=some o/\o.data= .func fd:=fun h G=>by
 obtain⟨⟨o,h1,h2,h3⟩,h4⟩:=N2 (X.top h G) fun ø ø e=>e
 exact⟨o,_,h1,h3⟩
theorem bG.r7:∀h,P.G h->∃o fd,h.get? 173=some o/\o.data= .func fd:=fun h G=>by
 obtain⟨⟨o,h1,h2,h3⟩,h4⟩:=IO (X.top h G) fun ø ø e=>e
 exact⟨o,_,h1,h3⟩
theorem bG.j3:∀h,P.G h->∃o fd,h.get? 180=some o/\o.data= .func fd:=fun h G=>by
 obtain⟨⟨o,h1,h2,h3⟩,h4⟩:=IQ (X.top h G) fun ø ø e=>e
 exact⟨o,_,h1,h3⟩
theorem bG.wD:∀h,P.G h->∃o fd,h.get? 185=some o/\o.data= .func fd:=fun h G=>by
 obtain⟨⟨o,h1,h2,h3⟩,h4⟩:=IS (X.top h G) fun ø ø e=>e
 exact⟨o,_,h1,h3⟩
theorem bG.pK:∀h,P.G h->∃o fd,h.get? 192=some o/\o.data= .func fd:=fun h G=>by
 obtain⟨⟨o,h1,h2,h3⟩,h4⟩:=IT (X.top h G) fun ø ø e=>e
 exact⟨o,_,h1,h3⟩
theorem bG.mF:∀h,P.G h->∃o fd,h.get? 199=some o/\o.data= .func fd:=fun h G=>by
 obtain⟨⟨o,h1,h2,h3⟩,h4⟩:=IU (X.top h G) fun ø ø e=>e
 exact⟨o,_,h1,h3⟩
theorem bG.pL:∀h,P.G h->∃o fd,h.get? 204=some o/\o.data= .func fd:=fun h G=>by
 obtain⟨⟨o,h1,h2,h3⟩,h4⟩:=IV (X.top h G) fun ø ø e=>e
 exact⟨o,_,h1,h3⟩
theorem bG.mG:∀h,P.G h->∃o fd,h.get? 209=some o/\o.data= .func fd:=fun h G=>by
 obtain⟨⟨o,h1,h2,h3⟩,h4⟩:=IW (X.top h G) fun ø ø e=>e
 exact⟨o,_,h1,h3⟩
theorem bG.og:∀h,P.G h->∃o fd,h.get? 214=some o/\o.data= .func fd:=fun h G=>by
 obtain⟨⟨o,h1,h2,h3⟩,h4⟩:=IX (X.top h G) fun ø ø e=>e
 exact⟨o,_,h1,h3⟩
end
theorem dR(P:Params):MD P Hd=some (.ref 123):=by kernel_rfl
theorem dS:typeLookup (.type "object") Hd=pure none:=by rw[lU,lV];kernel_rfl
theorem bG.aK{P:Pk}(X:bG P):∀h,P.G h->∃of fd,h.get? 123=some of/\of.cls= .type "function"/\of.data= .func fd:=fun h G=>by
 obtain⟨⟨o,h1,h2,h3⟩,h4⟩:=II (X.top h G) fun ø ø e=>e
 exact⟨o,_,h1,h2,h3⟩
theorem dC(P:Params):MD P En=some (.ref 130):=by kernel_rfl
theorem dD:typeLookup (.type "object") En=pure none:=by rw[lU,lV];kernel_rfl
theorem bG.aL{P:Pk}(X:bG P):∀h,P.G h->∃of fd,h.get? 130=some of/\of.cls= .type "function"/\of.data= .func fd:=fun h G=>by
 obtain⟨⟨o,h1,h2,h3⟩,h4⟩:=IJ (X.top h G) fun ø ø e=>e
 exact⟨o,_,h1,h2,h3⟩
theorem vJ(P:Params):MD P Nw=some (.ref 137):=by kernel_rfl
theorem vK:typeLookup (.type "object") Nw=pure none:=by rw[lU,lV];kernel_rfl
theorem bG.qB{P:Pk}(X:bG P):∀h,P.G h->∃of fd,h.get? 137=some of/\of.cls= .type "function"/\of.data= .func fd:=fun h G=>by
 obtain⟨⟨o,h1,h2,h3⟩,h4⟩:=IK (X.top h G) fun ø ø e=>e
 exact⟨o,_,h1,h2,h3⟩
theorem fh(P:Params):MD P Nx=some (.ref 144):=by kernel_rfl
theorem fi:typeLookup (.type "object") Nx=pure none:=by rw[lU,lV];kernel_rfl
theorem bG.cY{P:Pk}(X:bG P):∀h,P.G h->∃of fd,h.get? 144=some of/\of.cls= .type "function"/\of.data= .func fd:=fun h G=>by
 obtain⟨⟨o,h1,h2,h3⟩,h4⟩:=IL (X.top h G) fun ø ø e=>e
 exact⟨o,_,h1,h2,h3⟩
theorem zy(P:Params):MD P Ny=some (.ref 151):=by kernel_rfl
theorem zz:typeLookup (.type "object") Ny=pure none:=by rw[lU,lV];kernel_rfl
theorem bG.vL{P:Pk}(X:bG P):∀h,P.G h->∃of fd,h.get? 151=some of/\of.cls= .type "function"/\of.data= .func fd:=fun h G=>by
 obtain⟨⟨o,h1,h2,h3⟩,h4⟩:=IM (X.top h G) fun ø ø e=>e
 exact⟨o,_,h1,h2,h3⟩
theorem fH(P:Params):MD P Nz=some (.ref 158):=by kernel_rfl
theorem fJ:typeLookup (.type "object") Nz=pure none:=by rw[lU,lV];kernel_rfl
theorem bG.dm{P:Pk}(X:bG P):∀h,P.G h->∃of fd,h.get? 158=some of/\of.cls= .type "function"/\of.data= .func fd:=fun h G=>by
 obtain⟨⟨o,h1,h2,h3⟩,h4⟩:=IN (X.top h G) fun ø ø e=>e
 exact⟨o,_,h1,h2,h3⟩
end
section
structure zA(tk:Nat->Option Nat):Prop where
 par:tk 40=some 7/\tk 41=some 8/\tk 59=some 13/\tk 34=none/\tk 92=none
 op:∀c∈zv,∃k,tk c=some k/\k≠7/\k≠8
 low:∀c,97<=c->c-97<26->tk c=none
 edge:∀e∈fY,tk e.toNat=none
noncomputable def M6(SP:Nat->Int->List Nat)(b:Bool)(e:Item):List (List Nat):=
 if e.1=2 then pH e.2.2++[[41]]else(if b then [[jH e.2.2]]else [])++(pH e.2.2++((SP e.2.1 e.2.2).map (fun c=>[c])++(if e.1=0 then [[40]]else [])))
noncomputable def oj(SP:Nat->Int->List Nat):Bool->List Item->List (List Nat)
 |_,[]=>[]
 |b,e::r=>M6 SP b e++oj SP (e.1 != 0) r
theorem J7(SP:Nat->Int->List Nat)(b:Bool):oj SP b []=[]:=rfl
theorem qC(SP:Nat->Int->List Nat)(b:Bool)(e:Item)(r:List Item):oj SP b (e::r)=M6 SP b e++oj SP (e.1 != 0) r:=rfl
theorem BF(draw:Int)(k:List (List Nat)):(qv draw).foldl cx (k,none)=(k++pH draw,none):=
 have e:(k,(none:Option (List (List Nat))))=(k++[],none):=by rw[ea]
 lt7 (P:=fun j=>(sP[j]?.getD []).foldl cx (k,none)=(k++Fc[j]?.getD [],none)) e rfl e e rfl rfl e _ (Oi draw)
theorem QM:(zv.all fun c=>c != 34&&c != 92&&decide (c∈n7))=true:=by decide
theorem BG(draw:Int):jH draw≠34/\jH draw≠92/\jH draw∈n7:=by
 have:=cH.mp QM _ (Fd (draw:=draw)).2;simp only[bX,oS,mS]at this;exact⟨this.1.1,this.1.2,this.2⟩
section
variable{SP:Nat->Int->List Nat}{M:CM}{total:Int}
noncomputable def sF(M:CM)(total:Int)(SP:Nat->Int->List Nat)(its:List Item):Prop:=∀e∈its,bV M (aH e.2.1 total) (SP e.2.1 e.2.2)
theorem qD{N l:List Nat}(h:bV M N l):∀u∈l.map (fun c=>[c]),wy u=true/\u≠[34]/\∃c,u=[c]/\(mh [c]).length<10:=fun u hu=>by
 obtain⟨c,hc,rfl⟩:=dt.mp hu;have:=cH.mp h.ok c hc;simp only[MU,bX,oS,mS]at this;refine⟨?_,fun z=>this.1.1.1.2 (tW z).1,c,rfl,this.2⟩;show(c != 92)=true;exact oS.mpr this.1.1.1.1
theorem J8{b:Bool}{e:Item}(h:bV M (aH e.2.1 total) (SP e.2.1 e.2.2))(k:List (List Nat)):(Gv SP b e).foldl cx (k,none)=(k++M6 SP b e,none):=by
 have one:∀(k:List (List Nat)) (c:Nat),c≠34->[[c]].foldl cx (k,none)=(k++[[c]],none):=fun k c hc=>by
  show cx (k,none) [c]=_;exact au fun z=>hc (tW z).1
 unfold Gv M6;split
 ·rw[dF,BF,one _ 41 (by decide),List.append_assoc]
 ·rw[dF]
  have e1:(if b=true then [[jH e.2.2]]else []).foldl cx (k,none)=(k++(if b=true then [[jH e.2.2]]else []),none):=by
   split
   ·exact one k _ (BG e.2.2).1
   ·rw[ea];rfl
  have e2:∀k:List (List Nat),(if e.1=0 then [[40]]else([]:List (List Nat))).foldl cx (k,none)=(k++(if e.1=0 then [[40]]else []),none):=fun k=>by
   split
   ·exact one k _ (by decide)
   ·rw[ea];rfl
  rw[e1,dF,BF,dF,vn _ _ fun u hu=>(qD h u hu).2.1,e2];simp only[List.append_assoc]
theorem vM:∀{its:List Item} {b:Bool},sF M total SP its->∀k:List (List Nat),(eC SP b its).foldl cx (k,none)=(k++oj SP b its,none)
 |[],b,_,k=>by rw[vz,J7,ea];rfl
 |e::r,b,h,k=>by
  rw[lx,qC,dF,J8 (h e (.head _)),vM fun x hx=>h x (.tail _ hx),List.append_assoc]
theorem Gz{its:List Item}(h:sF M total SP its):fG (eC SP false its++[[59],[34],[92]])=oj SP false its++[[59],[34],[92]]:=by
 unfold fG;rw[dF,vM h];simp[cx]
theorem qE:∀{us vs:List (List Nat)},(∀u∈us,wy u=true)->nj vs=true->nj (us++vs)=true
 |[],vs,_,h=>h
 |u::us,vs,h1,h2=>by
  have ih:=qE (us:=us) (vs:=vs) (fun v hv=>h1 v (ge _ hv)) h2
  cases hz:us++vs with
  |nil=>simp[hz,tg,th,ti,h1 u gJ]
  |cons z zs=>
   rw[List.cons_append,hz];rw[hz]at ih;simp only[tg,th,ti,h1 u gJ,iM,ih]
theorem Ff(draw:Int):wy [jH draw]=true:=by
 show(jH draw != 92)=true;exact oS.mpr (BG draw).2.1
theorem Fg:∀{its:List Item} {b:Bool},sF M total SP its->∀u∈eC SP b its,wy u=true
 |[],b,_,u,hu=>nomatch hu
 |e::r,b,h,u,hu=>by
  rw[lx]at hu;rcases bZ.mp hu with hu|hu
  ·unfold Gv at hu
   split at hu
   ·rcases bZ.mp hu with hu|hu
    ·exact(kG e.2.2).1 u hu
    ·rw[cq.mp hu];rfl
   ·rcases bZ.mp hu with hu|hu
    ·split at hu
     ·rw[cq.mp hu];exact Ff _
     ·cases hu
    ·rcases bZ.mp hu with hu|hu
     ·exact(kG e.2.2).1 u hu
     ·rcases bZ.mp hu with hu|hu
      ·exact(qD (h e (.head _)) u hu).1
      ·split at hu
       ·rw[cq.mp hu];rfl
       ·cases hu
  ·exact Fg (fun x hx=>h x (.tail _ hx)) u hu
theorem xt:(n7.all fun c=>decide ((mh [c]).length<10))=true:=by decide+kernel
theorem zB:∀{its:List Item} {b:Bool},sF M total SP its->∀u∈oj SP b its,wy u=true/\(u.length=2\/∃c,u=[c]/\(mh [c]).length<10)
 |[],b,_,u,hu=>nomatch hu
 |e::r,b,h,u,hu=>by
  have low:∀c∈n7,(mh [c]).length<10:=fun c hc=>cV (cH.mp xt c hc)
  rw[qC]at hu;rcases bZ.mp hu with hu|hu
  ·unfold M6 at hu
   split at hu
   ·rcases bZ.mp hu with hu|hu
    ·exact⟨((kG e.2.2).2.1 u hu).1,.inl ((kG e.2.2).2.1 u hu).2⟩
    ·rw[cq.mp hu];exact⟨rfl,.inr ⟨41,rfl,low 41 (by decide)⟩⟩
   ·rcases bZ.mp hu with hu|hu
    ·split at hu
     ·rw[cq.mp hu];exact⟨Ff _,.inr ⟨_,rfl,low _ (BG _).2.2⟩⟩
     ·cases hu
    ·rcases bZ.mp hu with hu|hu
     ·exact⟨((kG e.2.2).2.1 u hu).1,.inl ((kG e.2.2).2.1 u hu).2⟩
     ·rcases bZ.mp hu with hu|hu
      ·exact⟨(qD (h e (.head _)) u hu).1,.inr (qD (h e (.head _)) u hu).2.2⟩
      ·split at hu
       ·rw[cq.mp hu];exact⟨rfl,.inr ⟨40,rfl,low 40 (by decide)⟩⟩
       ·cases hu
  ·exact zB (fun x hx=>h x (.tail _ hx)) u hu
noncomputable def GA(total:Int)(tk:Nat->Option Nat)(st:iI)(b:Bool)(e:Item):iI:=
 if e.1=2 then(st.1++[(st.2,8)],[])else
  (fun s1:iI=>if e.1=0 then(s1.1++[(s1.2++aH e.2.1 total,7)],[])else(s1.1,s1.2++aH e.2.1 total)) (if b then(st.1++[(st.2,(tk (jH e.2.2)).getD 0)],[])else st)
noncomputable def sG(total:Int)(tk:Nat->Option Nat):iI->Bool->List Item->iI
 |st,_,[]=>st
 |st,b,e::r=>sG total tk (GA total tk st b e) (e.1 != 0) r
theorem J9(total:Int)(tk:Nat->Option Nat)(st:iI)(b:Bool)(e:Item)(r:List Item):sG total tk st b (e::r)=sG total tk (GA total tk st b e) (e.1 != 0) r:=rfl
theorem Fh{tk:Nat->Option Nat}:∀(N:List Nat),(∀c∈N,tk c=none)->∀st:iI,N.foldl (cU tk) st=(st.1,st.2++N)
 |[],_,st=>by rw[ea];rfl
 |c::N,h,st=>by
  rw[dg];have:cU tk st c=(st.1,st.2++[c]):=by unfold cU;rw[h c (.head _)]
  rw[this,Fh N (fun x hx=>h x (.tail _ hx)),List.append_assoc];rfl
theorem GB{tk:Nat->Option Nat}(ht:zA tk){w:Nat}(hw:w<3)(total:Int):∀c∈aH w total,tk c=none:=fun c hc=>by
 rcases(iY hw total).1.sg c hc with q|⟨_,e,he,rfl⟩
 ·exact ht.low c q.1 q.2
 ·exact ht.edge e he
theorem Ok{tk:Nat->Option Nat}{M:CM}:∀(l:List Nat) (st:iI),(l.map fun c=>[c]).foldl (cG tk M) st=((l.map M.f).flatten).foldl (cU tk) st
 |[],st=>rfl
 |c::l,st=>by
  rw[bB,dg,bB,eQ,dF,Ok l];rfl
theorem Ka{tk:Nat->Option Nat}{M:CM}:∀(us:List (List Nat)),(∀u∈us,u.length=2)->∀st:iI,us.foldl (cG tk M) st=st
 |[],_,st=>rfl
 |u::us,h,st=>by
  rw[dg];have:cG tk M st u=st:=by unfold cG;rw[zw M (h u (.head _))];rfl
  rw[this,Ka us (fun x hx=>h x (.tail _ hx))]
theorem zC{tk:Nat->Option Nat}{M:CM}{c k:Nat}(hc:c∈n7)(hk:tk c=some k)(st:iI):[[c]].foldl (cG tk M) st=(st.1++[(st.2,k)],[]):=by
 show(iy M [c]).foldl (cU tk) st=_;rw[show iy M [c]=[c]from M.sign c hc];show cU tk st c=_;unfold cU;rw[hk]
theorem UF{tk:Nat->Option Nat}(ht:zA tk){b:Bool}{e:Item}(hw:e.2.1<3)(h:bV M (aH e.2.1 total) (SP e.2.1 e.2.2))(st:iI):(M6 SP b e).foldl (cG tk M) st=GA total tk st b e:=by
 have hk:=Ka (tk:=tk) (M:=M) (pH e.2.2) fun u hu=>((kG e.2.2).2.1 u hu).2
 unfold M6 GA;split
 ·rw[dF,hk,zC (by decide) ht.par.2.1]
 ·rw[dF]
  have e1:(if b=true then [[jH e.2.2]]else []).foldl (cG tk M) st=(if b=true then(st.1++[(st.2,(tk (jH e.2.2)).getD 0)],[])else st):=by
   split
   ·obtain⟨k,hk,_⟩:=ht.op _ (Fd (draw:=e.2.2)).2
    rw[zC (BG e.2.2).2.2 hk,hk];rfl
   ·rfl
  rw[e1,dF,hk,dF,Ok,h.map,Fh _ (GB ht hw total)];generalize(if b=true then(st.1++[(st.2,(tk (jH e.2.2)).getD 0)],[])else st:iI)=s1;dsimp only;by_cases q0:e.1=0
  ·rw[aw q0,aw q0,zC (by decide) ht.par.1]
  ·rw[au q0,au q0]
   rfl
theorem Fi{tk:Nat->Option Nat}(ht:zA tk):∀{its:List Item} {b:Bool},(∀e∈its,e.2.1<3)->sF M total SP its->∀st:iI,(oj SP b its).foldl (cG tk M) st=sG total tk st b its
 |[],b,_,_,st=>rfl
 |e::r,b,hw,h,st=>by
  rw[qC,J9,dF,UF ht (hw e (.head _)) (h e (.head _)),Fi ht (fun x hx=>hw x (.tail _ hx)) fun x hx=>h x (.tail _ hx)]
noncomputable def vN(total:Int)(tk:Nat->Option Nat)(its:List Item):List sA:=(sG total tk ([],[]) false its).1++[((sG total tk ([],[]) false its).2,13)]
theorem QN{tk:Nat->Option Nat}(ht:zA tk){its:List Item}(hw:∀e∈its,e.2.1<3)(h:sF M total SP its):(oj SP false its++[[59],[34],[92]]).foldl (cG tk M) ([],[])=(vN total tk its,[34,92]):=by
 rw[dF,Fi ht hw h];show [[34],[92]].foldl (cG tk M) ([[59]].foldl (cG tk M) (sG total tk ([],[]) false its))=_;rw[zC (by decide) ht.par.2.2.1];show(iy M [92]).foldl (cU tk) ((iy M [34]).foldl (cU tk) _)=_;rw[show iy M [34]=[34]from M.sign 34 (by decide),show iy M [92]=[92]from M.sign 92 (by decide)];show cU tk (cU tk _ 34) 92=_;unfold cU;rw[ht.par.2.2.2.1,ht.par.2.2.2.2];rfl
theorem BH:∀{its:List Item} {b:Bool},(∀e∈its,e.2.1<3)->sF M total SP its->((oj SP b its).map (iy M)).flatten.length<=5*its.length
 |[],b,_,_=>bL _
 |e::r,b,hw,h=>by
  have ih:=BH (its:=r) (b:=e.1 != 0) (fun x hx=>hw x (.tail _ hx)) fun x hx=>h x (.tail _ hx)
  rw[qC,List.map_append,bR,aY,cr];have hk:((pH e.2.2).map (iy M)).flatten=[]:=by
   rw[List.flatten_eq_nil_iff];intro x hx;obtain⟨u,hu,rfl⟩:=dt.mp hx;exact zw M ((kG e.2.2).2.1 u hu).2
  have h1:((M6 SP b e).map (iy M)).flatten.length<=5:=by
   unfold M6;split
   ·rw[List.map_append,bR,hk,gh,pr,gK,show iy M [41]=[41]from M.sign 41 (by decide)]
    decide
   ·have hs:((((SP e.2.1 e.2.2).map fun c=>[c]).map (iy M))).flatten=aH e.2.1 total:=by
     rw[iL];exact h e (.head _) |>.map
    rw[List.map_append,List.map_append,List.map_append,bR,bR,bR,hk,hs,gh,aY,aY];have n3:=(iY (hw e (.head _)) total).1.len;have e1:((if b=true then [[jH e.2.2]]else []).map (iy M)).flatten.length<=1:=by
     split
     ·rw[pr,gK,show iy M [jH e.2.2]=[jH e.2.2]from M.sign _ (BG e.2.2).2.2]
      exact bL 1
     ·exact eK _
    have e2:((if e.1=0 then [[40]]else([]:List (List Nat))).map (iy M)).flatten.length<=1:=by
     split
     ·rw[pr,gK,show iy M [40]=[40]from M.sign 40 (by decide)]
      exact bL 1
     ·exact eK _
    omega
  omega
end
end
noncomputable def DO:Cx:={vars:=[(wi,.local,false),(⟨#[119,115]⟩,.local,false),(R3,.local,false),(R4,.local,false),(Ro,.local,true),(⟨#[98]⟩,.local,false),(Ls,.local,false),(⟨#[110,116]⟩,.local,false),(OA,.local,false)],aV:=[CN,wj,WF]}
noncomputable def DP{P:Pk}{n:Nat}{YZ Y0:Tok}{C N:Addr}{mN:Str->Option Value}(W:dJ P C N mN)(iZ:P.glob CN=some (.ref C))(cA:P.glob wj=some (.builtin "len"))(zx:P.glob WF=some (.type "tuple"))(k_S:∀h,P.G h->∃(Fr:Frag) (mc:Value),Fr.In h/\readsIn Fr C mc=true/\findCls Fr (.ref C) mc R3=some (.val (.str (pyStr [32]) YZ)))(k_T:∀h,P.G h->∃(Fr:Frag) (mc:Value),Fr.In h/\readsIn Fr C mc=true/\findCls Fr (.ref C) mc R4=some (.val (.str (pyStr [9]) Y0))):{F:Addr->ao->List V->Option (ao×List V)//sw P n DO C (dW (aO (dX (aO pq.main.body 10)) 1)) F}:=⟨_,(@sw.store _ _ _ _ _ _ W 0 _ _ _ _ _ _ _ _ _ _ rfl rfl rfl rfl (ab 1 rfl rfl rfl) (@sw.st _ _ _ _ _ _ _ _ (@gQ _ _ _ ([(2,R3,.local,false),(3,R4,.local,false)]) ([_,_]) _ _ _ _ _ _ _ ⟨by decide+kernel,by decide+kernel⟩ rfl (fX.dat (qq rfl iZ rfl k_S ir) (fX.dat (qq rfl iZ rfl k_T ir) fX.nil ir) ir) (by decide) (ah (ah len0)) kt.len ir (Ug (K:=DO) (i:=2) (j:=3) rfl rfl rfl (by decide+kernel) rfl rfl rfl rfl)) (@sw.st _ _ _ _ _ _ _ _ (fV 4 rfl (by decide) (fq ag (by decide) len0) cz) (@sw.st _ _ _ _ _ _ _ _ (Dd 5 6 7 rfl rfl rfl (by decide) (by decide) (by decide) ae ir ir) (@sw.for _ _ _ _ _ _ W (false) _ _ _ _ _ _ _ _ _ _ _ rfl rfl rfl ir (aB 8 rfl (by decide) (by decide)) (@af _ _ _ _ _ _ _ (@aN _ _ _ _ _ _ _ _ _ _ (ay fk (ac (ab 8 rfl rfl rfl)) (ac (ab 2 rfl rfl rfl)) rfl) (@af _ _ _ _ _ _ _ (aI 6 rfl (by decide) (al cm (ab 6 rfl rfl rfl) ae) cz) (@af _ _ _ _ _ _ _ (aI 5 rfl (by decide) (al cm (ab 5 rfl rfl rfl) ae) cz) ai)) (@af _ _ _ _ _ _ _ (@aN _ _ _ _ _ _ _ _ _ _ (ay fk (ac (ab 8 rfl rfl rfl)) (ac (ab 3 rfl rfl rfl)) rfl) (@af _ _ _ _ _ _ _ (aI 6 rfl (by decide) (al cm (ab 6 rfl rfl rfl) ae) cz) (@af _ _ _ _ _ _ _ (aI 7 rfl (by decide) (al cm (ab 7 rfl rfl rfl) ae) cz) (@af _ _ _ _ _ _ _ (@aN _ _ _ _ _ _ _ _ _ _ (@ay _ _ _ _ _ _ _ _ _ _ Hu (ac (ab 5 rfl rfl rfl)) (aJ rfl cA rfl ju (aa (dc 4 rfl rfl rfl) ag ir) ir (ca _ _)) rfl) (@af _ _ _ _ _ _ _ (@fV _ _ _ 4 _ _ _ _ _ _ rfl (by decide) (@Dc _ _ _ _ _ _ _ _ (FW 4 rfl rfl rfl) (@H7 _ _ _ _ _ (@al _ _ _ _ _ _ _ _ _ _ _ z8 (cQ (aa ae ag ir) (by decide) (ah len0)) (@al _ _ _ _ _ _ _ _ _ _ _ cm (@al _ _ _ _ _ _ _ _ _ _ _ Er (ab 5 rfl rfl rfl) (@t7 _ _ _ _ _ _ (aJ rfl cA rfl ju (aa (dc 4 rfl rfl rfl) ag ir) ir (ca _ _)))) ae)))) cz) ai) ai) (@af _ _ _ _ _ _ _ (@um _ _ _ 4 _ _ _ _ _ _ _ _ _ _ rfl rfl rfl NR (@al _ _ _ _ _ _ _ _ _ _ _ cm (@t7 _ _ _ _ _ _ (aF (dc 4 rfl rfl rfl) (ac (ab 5 rfl rfl rfl)) cz)) ae) (ab 5 rfl rfl rfl) ir) (af (aI 5 rfl (by decide) ae cz) ai))))) (af wY ai)) ai)) ai) (@sw.store _ _ _ _ _ _ W 1 _ _ _ _ _ _ _ _ _ _ rfl rfl rfl rfl (ab 6 rfl rfl rfl) (@sw.store _ _ _ _ _ _ W 2 _ _ _ _ _ _ _ _ _ _ rfl rfl rfl rfl (ab 7 rfl rfl rfl) (@sw.store _ _ _ _ _ _ W 3 _ _ _ _ _ _ _ _ _ _ rfl rfl rfl rfl (@de _ _ _ _ _ _ _ _ (aa (zh 4 rfl rfl rfl rfl zx rfl) (aa (ab 5 rfl rfl rfl) ag ir) ir) (by decide) (ah (ah len0))) (@sw.store _ _ _ _ _ _ W 4 _ _ _ _ _ _ _ _ _ _ rfl rfl rfl rfl (@i9 _ _ _ _ _ _ _ _ _ _ _ Hv (aJ rfl cA rfl ju (aa (dc 4 rfl rfl rfl) ag ir) ir (ca _ _)) ae rfl) sw.nil ir) ir) ir) ir))))) ir)⟩
noncomputable abbrev GC:=List Int×Nat×Nat×Nat
noncomputable def grow(cnt:List Int)(b:Nat):List Int:=if cnt.length<=b then cnt++List.replicate (b-cnt.length+1) 0 else cnt
noncomputable def bump(cnt:List Int)(b:Nat):List Int:=(grow cnt b).set b (((grow cnt b)[b]?).getD 0+1)
noncomputable def kH(s:GC)(c:Nat):Sum GC GC:=if c=32 then .inl (s.1,s.2.1+1,s.2.2.1+1,s.2.2.2)else if c=9 then .inl (bump s.1 s.2.1,0,s.2.2.1+1,s.2.2.2+1)else .inr s
noncomputable def pM(l:List Nat):GC:=match bp kH l ([],0,0,0)with
 | .inl s=>s
 | .inr s=>s
theorem vO(cnt:List Int)(b:Nat):b<(grow cnt b).length/\(grow cnt b).length<=max cnt.length (b+1):=by
 unfold grow;by_cases h:cnt.length<=b
 ·rw[aw h,aY,ki,<-Nat.add_assoc,re h]
  exact⟨mT b,rf _ _⟩
 ·rw[au h]
  exact⟨Nat.not_le.mp h,xY _ _⟩
noncomputable def QO(l:List Nat):List V:=[.str l,.int (pM l).2.2.1,.int (pM l).2.2.2,.tup [.tup ((pM l).1.map .int),.int (pM l).2.1],.bool (decide ((pM l).1.length<=1))]
theorem ly{idx:Nat}{f g x ρ lv v}{r}(hl:lv.length=idx)(hs:rP x ρ=true)(hf:f ρ=some v)(hg:∃aQ,g x ρ (lv++[v])=some (aQ,r)):∃aQ,Jo idx f g x ρ lv=some (aQ,r):=by
 obtain⟨aQ,e⟩:=hg;exact⟨aQ,(aw ⟨hl,hs⟩).trans (cN hf e)⟩
theorem DQ{f g x ρ am lv}{r}(hf:f ρ=some (am,.next))(hg:∃aQ,g x am lv=some (aQ,r)):∃aQ,stW f g x ρ lv=some (aQ,r):=by
 obtain⟨aQ,e⟩:=hg;exact⟨aQ,cN hf e⟩
theorem M7{asg bf g x ρ}{l:List Nat}{lv:List V}{r}{Q:ao->Prop}(hs:rP x ρ=true)(h:∃q,gz asg bf (l.map fun c=>V.str [c]) ρ=some q/\q.2= .next/\Q q.1)(hg:∀am,Q am->∃aQ,g x am (.str l::lv)=some (aQ,r)):∃aQ,Ua asg bf g x ρ (.str l::lv)=some (aQ,r):=by
 obtain⟨⟨am,fl⟩,e,rfl,q⟩:=h;obtain⟨aQ,e'⟩:=hg am q;exact⟨aQ,(aw hs).trans (cN (a:=l) rfl (cN e e'))⟩
inductive WsA(x:Addr)(s:GC)(n:Nat)(ρ:ao):Prop
 |mk (h:YA 0 2 3 4 5 6 7 (.obj [.int (x:Nat)]) (.str [32]) (.str [9]) (.list (s.1.map .int)) (.int s.2.1) (.int s.2.2.1) (.int s.2.2.2) ρ) (hc:s.1.length<=n) (hb:s.2.1<=n)
inductive WsI(x:Addr)(l:List Nat)(ρ:ao):Prop
 |mk (s:GC) (hf:bp kH l ([],0,0,0)= .inl s) (h:WsA x s l.length ρ)
theorem QP{cnt:List Int}{b:Nat}(hc:cnt.length<=1000)(hb:b<=1000){ρ:ao}(h4:ρ 4=some (.list (cnt.map .int)))(h5:ρ 5=some (.int b)):
  (fun ρ:ao=>(eU ZA (fun ρ=>ρ 5) (jm un (cW (fun ρ=>ρ 4) fun x=>some [])) ρ).bind fun z=>if z=true then
   eY (fun ρ=>Option.map (fun y=>(upd ρ 4 y,Fl.next)) (iW Pg (fun ρ=>ρ 4) (iW zZ (fun ρ=>Option.map V.list (cW (fun x=>some (V.int 0)) (fun x=>some []) ρ)) (iW ua (iW Sd (fun ρ=>ρ 5) fun ρ=>(jm un (cW (fun ρ=>ρ 4) fun x=>some []) ρ).bind fun x=>if x.scalar=true then some x else none) fun x=>some (V.int 1))) ρ)) (fun ρ=>some (ρ,Fl.next)) ρ
   else some (ρ,Fl.next)) ρ=some (upd ρ 4 (.list ((grow cnt b).map .int)),.next):=by
 have hl:(cnt.map V.int).length=cnt.length:=List.length_map ..;have hm:(cnt.map V.int).length<=most:=by rw[hl];exact az hc (by decide)
 have hle:=bY (f:=fun ρ=>ρ 4) h4 (nZ _ hm);by_cases q:cnt.length<=b
 ·have hg:grow cnt b=cnt++List.replicate (b-cnt.length+1) 0:=aw q
  have hn:(b:Int)-((cnt.map V.int).length:Int)+1=((b-cnt.length+1:Nat):Int):=by rw[hl,<-Int.ofNat_sub q];rfl
  have hr:List.replicate (b-cnt.length+1) (V.int 0)=(List.replicate (b-cnt.length+1) (0:Int)).map V.int:=List.map_replicate.symm;have hmul:zZ (.list [.int 0]) (.int ((b:Int)-((cnt.map V.int).length:Int)+1))=some (.list (List.replicate (b-cnt.length+1) (V.int 0))):=by
   rw[hn,Lx _ _ ⟨mW _,rfl,by omega⟩,lT,List.flatten_replicate_singleton]
  refine ni (aG h5 hle (congrArg some (bo (by omega)))) (mx (bT h4 (bT rfl (ad (bT h5 (cN hle rfl) rfl) rfl) hmul) ((L3 ..).trans (aw ?_))) ?_)
  ·rw[hl,ki]
   exact az (show cnt.length+(b-cnt.length+1)<=1001 by omega) (by decide)
  ·rw[hr,<-List.map_append,<-hg]
 ·have hg:grow cnt b=cnt:=au q
  rw[hg,cj h4];exact iq (aG h5 hle (congrArg some (db (by omega)))) rfl
theorem Kb{P:Pk}{n:Nat}{C N}{mN}{W:dJ P C N mN}{tS tT g1 g2 g3 k1 k2}{x:Addr}{ρ:ao}{l:List Nat}(hl:l.length<=1000)(h0:ρ 0=some (.obj [.int (x:Nat)]))(h1:ρ 1=some (.str l)):
  ∃aQ,(DP (P:=P) (n:=n) (C:=C) (N:=N) (mN:=mN) (YZ:=tS) (Y0:=tT) W g1 k1 k2 g2 g3).1 x ρ []=some (aQ,QO l):=by
 unfold DP;dsimp only;refine ex2 ρ h0 h1 fun σ=>ly rfl (je rfl) rfl (DQ rfl (DQ rfl (DQ rfl (M7 (Q:=WsA x (pM l) l.length) (je rfl) (vl (fun c:Nat=>V.str [c]) l (WsI x) _ (fun l₁ c l' ρ hx hR=>?_) (fun ρ hR=>⟨rfl,?_⟩) ⟨([],0,0,0),rfl,⟨rfl,rfl,rfl,rfl,rfl,rfl,rfl⟩,bL _,bL _⟩) fun am hR=>?_))))
 ·obtain⟨⟨cnt,b,nn,nt⟩,hf,hA,hc,hb⟩:=hR
  dsimp only at hA hc hb;have hn:(l₁++[c]).length=l₁.length+1:=aY;have ew:l₁.length<l.length:=by rw[<-hx,aY];exact tP (g9 _)
  by_cases e1:c=32
  ·subst e1
   exact hA.ex fun σ=>⟨_,rfl,_,cf (ni rfl (mx (ad rfl rfl) (mx (ad rfl rfl) rfl))) rfl,.nx ⟨(cnt,b+1,nn+1,nt),bD hf rfl,⟨rfl,rfl,rfl,rfl,rfl,rfl,rfl⟩,by rw[hn];exact dZ hc,by rw[hn];exact eW hb⟩⟩
  ·by_cases e2:c=9
   ·subst e2
    have hg:=vO cnt b;have Kc:l₁.length+1<=1000:=az ew hl;have UG:(grow cnt b).length<=l₁.length+1:=az hg.2 (rg.mpr ⟨dZ hc,eW hb⟩);obtain⟨v,hv⟩:=get_mem hg.1;have Ol:bump cnt b=(grow cnt b).set b (v+1):=by unfold bump;rw[hv];rfl
    have Ll:((grow cnt b).map V.int).length=(grow cnt b).length:=List.length_map ..;have hgm:((grow cnt b).map V.int).length<=most:=by rw[Ll];exact az (az UG Kc) (by decide)
    have QQ:C9 (.list ((grow cnt b).map .int)) (.int b) (.int (v+1))=some (.list ((bump cnt b).map .int)):=by
     rw[O0,aw ⟨mW _,by rw[Ll];exact iN.mpr hg.1,hgm⟩,Ol,List.map_set];rfl
    exact hA.ex fun σ=>⟨_,rfl,_,cf (iq rfl (cf (ni rfl (mx (ad rfl rfl) (mx (ad rfl rfl) (cf (QP (az hc (kT Kc)) (az hb (kT Kc)) rfl rfl) (Un (ad (cN (bF rfl rfl (iu (by rw[dh,hv];rfl) hgm)) rfl) rfl) rfl rfl QQ (mx rfl rfl)))))) rfl)) rfl,.nx ⟨(bump cnt b,0,nn+1,nt+1),bD hf rfl,⟨rfl,rfl,rfl,rfl,rfl,rfl,rfl⟩,by rw[hn,Ol,List.length_set];exact UG,eK _⟩⟩
   ·have b1:([c]==[32])=false:=kQ.mpr fun z=>e1 (tW z).1
    have b2:([c]==[9])=false:=kQ.mpr fun z=>e2 (tW z).1
    have hw:pM l=(cnt,b,nn,nt):=by unfold pM;rw[<-hx,jg hf ((au e1).trans (au e2))]
    refine hA.ex fun σ=>⟨_,rfl,_,JF (iq (congrArg some b1) (JF (iq (congrArg some b2) (JF rfl)))),.br ⟨rfl,?_⟩⟩
    rw[hw];exact⟨⟨rfl,rfl,rfl,rfl,rfl,rfl,rfl⟩,az hc (dU ew),az hb (dU ew)⟩
 ·obtain⟨hA,hc,hb⟩:=hR
  have hm:((pM l).1.map V.int).length<=most:=by rw[List.length_map];exact az hc (az hl (by decide))
  have hd:decide ((((pM l).1.map V.int).length:Int)<=1)=decide ((pM l).1.length<=1):=by rw[List.length_map];exact mY.mpr jU
  exact hA.ex fun σ=>ly rfl (je rfl) rfl (ly rfl (je rfl) rfl (ly rfl (je rfl) (cB (ap (cN rfl ((Pc ..).trans (aw hm))) (ap rfl rfl)) rfl) (ly rfl (je rfl) (cB (aG (bY rfl (nZ _ hm)) rfl (congrArg some hd)) rfl) ⟨_,rfl⟩)))
 ·obtain⟨s,hf,h⟩:=hR
  have hw:pM l=s:=by unfold pM;rw[hf]
  rw[hw];exact h
noncomputable def vP:Cx:={vars:=[(wi,.local,false),(Wt,.local,false),(Ro,.local,false),(Vk,.local,false),(⟨#[105,108]⟩,.local,false),(⟨#[105]⟩,.local,false)],aV:=[wd,wj]}
noncomputable def jJ{P:Pk}{n:Nat}{C N:Addr}{mN:Str->Option Value}(W:dJ P C N mN)(aX:P.glob wd=some (.type "range"))(cA:P.glob wj=some (.builtin "len")):{f:ao->Option (ao×Fl)//ow P n vP (dW (aO (dX (aO pq.main.body 10)) 3)) f}:=⟨_,(@af _ _ _ _ _ _ _ (@w9 _ _ _ _ _ _ _ _ (@fo _ _ _ _ _ _ _ (bh (aB 2 rfl (by decide) (by decide)) (bh (aB 3 rfl (by decide) (by decide)) eH)) (bA (bA fm)) ir) (dj W 3 rfl (ab 0 rfl rfl rfl) ir) ir ir ir) (@af _ _ _ _ _ _ _ (aI 4 rfl (by decide) ae cz) (@af _ _ _ _ _ _ _ (@dB _ _ _ (false) _ _ _ _ _ _ _ (@cL _ _ _ _ _ _ _ rfl aX (@aa _ _ _ _ _ _ _ _ (ab 1 rfl rfl rfl) (@aa _ _ _ _ _ _ _ _ (aJ rfl cA rfl ju (aa (ab 2 rfl rfl rfl) ag ir) ir (ca _ _)) ag ir) ir) ir (ca _ _)) (aB 5 rfl (by decide) (by decide)) (@af _ _ _ _ _ _ _ (@aI _ _ _ 4 _ _ _ _ _ _ rfl (by decide) (@al _ _ _ _ _ _ _ _ _ _ _ cm (ab 4 rfl rfl rfl) (@al _ _ _ _ _ _ _ _ _ _ _ z8 (al nK (ab 5 rfl rfl rfl) (ab 1 rfl rfl rfl)) (aF (ab 2 rfl rfl rfl) (ac (ab 5 rfl rfl rfl)) cz))) cz) ai) cz) (@af _ _ _ _ _ _ _ (@aW _ _ _ _ _ _ (@al _ _ _ _ _ _ _ _ _ _ _ cm (ac (ab 3 rfl rfl rfl)) (@al _ _ _ _ _ _ _ _ _ _ _ z8 (ac (ab 1 rfl rfl rfl)) (@al _ _ _ _ _ _ _ _ _ _ _ cm (ac (ab 4 rfl rfl rfl)) (dj W 2 rfl (ac (ab 0 rfl rfl rfl)) ir))))) ai))))⟩
noncomputable def lz:Cx:={vars:=[(wi,.local,false),(Ro,.local,false),(Vk,.local,false)],aV:=[Eo,wj]}
noncomputable def ei{P:Pk}{n:Nat}{C N:Addr}{mN:Str->Option Value}(W:dJ P C N mN)(fg:P.glob Eo=some (.builtin "max"))(cA:P.glob wj=some (.builtin "len")):{f:ao->Option (ao×Fl)//ow P n lz (dW (aO (dX (aO pq.main.body 10)) 2)) f}:=⟨_,(@af _ _ _ _ _ _ _ (@w9 _ _ _ _ _ _ _ _ (@fo _ _ _ _ _ _ _ (bh (aB 1 rfl (by decide) (by decide)) (bh (aB 2 rfl (by decide) (by decide)) eH)) (bA (bA fm)) ir) (dj W 3 rfl (ab 0 rfl rfl rfl) ir) ir ir ir) (@af _ _ _ _ _ _ _ (@aW _ _ _ _ _ _ (@aJ _ _ _ _ _ _ _ _ _ _ _ rfl fg rfl uq (@aa _ _ _ _ _ _ _ _ (@al _ _ _ _ _ _ _ _ _ _ _ Er (@aJ _ _ _ _ _ _ _ _ _ _ _ rfl cA rfl ju (aa (ac (ab 1 rfl rfl rfl)) ag ir) ir (ca _ _)) ae) (aa (ac (ab 2 rfl rfl rfl)) ag ir) ir) ir (ca _ _))) ai))⟩
noncomputable def M8:Cx:={vars:=[(wi,.local,false),(Fx,.local,false)],aV:=[]}
noncomputable def zD{P:Pk}{n:Nat}{C N:Addr}{mN:Str->Option Value}(W:dJ P C N mN):{f:ao->Option (ao×Fl)//ow P n M8 (dW (aO (dX (aO pq.main.body 10)) 4)) f}:=⟨_,(@af _ _ _ _ _ _ _ (@aW _ _ _ _ _ _ (@i9 _ _ _ _ _ _ _ _ _ _ _ fk (dj W 3 rfl (ac (ab 0 rfl rfl rfl)) ir) (dj W 3 rfl (ac (ab 1 rfl rfl rfl)) ir) rfl)) ai)⟩
noncomputable def oK:Cx:={vars:=[(wi,.local,false),(Fx,.local,false),(Ls,.local,false),(⟨#[97]⟩,.local,true),(Rp,.local,false)],aV:=[Eo,wd]}
noncomputable def fL{P:Pk}{n:Nat}{C N:Addr}{mN:Str->Option Value}(W:dJ P C N mN)(fg:P.glob Eo=some (.builtin "max"))(aX:P.glob wd=some (.type "range")){aP:Addr}{bN:List V->Option V}(bt:mN En=some (.ref aP))(aL:∀h,P.G h->∃of fd,h.get? aP=some of/\of.cls= .type "function"/\of.data= .func fd)(bu:typeLookup (.type "object") En=pure none)(bv:aZ P n (.ref aP) bN){aE:Addr}{bi:List V->Option V}(bj:mN Hd=some (.ref aE))(aK:∀h,P.G h->∃of fd,h.get? aE=some of/\of.cls= .type "function"/\of.data= .func fd)(bk:typeLookup (.type "object") Hd=pure none)(bm:aZ P n (.ref aE) bi):{f:ao->Option (ao×Fl)//ow P n oK (dW (aO (dX (aO pq.main.body 10)) 5)) f}:=⟨_,(@af _ _ _ _ _ _ _ (@aI _ _ _ 2 _ _ _ _ _ _ rfl (by decide) (@al _ _ _ _ _ _ _ _ _ _ _ cm (@aJ _ _ _ _ _ _ _ _ _ _ _ rfl fg rfl uq (@aa _ _ _ _ _ _ _ _ (bc W (ab 0 rfl rfl rfl) bj aK bk (by decide+kernel) bm ag ir (by decide) rfl ir) (aa (bc W (ab 1 rfl rfl rfl) bj aK bk (by decide+kernel) bm ag ir (by decide) rfl ir) ag ir) ir) ir (ca _ _)) ae) cz) (@af _ _ _ _ _ _ _ (fV 3 rfl (by decide) (fq ag (by decide) len0) cz) (@af _ _ _ _ _ _ _ (@dB _ _ _ (false) _ _ _ _ _ _ _ (@cL _ _ _ _ _ _ _ rfl aX (@aa _ _ _ _ _ _ _ _ ae (aa (al cm (ab 2 rfl rfl rfl) ae) ag ir) ir) ir (ca _ _)) (aB 4 rfl (by decide) (by decide)) (@af _ _ _ _ _ _ _ (@aN _ _ _ _ _ _ _ _ _ _ (@ay _ _ _ _ _ _ _ _ _ _ wk (@bc _ _ _ _ _ _ _ W _ _ _ _ _ _ _ _ _ (ac (ab 0 rfl rfl rfl)) bt aL _ bu (by decide+kernel) bv (aa (ac (ab 4 rfl rfl rfl)) ag ir) ir (by decide) rfl ir) (@bc _ _ _ _ _ _ _ W _ _ _ _ _ _ _ _ _ (ac (ab 1 rfl rfl rfl)) bt aL _ bu (by decide+kernel) bv (aa (ac (ab 4 rfl rfl rfl)) ag ir) ir (by decide) rfl ir) rfl) (@af _ _ _ _ _ _ _ (@eG _ _ _ _ _ _ (@eF _ _ _ 3 _ _ _ _ _ _ _ _ _ rfl rfl rfl ue (@aa _ _ _ _ _ _ _ _ (@de _ _ _ _ _ _ _ _ (@aa _ _ _ _ _ _ _ _ (ab 4 rfl rfl rfl) (@aa _ _ _ _ _ _ _ _ (bc W (ab 0 rfl rfl rfl) bt aL bu (by decide+kernel) bv (aa (ab 4 rfl rfl rfl) ag ir) ir (by decide) rfl ir) (@aa _ _ _ _ _ _ _ _ (bc W (ab 1 rfl rfl rfl) bt aL bu (by decide+kernel) bv (aa (ab 4 rfl rfl rfl) ag ir) ir (by decide) rfl ir) ag ir) ir) ir) (by decide) (ah (ah (ah len0)))) ag ir) ir (by decide) rfl ir) jE ir) ai) ai) ai) cz) (af (aW (dc 3 rfl rfl rfl)) ai))))⟩
noncomputable def GD(raw M9:V)(n:Int)(nt b:Nat)(cnt:List Int):V:=.obj [raw,.int n,.int nt,.tup [.tup (cnt.map .int),.int b],M9]
noncomputable def GE(cnt:List Int)(ts:Nat):Int:=(List.range (cnt.length-ts)).foldl (fun il (j:Nat)=>il+((ts+j:Nat):Int)/ts*(cnt[ts+j]?).getD 0) 0
noncomputable def zE(cnt:List Int)(nt b ts:Nat):Int:=b+ts*(GE cnt ts+nt)
theorem r8(a b:Int):NI a b 1=(List.range (b-a).toNat).map fun(i:Nat)=>V.int (a+i):=by
 unfold NI;have e:(Builtin.Range.rangeSize a b 1).toNat=(b-a).toNat:=by
  unfold Builtin.Range.rangeSize;simp;split<;>omega
 rw[e];simp
theorem Kd{z:Int}(h0:0<=z)(h1:z<=1000000000000): -(2^64)<z/\z<2^64:=by omega
theorem Om{cnt:List Int}{ts:Nat}(hc:cnt.length<=1000)(UH:∀z∈cnt,0<=z/\z<=1000):∀(l:List Nat) (a:Int),(∀j∈l,ts+j<cnt.length)->0<=a->0<=l.foldl (fun il (j:Nat)=>il+((ts+j:Nat):Int)/ts*(cnt[ts+j]?).getD 0) a/\l.foldl (fun il (j:Nat)=>il+((ts+j:Nat):Int)/ts*(cnt[ts+j]?).getD 0) a<=a+l.length*1000000
 |[],a,_,h=>⟨h,Int.le_of_eq (Int.add_zero a).symm⟩
 |j::l,a,hj,h=>by
  have LA:=hj j gJ;obtain⟨z,hz⟩:=get_mem LA;have RU:=UH z (kb hz);have h1:0<=((ts+j:Nat):Int)/ts:=Int.ediv_nonneg (mW _) (mW _);have h2:((ts+j:Nat):Int)/ts<=1000:=kf (Int.ediv_le_self (ts:Int) (mW _)) (jU.mpr (az (dU LA) hc));have h3:=Int.mul_nonneg h1 RU.1;have h4:((ts+j:Nat):Int)/ts*z<=1000*1000:=Int.mul_le_mul h2 RU.2 RU.1 (by decide);rw[dg,hz,tQ,cr];generalize((ts+j:Nat):Int)/ts*z=w at h3 h4;have:=Om hc UH l (a+w) (fun i hi=>hj i (ge _ hi)) (by omega);exact⟨this.1,by omega⟩
theorem QR{ts n:Nat}(h:n<=1000)(SG:ts<=1000):oy [.int ts,.int n]=some ((List.range (n-ts)).map fun(j:Nat)=>V.int ((ts+j:Nat):Int)):=by
 have s6:∀k:Nat,k<=1000->eZ (k:Int)=true:=fun k h=>(bX _ _).mpr ⟨bo (kf (by decide) (mW k)),bo (kf (jU.mpr h) (by decide))⟩
 have e:((n:Int)-ts).toNat=n-ts:=Int.toNat_sub ..;rw[ug,s6 ts SG,s6 n h,r8,e];rfl
theorem GG{P:Pk}{n:Nat}{C N}{mN}{W:dJ P C N mN}{g1 g2}{ρ:ao}{raw M9:V}{k:Int}{nt b ts:Nat}{cnt:List Int}(hc:cnt.length<=1000)(UH:∀z∈cnt,0<=z/\z<=1000)(hnt:nt<=1000)(SG:0<ts)(UI:ts<=1000)(h0:ρ 0=some (GD raw M9 k nt b cnt))(h1:ρ 1=some (.int ts)):
  Ends (jJ (P:=P) (n:=n) (C:=C) (N:=N) (mN:=mN) W g1 g2).1 ρ (.int (zE cnt nt b ts)):=by
 have hl:(cnt.map V.int).length=cnt.length:=List.length_map ..;have DA:(cnt.map V.int).length<=most:=by rw[hl];exact az hc (by decide)
 have hz:0<(ts:Int)/\(ts:Int)<1073741824:=⟨iN.mpr SG,Int.lt_of_le_of_lt (jU.mpr UI) (by decide)⟩;unfold jJ;dsimp only;refine ex2 ρ h0 h1 fun σ=>bw rfl (bw rfl (eB (fun ρ=>Wb 0 1 2 3 4 (GD raw M9 k nt b cnt) (.int ts) (.tup (cnt.map .int)) (.int b) (.int (GE cnt ts)) ρ) (eT (cN (ap rfl (ap (bY rfl (JB _ DA)) rfl)) (by rw[hl];exact QR hc UI)) (lu (fun(j:Nat)=>V.int ((ts+j:Nat):Int)) (List.range (cnt.length-ts)) (fun l ρ=>Wb 0 1 2 3 4 (GD raw M9 k nt b cnt) (.int ts) (.tup (cnt.map .int)) (.int b) (.int (l.foldl (fun il (j:Nat)=>il+((ts+j:Nat):Int)/ts*(cnt[ts+j]?).getD 0) 0)) ρ) (fun l j ρ hj ew hR=>?_) ⟨rfl,rfl,rfl,rfl,rfl⟩)) fun am hR=>?_))
 ·have hjr:=ec.mp hj
  obtain⟨z,Y1⟩:=get_mem (l:=cnt) (k:=ts+j) (Nat.add_lt_of_lt_sub' hjr);have RU:=UH z (kb Y1);rw[dF,dg,mX,Y1];exact hR.ex fun σ=>⟨_,_,rfl,mx (ad rfl (bT (bT rfl rfl (E6 _ _ hz)) (bF rfl rfl (MI (by rw[dh,Y1];rfl) DA)) (zi _ _ (Kd RU.1 (kf RU.2 (by decide)))))) rfl,⟨rfl,rfl,rfl,rfl,rfl⟩⟩
 ·have hb:0<=GE cnt ts/\GE cnt ts<=0+((List.range (cnt.length-ts)).length:Int)*1000000:=Om hc UH _ 0 (fun j hj=>by have:=ec.mp hj;omega) (Int.le_refl 0)
  rw[eM]at hb;exact hR.ex fun σ=>df (ad rfl (bT rfl (ad rfl rfl) (zi _ _ (Kd (by omega) (by omega)))))
noncomputable def DR:Cx:={vars:=[(Hf,.cell,false),(Rr,.local,true),(Wq,.local,false),(⟨#[102,114,111,110,116]⟩,.local,false),(R8,.local,false),(⟨#[110,117,109,98,101,114]⟩,.local,false)],aV:=[wd,wj,Hc]}
noncomputable def wE:Cx:={vars:=[(⟨#[107]⟩,.local,false),(Hf,.cell,false)],aV:=[]}
noncomputable def pN{P:Pk}{n:Nat}(aX:P.glob wd=some (.type "range"))(cA:P.glob wj=some (.builtin "len")){dL:Addr}{iz:List V->Option V}(iA:P.glob Hc=some (.ref dL))(iB:∀h,P.G h->∃o fd,h.get? dL=some o/\o.data= .func fd)(iC:aZ P n (.ref dL) iz):{f:ao->Option (ao×Fl)//ow P n DR (dW (aO pq.main.body 66)) f}:=⟨_,(@af _ _ _ _ _ _ _ (fV 1 rfl (by decide) AH cz) (@af _ _ _ _ _ _ _ (@dB _ _ _ (false) _ _ _ _ _ _ _ (@dH _ _ _ _ _ (@fQ _ _ _ _ _ _ (@fW _ _ _ (wE) _ _ _ _ _ _ _ _ _ _ (1) ([0]) (@cL _ _ _ _ _ _ _ rfl aX (@aa _ _ _ _ _ _ _ _ (aJ rfl cA rfl ju (aa (ab 0 rfl rfl rfl) ag ir) ir (ca _ _)) ag ir) ir (ca _ _)) (cu (by decide+kernel)) (aB 0 rfl (by decide) (by decide)) (@gO _ _ _ _ _ (@ay _ _ _ _ _ _ _ _ _ _ fk (@aF _ _ _ _ _ _ _ _ _ (aF (ac (ab 1 rfl rfl rfl)) (ac (ab 0 rfl rfl rfl)) cz) ae cz) ae rfl)) (ab 0 rfl rfl rfl) cz))) (aB 2 rfl (by decide) (by decide)) (@af _ _ _ _ _ _ _ (aI 3 rfl (by decide) (aC rfl) cz) (@af _ _ _ _ _ _ _ (@dB _ _ _ (false) _ _ _ _ _ _ _ (@cL _ _ _ _ _ _ _ rfl aX (@aa _ _ _ _ _ _ _ _ (ab 2 rfl rfl rfl) (@aa _ _ _ _ _ _ _ _ (aJ rfl cA rfl ju (aa (ab 0 rfl rfl rfl) ag ir) ir (ca _ _)) ag ir) ir) ir (ca _ _)) (aB 4 rfl (by decide) (by decide)) (@af _ _ _ _ _ _ _ (@aI _ _ _ 5 _ _ _ _ _ _ rfl (by decide) (@aF _ _ _ _ _ _ _ _ _ (aF (ab 0 rfl rfl rfl) (ac (ab 4 rfl rfl rfl)) cz) ae cz) cz) (@af _ _ _ _ _ _ _ (@cS _ _ _ 3 _ _ _ _ _ _ _ _ rfl (by decide) rfl rfl gR (@jb _ _ _ _ _ _ _ _ _ _ _ (ay fk (ac (ab 5 rfl rfl rfl)) ae rfl) (aC rfl) (@jb _ _ _ _ _ _ _ _ _ _ _ (ay fk (ac (ab 5 rfl rfl rfl)) ae rfl) (aC rfl) (aC rfl)))) (@af _ _ _ _ _ _ _ (@aN _ _ _ _ _ _ _ _ _ _ (@sh.all _ _ _ _ _ _ (@E9.cons _ _ _ _ _ _ _ (ay fk (ac (ab 5 rfl rfl rfl)) ae rfl) (@E9.cons _ _ _ _ _ _ _ (@ja _ _ _ _ _ (@bM _ _ _ _ _ _ _ _ _ _ _ rfl iA rfl iB iC (aa (ac (ab 3 rfl rfl rfl)) ag ir) ir (ca _ _)) cz) (@E9.cons _ _ _ _ _ _ _ (@wS _ _ _ _ _ _ (@ja _ _ _ _ _ (@bM _ _ _ _ _ _ _ _ _ _ _ rfl iA rfl iB iC (@aa _ _ _ _ _ _ _ _ (@al _ _ _ _ _ _ _ _ _ _ _ cm (al cm (aC rfl) (ac (ab 3 rfl rfl rfl))) (aC rfl)) ag ir) ir (ca _ _)) cz)) E9.nil)))) (af (um 1 rfl rfl rfl NR (ab 4 rfl rfl rfl) (ab 2 rfl rfl rfl) ir) (af wY ai)) ai) ai))) cz) ai)) cz) (af (aW (dc 1 rfl rfl rfl)) ai)))⟩
noncomputable def eD(d k:Nat):Sum Nat Unit:=if k=7 then .inl (d+1)else if k=8 then(if d=0 then .inr ()else .inl (d-1))else .inl d
noncomputable def wF(ks:List Nat):Bool:=match bp eD ks 0 with
 | .inl d=>d==0
 | .inr _=>false
noncomputable def sH(k:Nat):List (List Nat):=if k=7 then [[34],[41],[34],[40]]else if k=8 then [[92,40],[41]]else []
noncomputable def GH(k:Nat):List (List Nat):=if k=7 then [[40]]else if k=8 then [[92,40],[41]]else []
noncomputable def fM(ks:List Nat):List Nat:=((ks.map sH).flatten).flatten
theorem Na(k:Nat):(sH k).flatten=if k=7 then [34,41,34,40]else if k=8 then [92,40,41]else []:=by
 unfold sH;split
 ·rfl
 ·split<;>rfl
theorem mH(ks:List Nat)(k:Nat):fM (ks++[k])=fM ks++(sH k).flatten:=by
 unfold fM;rw[List.map_append,bR,bR,pr,gK]
theorem vQ(k:Nat):(∀u∈sH k,wy u=true)/\(∀u∈GH k,wy u=true)/\(sH k).flatten.length<=4/\(sH k).length<=4:=by
 unfold sH GH;split
 ·exact⟨by decide,by decide,by decide,by decide⟩
 ·split
  ·exact⟨by decide,by decide,by decide,by decide⟩
  ·exact⟨by decide,by decide,by decide,by decide⟩
theorem r9:∀ks:List Nat,(fM ks).length<=4*ks.length/\((ks.map sH).flatten).length<=4*ks.length
 |[]=>⟨bL _,bL _⟩
 |k::ks=>by
  obtain⟨h1,h2⟩:=r9 ks;obtain⟨_,_,h3,h4⟩:=vQ k;unfold fM at*;rw[bB,eQ,bR,aY,aY,cr];omega
theorem vR:∀(ks:List Nat) (k:List (List Nat)),((ks.map sH).flatten).foldl cx (k,none)=(k++(ks.map GH).flatten,none)
 |[],k=>by rw[po,po,List.flatten_nil,ea];rfl
 |x::ks,k=>by
  have h:(sH x).foldl cx (k,none)=(k++GH x,none):=by
   unfold sH GH;split
   ·rfl
   ·split
    ·show(k++[[92,40]]++[[41]],none)=_
     rw[List.append_assoc];rfl
    ·rw[ea];rfl
  rw[bB,bB,eQ,eQ,dF,h,vR ks,List.append_assoc]
theorem qF:∀(ks:List Nat) (d:Nat),bp n5 ((ks.map GH).flatten) d=bp eD ks d
 |[],d=>rfl
 |x::ks,d=>by
  rw[bB,eQ,jf,fe];unfold GH eD;by_cases q:x=7
  ·rw[aw q,aw q]
   exact qF ks (d+1)
  ·rw[au q,au q]
   by_cases q8:x=8
   ·rw[aw q8,aw q8]
    by_cases qd:d=0
    ·rw[aw qd,qd];rfl
    ·rw[au qd]
     have:bp n5 [[92,40],[41]] d= .inl (d-1):=by
      have e41:n5 d [41]= .inl (d-1):=by unfold n5;rw[au (by decide),aw rfl,au qd]
      rw[fe];show bp n5 [[41]] d=_;rw[fe,e41];rfl
     rw[this];exact qF ks (d-1)
   ·rw[au q8,au q8]
    exact qF ks d
noncomputable def QS(F:List V->Option V):Prop:=∀ks:List Nat,ks.length<=40->F [.str (fM ks)]=some (.bool (wF ks))/\F [.str ([41]++fM ks++[40])]=some (.bool false)
theorem UJ{F1 F:List V->Option V}(uA:∀us,nj us=true->us.flatten.length<=10000->us.length<=10000->F1 [.str us.flatten]=some (.str (fG us).flatten))
  (hF:∀t ws,F1 [.str t]=some (.str (List.flatten ws))->nj ws=true->ws.flatten.length<=10000->F [.str t]=some (.bool (pF ws))):QS F:=fun ks hl=>by
 have Wd:∀us:List (List Nat),(∀u∈us,wy u=true)->nj us=true:=fun us h=>by
  have:=qE (us:=us) (vs:=[]) h rfl;rwa[ea]at this
 have h1:∀u∈(ks.map sH).flatten,wy u=true:=fun u hu=>by
  obtain⟨us,hus,hu⟩:=List.mem_flatten.mp hu;obtain⟨k,_,rfl⟩:=dt.mp hus;exact(vQ k).1 u hu
 have h2:∀u∈(ks.map GH).flatten,wy u=true:=fun u hu=>by
  obtain⟨us,hus,hu⟩:=List.mem_flatten.mp hu;obtain⟨k,_,rfl⟩:=dt.mp hus;exact(vQ k).2.1 u hu
 obtain⟨l1,l2⟩:=r9 ks;have l1':((ks.map sH).flatten).flatten.length<=160:=az l1 (jk 4 hl);have l2':((ks.map sH).flatten).length<=160:=az l2 (jk 4 hl);constructor
 ·have hs:fG ((ks.map sH).flatten)=(ks.map GH).flatten:=by
   unfold fG;rw[vR];show []++_++[]=_;rw[ea,gh]
  have:=uA _ (Wd _ h1) (az l1' (by decide)) (az l2' (by decide));rw[hs]at this;refine(hF _ _ this (Wd _ h2) (by have:=qt ((ks.map sH).flatten);rw[hs]at this;omega)).trans ?_;refine congrArg (fun z=>some (V.bool z)) ?_;have e:=qF ks 0;unfold pF wF;generalize bp n5 (ks.map GH).flatten 0=A at*;subst e;cases bp eD ks 0<;>rfl
 ·have h3:∀u∈[[41]]++(ks.map sH).flatten++[[40]],wy u=true:=fun u hu=>by
   rcases bZ.mp hu with hu|hu
   ·rcases bZ.mp hu with hu|hu
    ·rw[cq.mp hu];rfl
    ·exact h1 u hu
   ·rw[cq.mp hu];rfl
  have h4:∀u∈[[41]]++(ks.map GH).flatten++[[40]],wy u=true:=fun u hu=>by
   rcases bZ.mp hu with hu|hu
   ·rcases bZ.mp hu with hu|hu
    ·rw[cq.mp hu];rfl
    ·exact h2 u hu
   ·rw[cq.mp hu];rfl
  have pV:([[41]]++(ks.map sH).flatten++[[40]]).flatten=[41]++fM ks++[40]:=by
   rw[bR,bR];rfl
  have hs:fG ([[41]]++(ks.map sH).flatten++[[40]])=[[41]]++(ks.map GH).flatten++[[40]]:=by
   have e:([[41]]++(ks.map sH).flatten++[[40]]).foldl cx ([],none)=([[41]]++(ks.map GH).flatten++[[40]],none):=by
    rw[dF,dF];show([[40]]:List (List Nat)).foldl cx ((ks.map sH).flatten.foldl cx ([[41]],none))=_;rw[vR];rfl
   unfold fG;rw[e];exact ea _
  have:=uA _ (Wd _ h3) (by rw[bR,bR,aY,aY];show 1+_+1<=_;omega) (by rw[aY,aY];show 1+_+1<=_;omega);rw[hs,pV]at this;refine(hF _ _ this (Wd _ h4) (by have:=qt ([[41]]++(ks.map sH).flatten++[[40]]);rw[hs,pV,aY,aY]at this;have l3:(fM ks).length<=160:=l1';have e1:[41].length=1:=rfl;have e2:[40].length=1:=rfl;omega)).trans ?_;rfl
theorem QT{f g:ao->Option (ao×Fl)}{ρ am:ao}{Q:ao×Fl->Prop}(h:f ρ=some (am,.next))(hg:∃r,g am=some r/\Q r):∃r,eY f g ρ=some r/\Q r:=by
 obtain⟨r,e,q⟩:=hg;exact⟨r,cN h e,q⟩
theorem Ke{f:ao->Option (ao×Fl)}{ρ:ao}{Q:ao->Prop}(h:∃r,f ρ=some r/\r.2= .next/\Q r.1):∃r,eY f (fun ρ=>some (ρ,.next)) ρ=some r/\r.2= .next/\Q r.1:=by
 obtain⟨⟨am,fl⟩,e,rfl,q⟩:=h;exact⟨(am,.next),cN e rfl,rfl,q⟩
noncomputable def RV(pre:List Nat)(x:Nat):Sum (List Nat) Nat:=if x=8/\wF (pre++[x])=true then .inr pre.length else .inl (pre++[x])
noncomputable def fZ(ks:List Nat):Option Nat:=match bp RV ks []with
 | .inr p=>some p
 | .inl _=>none
noncomputable def zX(ks:List Nat)(st:List (Nat×Nat))(k:Nat):List (Nat×Nat):=match fZ (ks.drop k)with
 |some p=>st++[(k,k+p)]
 |none=>st
noncomputable def mI(ks:List Nat):List Nat:=(List.range ks.length).filter fun k=>decide (ks[k]?=some 7)
noncomputable def iT(ks:List Nat):List (Nat×Nat):=(mI ks).foldl (zX ks) []
noncomputable def dV(st:List (Nat×Nat)):V:=.dict (st.map fun e=>(e.1:Int)) (st.map fun e=>V.int e.2)
theorem BI(ks:List Nat):∀(l:List Nat) (st:List (Nat×Nat)),(∀e∈l.foldl (zX ks) st,e.1∈l\/e∈st)/\(l.foldl (zX ks) st).length<=st.length+l.length
 |[],st=>⟨fun e h=>.inr h,bL _⟩
 |k::l,st=>by
  obtain⟨h1,h2⟩:=BI ks l (zX ks st k);have h3:(∀e∈zX ks st k,e.1=k\/e∈st)/\(zX ks st k).length<=st.length+1:=by
   unfold zX;split
   ·refine⟨fun e he=>?_,by rw[aY];exact bL _⟩
    rcases bZ.mp he with he|he
    ·exact .inr he
    ·rw[cq.mp he];exact .inl rfl
   ·exact⟨fun e he=>.inr he,jT _⟩
  rw[dg,cr];refine⟨fun e he=>?_,by omega⟩;rcases h1 e he with q|q
  ·exact .inl (.tail _ q)
  ·rcases h3.1 e q with q|q
   ·exact .inl (q▸ .head _)
   ·exact .inr q
inductive EnI(ev d:V)(k:Nat)(pre:List Nat)(ρ:ao):Prop
 |mk (h:Qv 0 1 2 3 ev d (.int k) (.str (fM pre)) ρ) (hc:bp RV pre []= .inl pre)
inductive Y2(ev:V)(st:List (Nat×Nat))(ρ:ao):Prop
 |mk (h0:ρ 0=some ev) (h1:ρ 1=some (dV st))
theorem Kf{k n:Nat}(hk:k<=n)(hn:n<=40):oy [.int k,.int n]=some ((List.range (n-k)).map fun(j:Nat)=>V.int ((k+j:Nat):Int)):=by
 have h6:(eZ (k:Int)&&eZ (n:Int))=true:=(bX _ _).mpr ⟨(bX _ _).mpr ⟨bo (by omega),bo (by omega)⟩,(bX _ _).mpr ⟨bo (by omega),bo (by omega)⟩⟩;have hz:((n:Int)-(k:Int)).toNat=n-k:=by omega
 rw[ug,h6,r8,hz];exact congrArg some (lS fun j ø=>congrArg V.int (by omega))
theorem Kg{n:Nat}(hn:n<=40):oy [.int n]=some ((List.range n).map fun(j:Nat)=>V.int (j:Int)):=by
 have h6:eZ (n:Int)=true:=(bX _ _).mpr ⟨bo (by omega),bo (by omega)⟩;have hz:((n:Int)-0).toNat=n:=by omega
 rw[HG,h6,r8,hz];exact congrArg some (lS fun j ø=>congrArg V.int (by omega))
theorem Kh{P:Pk}{n:Nat}{g1 g2 a3 F3 g3 h3 c3}{ρ:ao}{bg:List sA}(hl:bg.length<=40)(hF:QS F3)(h0:ρ 0=some (.list (bg.map sB))):
  Ends (pN (P:=P) (n:=n) g1 g2 (dL:=a3) (iz:=F3) g3 h3 c3).1 ρ (dV (iT (bg.map (·.2)))):=by
 have DA:(bg.map sB).length<=most:=by rw[List.length_map];exact az hl (by decide)
 have DS:∀{k:Nat} {e:sA},bg[k]?=some e->iP (.list (bg.map sB)) (.int k)=some (sB e):=fun h=>iu (by rw[dh,h];rfl) DA
 have RX:∀{k:Nat} {e:sA},bg[k]?=some e->(bg.map (·.2))[k]?=some e.2:=fun h=>by rw[dh,h];rfl
 have Dk:iT (bg.map (·.2))=((List.range bg.length).filter fun k=>decide ((bg.map (·.2))[k]?=some 7)).foldl (zX (bg.map (·.2))) []:=by
  unfold iT mI;rw[List.length_map]
 rw[Dk];unfold pN;dsimp only;refine ex1 ρ h0 fun σ=>bw rfl (eB (Y2 (.list (bg.map sB)) (((List.range bg.length).filter fun k=>decide ((bg.map (·.2))[k]?=some 7)).foldl (zX (bg.map (·.2))) [])) (eT (cN (jt (fun ρ=>ρ 1=some (.list (bg.map sB))) (List.range bg.length) (fun(k:Nat)=>V.int k) (fun k=>decide ((bg.map (·.2))[k]?=some 7)) (fun(k:Nat)=>V.int k) (cN (ap (bY rfl (nZ _ DA)) rfl) (by rw[List.length_map];exact Kg hl)) (by rw[eM];exact eV hl (by decide)) (fun k hk ρ hI=>?_) rfl) rfl) (qs (fun(k:Nat)=>V.int k) ((List.range bg.length).filter fun k=>decide ((bg.map (·.2))[k]?=some 7)) (fun l ρ=>Y2 (.list (bg.map sB)) (l.foldl (zX (bg.map (·.2))) []) ρ) (fun l k l' ρ hx hR=>?_) ⟨rfl,rfl⟩)) fun am hR=>df hR.2)
 ·obtain⟨e,he⟩:=get_mem (ec.mp hk)
  refine ex1 ρ hI fun σ=>⟨_,rfl,rfl,(aG (bF (bF rfl rfl (DS he)) rfl rfl) rfl (bU _ _)).trans (congrArg some ?_),fun ø=>rfl⟩
  rw[RX he];exact mY.mpr ⟨fun h=>congrArg some (Int.ofNat_inj.mp h),fun h=>congrArg Int.ofNat (Option.some.inj h)⟩
 ·have oB:k∈(List.range bg.length).filter fun k=>decide ((bg.map (·.2))[k]?=some 7):=hx▸ck _ gJ
  have Lp:k<bg.length:=ec.mp (gw.mp oB).1;have EQ:k∉l:=fun hk=>by
   have:(l++k::l').Nodup:=hx▸(List.nodup_range.filter _);exact(lP.mp this).2.2 k hk k (.head _) rfl
  have UA:l.length<=40:=by
   have:(l++k::l').length<=bg.length:=by
    rw[hx];have:=rh (fun k=>decide ((bg.map (·.2))[k]?=some 7)) (List.range bg.length);rwa[eM]at this
   rw[aY]at this;omega
  obtain⟨UK,hlen⟩:=BI (bg.map (·.2)) l [];rw[dF,dg,mX];generalize l.foldl (zX (bg.map (·.2))) []=st at*;have RL:∀e∈st,e.1≠k:=fun e he q=>(UK e he).elim (fun z=>EQ (q▸z)) fun z=>nomatch z
  have Ii:C9 (dV st) (.int k) (.int (k:Nat))=C9 (dV st) (.int k) (.int (k:Nat)):=rfl;have QQ:∀p:Nat,C9 (dV st) (.int k) (.int (p:Nat))=some (dV (st++[(k,p)])):=fun p=>by
   have hc:(st.map fun e=>(e.1:Int)).contains (k:Int)=false:=by
    rw[List.contains_eq_mem];refine db fun q=>?_
    obtain⟨e,he,q⟩:=dt.mp q;exact RL e he (Int.ofNat_inj.mp q)
   unfold dV;rw[OZ,aw (by rw[List.length_map];exact az hlen (az (by rw[gy,gg];exact UA) (by decide)))];unfold w6 An;rw[hc,au (by decide),au (by decide),List.map_append,List.map_append];rfl
  have ab3:(bg.map (·.2)).length<=40:=by rw[List.length_map];exact hl
  refine ex2 ρ hR.1 hR.2 fun σ=>⟨_,rfl,QT rfl (Ke (eT (cN (ap rfl (ap (bY rfl (nZ _ DA)) rfl)) (by rw[List.length_map];exact Kf (dU Lp) hl)) (Bn (fun i ρ=>EnI (.list (bg.map sB)) (dV st) k (((bg.map (·.2)).drop k).take i) ρ) (fun r=>r.2= .next/\Y2 (.list (bg.map sB)) (zX (bg.map (·.2)) st k) r.1) (fun i x ρ hx hR=>?_) (fun ρ hR=>⟨rfl,?_⟩) ⟨⟨rfl,rfl,rfl,rfl⟩,rfl⟩)))⟩
  ·rw[dh]at hx
   refine cI hx fun j hj e=>?_
   obtain rfl:i=j:=by
    have:=gH.mp hj;have:=this.2;simpa using this
   subst e;have hi:i<bg.length-k:=by
    have:=(gH.mp hj).1;rwa[eM]at this
   obtain⟨e,he⟩:=get_mem (l:=bg) (k:=k+i) (by omega);have hd:((bg.map (·.2)).drop k)[i]?=some e.2:=by rw[tJ];exact RX he
   have hdr:((bg.map (·.2)).drop k).take (i+1)=((bg.map (·.2)).drop k).take i++[e.2]:=by rw[xS,hd];rfl
   have Fy:((bg.map (·.2)).drop k).take i++e.2::((bg.map (·.2)).drop k).drop (i+1)=(bg.map (·.2)).drop k:=by
    have h1:=gH.mp hd;rw[<-h1.2,<-List.drop_eq_getElem_cons h1.1,xZ]
   have Af:(((bg.map (·.2)).drop k).take i).length=i:=by
    rw[tO,nG,List.length_map];omega
   obtain⟨hA,hc⟩:=hR;rw[hdr];generalize Tv:((bg.map (·.2)).drop k).take i=pre at*;have hle:(pre++[e.2]).length<=40:=by rw[aY,Af];show i+1<=40;omega
   obtain⟨f1,f2⟩:=hF _ hle;have pV:=(r9 (pre++[e.2])).1;rw[mH,aY]at pV;have hm1:(fM pre).length+(sH e.2).flatten.length<=most:=az pV (az (jk 4 hle) (by decide));have Yc:[41].length+(fM (pre++[e.2])).length<=most:=by rw[mH,aY];exact az (jX (az pV (jk 4 hle)) 1) (by decide)
   have hm3:([41]++fM (pre++[e.2])).length+[40].length<=most:=by rw[aY,mH,aY];exact az (jS (jX (az pV (jk 4 hle)) 1) 1) (by decide)
   have J6:Av (.str (fM pre)) (.str (sH e.2).flatten)=some (.str (fM (pre++[e.2]))):=by rw[ff _ _ hm1,mH]
   have hfr:∀aQ:ao,aQ 5=some (.int e.2)->CO (eU np (fun ρ=>ρ 5) fun x=>some (V.int 7)) (fun x=>some (V.str [34,41,34,40])) (CO (eU np (fun ρ=>ρ 5) fun x=>some (V.int 8)) (fun x=>some (V.str [92,40,41])) fun x=>some (V.str [])) aQ=some (.str (sH e.2).flatten):=fun aQ h5=>by
    rw[Na];by_cases q7:e.2=7
    ·rw[aw q7];exact ni (aG h5 rfl ((bU _ _).trans (congrArg some (bo (by rw[q7];rfl))))) rfl
    ·rw[au q7]
     refine iq (aG h5 rfl ((bU _ _).trans (congrArg some (db (by omega))))) ?_;by_cases q8:e.2=8
     ·rw[aw q8];exact ni (aG h5 rfl ((bU _ _).trans (congrArg some (bo (by rw[q8];rfl))))) rfl
     ·rw[au q8];exact iq (aG h5 rfl ((bU _ _).trans (congrArg some (db (by omega))))) rfl
   have BE:∀aQ:ao,aQ 5=some (.int e.2)->aQ 3=some (.str (fM (pre++[e.2])))->ou (eU np (fun ρ=>ρ 5) fun x=>some (V.int 8)) (ou (fun ρ=>(jm F3 (cW (fun ρ=>ρ 3) fun x=>some []) ρ).bind px) (ou (fun ρ=>Option.map (fun x=>!x) ((jm F3 (cW (iW ua (iW ua (fun x=>some (V.str [41])) fun ρ=>ρ 3) fun x=>some (V.str [40])) fun x=>some []) ρ).bind px)) fun x=>some true)) aQ=some (decide ((e.2:Int)=8)&&(wF (pre++[e.2])&&((!false)&&true))):=fun aQ h5 h3=>
    gC (aG h5 rfl (bU _ _)) (gC (cN (bY h3 f1) rfl) (gC (cB (cN (bY (bT (bT rfl h3 (ft _ _ Yc)) rfl (ft _ _ hm3)) f2) rfl) rfl) rfl))
   refine hA.ex fun σ=>?_
   cases hb:decide ((e.2:Int)=8)&&(wF (pre++[e.2])&&((!false)&&true))with
   |true=>
    have hq:e.2=8/\wF (pre++[e.2])=true:=by
     simp only[bX,mS]at hb;exact⟨by omega,hb.2.1⟩
    have Ci:fZ ((bg.map (·.2)).drop k)=some i:=by unfold fZ;rw[<-Fy,jg hc (aw hq)];exact congrArg some Af
    have hr:zX (bg.map (·.2)) st k=st++[(k,k+i)]:=by unfold zX;rw[Ci]
    rw[hr];exact⟨_,_,rfl,mx (bF (bF rfl rfl (DS he)) rfl rfl) (oC rfl (hfr _ rfl) J6 (JF (ni ((BE _ rfl rfl).trans (congrArg some hb)) (Un rfl rfl rfl (QQ (k+i)) (JF rfl))))),rfl,rfl,rfl⟩
   |false=>
    have hq:¬(e.2=8/\wF (pre++[e.2])=true):=fun q=>by
     rw[q.2,bo (show(e.2:Int)=8 by rw[q.1];rfl)]at hb;cases hb
    exact⟨_,_,rfl,mx (bF (bF rfl rfl (DS he)) rfl rfl) (oC rfl (hfr _ rfl) J6 (cf (iq ((BE _ rfl rfl).trans (congrArg some hb)) rfl) rfl)),⟨rfl,rfl,rfl,rfl⟩,bD hc (au hq)⟩
  ·obtain⟨hA,hc⟩:=hR
   rw[List.length_map,eM,qU (by rw[nG,List.length_map];exact bL _)]at hc;have hr:zX (bg.map (·.2)) st k=st:=by
    have Ci:fZ ((bg.map (·.2)).drop k)=none:=by unfold fZ;rw[hc]
    unfold zX;rw[Ci]
   rw[hr];exact⟨hA.1,hA.2⟩
noncomputable def zF:Cx:={vars:=[(Hf,.cell,false),(Rr,.cell,false),(Hg,.cell,false),(⟨#[108,101,97,100]⟩,.local,false),(Rt,.local,false),(R8,.cell,false),(⟨#[97,114,111,117,110,100]⟩,.local,false)],aV:=[wd,wj,CN]}
noncomputable def sQ:Cx:={vars:=[(⟨#[107]⟩,.local,false),(Hg,.cell,false),(Hf,.cell,false)],aV:=[]}
noncomputable def sR:Cx:={vars:=[(⟨#[107]⟩,.local,false),(Hg,.cell,false),(R8,.cell,false),(Rr,.cell,false),(Hf,.cell,false)],aV:=[]}
noncomputable def mJ{P:Pk}{n:Nat}(aX:P.glob wd=some (.type "range"))(cA:P.glob wj=some (.builtin "len"))(iZ:P.glob CN=some (.ref C)){Ki:List V->Option (List V)}(wG:Dt P n C Ki):{f:ao->Option (ao×Fl)//ow P n zF (dW (aO pq.main.body 67)) f}:=⟨_,(@af _ _ _ _ _ _ _ (@gQ _ _ _ ([(3,⟨#[108,101,97,100]⟩,.local,false),(4,Rt,.local,false)]) ([_,_]) _ _ _ _ _ _ _ ⟨by decide+kernel,by decide+kernel⟩ rfl (fX.dat (aC rfl) (fX.dat (aC rfl) fX.nil ir) ir) (by decide) (ah (ah len0)) kt.len ir (Mx rfl rfl)) (@af _ _ _ _ _ _ _ (@dB _ _ _ (false) _ _ _ _ _ _ _ (@dH _ _ _ _ _ (@fQ _ _ _ _ _ _ (@fW _ _ _ (sQ) _ _ _ _ _ _ _ _ _ _ (1) ([2,0]) (@cL _ _ _ _ _ _ _ rfl aX (@aa _ _ _ _ _ _ _ _ (aJ rfl cA rfl ju (aa (ab 0 rfl rfl rfl) ag ir) ir (ca _ _)) ag ir) ir (ca _ _)) (cu (by decide+kernel)) (aB 0 rfl (by decide) (by decide)) (@gO _ _ _ _ _ (@ay _ _ _ _ _ _ _ _ _ _ fk (@aF _ _ _ _ _ _ _ _ _ (aF (ac (ab 2 rfl rfl rfl)) (ac (ab 0 rfl rfl rfl)) cz) ae cz) (ac (ab 1 rfl rfl rfl)) rfl)) (ab 0 rfl rfl rfl) cz))) (aB 5 rfl (by decide) (by decide)) (@af _ _ _ _ _ _ _ (@aI _ _ _ 6 _ _ _ _ _ _ rfl (by decide) (@aJ _ _ _ _ _ _ _ _ _ _ _ rfl cA rfl ju (@aa _ _ _ _ _ _ _ _ (@fQ _ _ _ _ _ _ (@fW _ _ _ (sR) _ _ _ _ _ _ _ _ _ _ (1) ([2,5,1,0]) (DC (ab 1 rfl rfl rfl)) (cu (by decide+kernel)) (aB 0 rfl (by decide) (by decide)) (@gO _ _ _ _ _ (@gk _ _ _ _ _ _ _ _ (@ay _ _ _ _ _ _ _ _ _ _ fk (@aF _ _ _ _ _ _ _ _ _ (aF (ac (ab 4 rfl rfl rfl)) (ac (ab 0 rfl rfl rfl)) cz) ae cz) (ac (ab 1 rfl rfl rfl)) rfl) (@vp _ _ _ _ _ _ _ _ _ _ _ _ _ _ OM Hv (ac (ab 0 rfl rfl rfl)) (ac (ab 2 rfl rfl rfl)) (aF (ac (ab 3 rfl rfl rfl)) (ac (ab 0 rfl rfl rfl)) cz) rfl))) (ab 0 rfl rfl rfl) cz)) ag ir) ir (ca _ _)) cz) (@af _ _ _ _ _ _ _ (@aN _ _ _ _ _ _ _ _ _ _ (@sh.or _ _ _ _ _ _ _ _ (@ay _ _ _ _ _ _ _ _ _ _ fk (@aF _ _ _ _ _ _ _ _ _ (aF (ac (ab 0 rfl rfl rfl)) (ac (ab 5 rfl rfl rfl)) cz) ae cz) ae rfl) (ay Sf (ac (ab 6 rfl rfl rfl)) ae rfl)) (@af _ _ _ _ _ _ _ (@cS _ _ _ 3 _ _ _ _ _ _ _ _ rfl (by decide) rfl rfl gR (al cm (al z8 (aC rfl) (ab 6 rfl rfl rfl)) (aC rfl))) ai) (af (cS 4 rfl (by decide) rfl rfl gR (aC rfl)) ai)) ai)) cz) (@af _ _ _ _ _ _ _ (@aW _ _ _ _ _ _ (@eo.mk _ _ _ _ _ _ wG _ _ _ _ _ rfl iZ rfl (@aa _ _ _ _ _ _ _ _ (@al _ _ _ _ _ _ _ _ _ _ _ cm (@al _ _ _ _ _ _ _ _ _ _ _ cm (al cm (ac (ab 3 rfl rfl rfl)) (ac (ab 4 rfl rfl rfl))) (ac (ab 2 rfl rfl rfl))) (aC rfl)) ag ir) ir)) ai)))⟩
noncomputable def DT(bg:List sA)(nm:List Nat)(k:Nat):Bool:=decide ((bg[k]?).map (·.1)=some nm)
noncomputable def dq(bg:List sA)(st:List (Nat×Nat))(nm:List Nat)(p:Nat):Nat:=(st.filter fun e=>DT bg nm e.1&&(decide (e.1<p)&&decide (p<=e.2))).length
noncomputable def ga(f:Nat->Nat)(ks:List Nat)(st:List Nat×Nat)(p:Nat):List Nat×Nat:=if ks[p]?=some 7\/0<f p then(st.1++[f p],st.2)else(st.1,st.2+1)
noncomputable def tj(bg:List sA)(nm:List Nat):List Nat:=(List.range bg.length).filter (DT bg nm)
noncomputable def mK(bg:List sA)(st:List (Nat×Nat))(nm:List Nat):List Nat×Nat:=(tj bg nm).foldl (ga (dq bg st nm) (bg.map (·.2))) ([],0)
noncomputable def iU(rs:List Nat):List Nat:=(rs.map fun r=>List.replicate r 32++[9]).flatten
noncomputable def DU(x:List Nat×Nat)(nm:List Nat):List Nat:=iU x.1++List.replicate x.2 32++nm++[32,9,32]
theorem xu(rs:List Nat)(r:Nat):iU (rs++[r])=iU rs++(List.replicate r 32++[9]):=by
 unfold iU;rw[List.map_append,bR,pr,gK]
theorem vS(f:Nat->Nat)(ks:List Nat)(m:Nat)(hf:∀p,f p<=m):∀(l:List Nat) (st:List Nat×Nat),(iU (l.foldl (ga f ks) st).1).length+(l.foldl (ga f ks) st).2<=(iU st.1).length+st.2+(m+1)*l.length
 |[],st=>bL _
 |p::l,st=>by
  rw[dg,cr];have ih:=vS f ks m hf l (ga f ks st p);have h1:(iU (ga f ks st p).1).length+(ga f ks st p).2<=(iU st.1).length+st.2+(m+1):=by
   unfold ga;have:=hf p;split
   ·rw[xu,aY,aY,ki]
    show _+(f p+1)+st.2<=_;omega
   ·show _+(st.2+1)<=_
    omega
  rw[Nat.mul_add_one];omega
theorem rep1(n c:Nat):(List.replicate n [c]).flatten=List.replicate n c:=by
 induction n with
 |zero=>rfl
 |succ n ih=>rw[qO,eQ,ih,qO];rfl
theorem Fj:∀{st:List (Nat×Nat)},(st.map (·.1)).Nodup->∀e∈st,p0 (st.map fun e=>(e.1:Int)) (st.map fun e=>V.int e.2) (e.1:Int)=some (.int e.2)
 |[],_,e,he=>nomatch he
 |x::st,hn,e,he=>by
  rw[bB,bB,sX];rw[bB,mU]at hn;rcases bI.mp he with rfl|he
  ·exact aw rfl
  ·rw[au fun z=>hn.1 (dt.mpr ⟨e,he,(Int.ofNat_inj.mp z).symm⟩)]
   exact Fj hn.2 e he
inductive InI(ev d:V)(nm:List Nat)(st:List Nat×Nat)(ρ:ao):Prop
 |mk (h0:ρ 0=some ev) (h1:ρ 1=some d) (h2:ρ 2=some (.str nm)) (h3:ρ 3=some (.str (iU st.1))) (h4:ρ 4=some (.str (List.replicate st.2 32)))
theorem DV{P:Pk}{n:Nat}{C g1 g2 g3 F m}{ρ:ao}{bg:List sA}{st:List (Nat×Nat)}{nm:List Nat}(hl4:bg.length<=24)(iX:st.length<=24)(EQ:(st.map (·.1)).Nodup)(Po:∀e∈st,e.1<bg.length)(Lm:nm.length<=3)(hF:∀l:List Nat,l.length<=1000->F [.str l]=some (QO l))
  (h0:ρ 0=some (.list (bg.map sB))) (h1:ρ 1=some (dV st)) (h2:ρ 2=some (.str nm)):
  Ends (mJ (C:=C) (P:=P) (n:=n) g1 g2 g3 (Ki:=F) m).1 ρ (.obj (QO (DU (mK bg st nm) nm))):=by
 have hl:bg.length<=40:=az hl4 (by decide);have DA:(bg.map sB).length<=most:=by rw[List.length_map];exact az hl (by decide)
 have DS:∀{k:Nat} {e:sA},bg[k]?=some e->iP (.list (bg.map sB)) (.int k)=some (sB e):=fun h=>iu (by rw[dh,h];rfl) DA
 have UL:∀{k:Nat} {e:sA},bg[k]?=some e->DT bg nm k=(e.1==nm):=fun h=>by
  unfold DT;rw[h,lH,nz,jR];exact⟨Option.some.inj,congrArg some⟩
 have Y3:∀p,dq bg st nm p<=24:=fun p=>az (rh _ _) iX
 have Af:(tj bg nm).length<=24:=by
  have:=rh (DT bg nm) (List.range bg.length);rw[eM]at this;exact az this hl4
 unfold mJ;dsimp only;refine ex3 ρ h0 h1 h2 fun σ=>bw rfl (eB (InI (.list (bg.map sB)) (dV st) nm (mK bg st nm)) (eT (cN (jt (fun ρ=>ρ 1=some (.str nm)/\ρ 2=some (.list (bg.map sB))) (List.range bg.length) (fun(k:Nat)=>V.int k) (DT bg nm) (fun(k:Nat)=>V.int k) (cN (ap (bY rfl (nZ _ DA)) rfl) (by rw[List.length_map];exact Kg hl)) (by rw[eM];exact eV hl (by decide)) (fun k hk ρ hI=>?_) ⟨rfl,rfl⟩) rfl) (lu (fun(k:Nat)=>V.int k) (tj bg nm) (fun l ρ=>InI (.list (bg.map sB)) (dV st) nm (l.foldl (ga (dq bg st nm) (bg.map (·.2))) ([],0)) ρ) (fun l p ρ hp ew hR=>?_) ⟨rfl,rfl,rfl,rfl,rfl⟩)) fun am hR=>?_)
 ·obtain⟨e,he⟩:=get_mem (ec.mp hk)
  exact ex2 ρ hI.1 hI.2 fun σ=>⟨_,rfl,⟨rfl,rfl⟩,(aG (bF (bF rfl rfl (DS he)) rfl rfl) rfl (DM _ _)).trans (congrArg some (UL he).symm),fun ø=>rfl⟩
 ·have hpr:p<bg.length:=ec.mp (gw.mp hp).1
  obtain⟨e,he⟩:=get_mem hpr;have RX:(bg.map (·.2))[p]?=some e.2:=by rw[dh,he];rfl
  have hb:=vS (dq bg st nm) (bg.map (·.2)) 24 Y3 l ([],0);have Vu:(iU (l.foldl (ga (dq bg st nm) (bg.map (·.2))) ([],0)).1).length+(l.foldl (ga (dq bg st nm) (bg.map (·.2))) ([],0)).2<=840:=by
   refine az hb (az (jX (jk 25 (az (dU ew) Af)) _) ?_);show 0+0+25*24<=840
   decide
  rw[dF,dg,mX];generalize l.foldl (ga (dq bg st nm) (bg.map (·.2))) ([],0)=q at*;obtain⟨r0,r1,r2,r3,r4⟩:=hR;have Y4:=Y3 p;have EK:most=1000000:=rfl;refine ex5 ρ r0 r1 r2 r3 r4 fun σ=>?_
  have On:∀aQ:ao,aQ 0=some (.list (bg.map sB))->aQ 1=some (dV st)->aQ 2=some (.str nm)->aQ 5=some (.int p)->jm un (cW (m4 (fun ρ=>(ρ 1).bind JR) (fun ρ y=>some (upd ρ 0 y)) (ou (eU np (C5 (C5 (fun ρ=>ρ 4) fun ρ=>ρ 0) fun x=>some (V.int 0)) fun ρ=>ρ 1) (chn ltV Vp (fun ρ=>ρ 0) (fun ρ=>ρ 2) (C5 (fun ρ=>ρ 3) fun ρ=>ρ 0))) (fun ρ=>ρ 0) 1 [2,5,1,0]) fun x=>some []) aQ=some (.int (dq bg st nm p:Nat)):=fun aQ z0 z1 z2 z5=>by
   refine(bY (jt (nt:=1) (cap:=[2,5,1,0]) (fun ρ=>(ρ 1=some (.str nm)/\ρ 2=some (.int p))/\ρ 3=some (dV st)/\ρ 4=some (.list (bg.map sB))) st (fun e=>V.int e.1) (fun e=>DT bg nm e.1&&(decide (e.1<p)&&decide (p<=e.2))) (fun e=>V.int e.1) (cN z1 ?_) (eV iX (by decide)) (fun x hx ρ hI=>?_) ⟨⟨z2,z5⟩,z1,z0⟩) (nZ _ ?_)).trans ?_
   ·show some ((st.map fun e=>(e.1:Int)).map V.int)=_
    rw[iL];rfl
   ·obtain⟨e',Hj⟩:=get_mem (Po x hx)
    obtain⟨⟨i1,i2⟩,i3,i4⟩:=hI;refine ex4 ρ i1 i2 i3 i4 fun σ=>⟨_,rfl,⟨⟨rfl,rfl⟩,rfl,rfl⟩,gC ((aG (bF (bF rfl rfl (DS Hj)) rfl rfl) rfl (DM _ _)).trans (congrArg some (UL Hj).symm)) (cN rfl (cN rfl ?_)),fun ø=>rfl⟩
    have LH:ltV (.int x.1) (.int p)=some (decide (x.1<p)):=by
     show some (decide ((x.1:Int)<p))=_;exact congrArg some (mY.mpr iN)
    have Y5:Vp (.int p) (.int x.2)=some (decide (p<=x.2)):=by
     show some (decide ((p:Int)<=x.2))=_;exact congrArg some (mY.mpr jU)
    refine cN LH ?_
    cases hq:decide (x.1<p)with
    |false=>rfl
    |true=>
     rw[iM];exact(aw rfl).trans (cN (bF rfl rfl (Fj EQ x hx)) Y5)
   ·rw[List.length_map];exact az (rh _ _) (az iX (by decide))
   ·rw[List.length_map];rfl
  have UM:∀aQ:ao,aQ 0=some (.list (bg.map sB))->aQ 5=some (.int p)->aQ 6=some (.int (dq bg st nm p:Nat))->Rw (eU np (C5 (C5 (fun ρ=>ρ 0) fun ρ=>ρ 5) fun x=>some (V.int 1)) fun x=>some (V.int 7)) (eU WM (fun ρ=>ρ 6) fun x=>some (V.int 0)) aQ=some (decide ((bg.map (·.2))[p]?=some 7\/0<dq bg st nm p)):=fun aQ z0 z5 z6=>by
   refine(Bu (aG (bF (bF z0 z5 (DS he)) rfl rfl) rfl (bU _ _)) (aG z6 rfl rfl)).trans (congrArg some ?_);rw[lH,lG,nz,nz,nz,RX];exact or_congr ⟨fun h=>congrArg some (Int.ofNat_inj.mp h),fun h=>congrArg Int.ofNat (Option.some.inj h)⟩ iN
  unfold ga;by_cases hq:(bg.map (·.2))[p]?=some 7\/0<dq bg st nm p
  ·rw[aw hq]
   have hm:zZ (.str [32]) (.int (dq bg st nm p:Nat))=some (.str (List.replicate (dq bg st nm p) 32)):=by
    rw[Lw _ _ ⟨mW _,rfl,by omega⟩,lT,rep1]
   exact⟨_,_,rfl,mx (On _ rfl rfl rfl rfl) (cf (ni ((UM _ rfl rfl rfl).trans (congrArg some (bo hq))) (oC rfl (bT (bT rfl rfl hm) rfl (ft _ _ (by rw[ki];exact az (jS Y4 1) (by decide)))) (ff _ _ (by rw[aY,ki];show _+(_+1)<=_;omega)) rfl)) rfl),rfl,rfl,rfl,congrArg (fun z=>some (V.str z)) (xu _ _).symm,rfl⟩
  ·rw[au hq]
   exact⟨_,_,rfl,mx (On _ rfl rfl rfl rfl) (cf (iq ((UM _ rfl rfl rfl).trans (congrArg some (db hq))) (oC rfl rfl (ff _ _ (by rw[ki];show _+1<=_;omega)) rfl)) rfl),rfl,rfl,rfl,rfl,congrArg (fun z=>some (V.str z)) (List.replicate_succ' (n:=q.2) (a:=32)).symm⟩
 ·have hb:=vS (dq bg st nm) (bg.map (·.2)) 24 Y3 (tj bg nm) ([],0)
  have Vu:(iU (mK bg st nm).1).length+(mK bg st nm).2<=840:=by
   refine az hb (az (jX (jk 25 Af) _) ?_);show 0+0+25*24<=840
   decide
  generalize mK bg st nm=q at*;obtain⟨r0,r1,r2,r3,r4⟩:=hR;have EK:most=1000000:=rfl;refine ex3 am r2 r3 r4 fun σ=>df (cN (ap (bT (bT (bT rfl rfl (ft _ _ ?_)) rfl (ft _ _ ?_)) rfl (ft _ _ ?_)) rfl) (cB (hF _ ?_) rfl))
  ·rw[ki];omega
  ·rw[aY,ki];omega
  ·rw[aY,aY,ki];show _+3<=most;omega
  ·rw[aY,aY,aY,ki];show _+3<=1000;omega
section
noncomputable def iJ(ks:List Nat):Nat->List Nat
 |0=>[]
 |p+1=>if ks[p]?=some 7 then iJ ks p++[p]else if ks[p]?=some 8 then(iJ ks p).dropLast else iJ ks p
theorem Fk(ks:List Nat):iJ ks 0=[]:=rfl
theorem zG(ks:List Nat)(p:Nat):iJ ks (p+1)=if ks[p]?=some 7 then iJ ks p++[p]else if ks[p]?=some 8 then(iJ ks p).dropLast else iJ ks p:=rfl
section
variable{ks:List Nat}
theorem vT{α:Type}{l:List α}{p:Nat}{x:α}(h:l[p]?=some x):l.take p++x::l.drop (p+1)=l/\l.take (p+1)=l.take p++[x]:=by
 have h1:=gH.mp h;refine⟨?_,by rw[xS,h];rfl⟩;rw[<-h1.2,<-List.drop_eq_getElem_cons h1.1,xZ]
theorem xv{d:Nat}(h:bp eD ks 0= .inl d):∀p,p<=ks.length->bp eD (ks.take p) 0= .inl (iJ ks p).length/\(ks[p]?=some 8->iJ ks p≠[]):=by
 have go:∀p,p<=ks.length->bp eD (ks.take p) 0= .inl (iJ ks p).length->(ks[p]?=some 8->iJ ks p≠[]):=fun p hp hf h8 hz=>by
  rw[hz]at hf;have:=jg (l':=ks.drop (p+1)) hf (show eD 0 8= .inr ()from rfl);rw[(vT h8).1,h]at this;cases this
 intro p
 induction p with
 |zero=>exact fun hp=>⟨rfl,go 0 hp rfl⟩
 |succ p ih=>
  intro hp;obtain⟨i1,i2⟩:=ih (kT hp);have main:bp eD (ks.take (p+1)) 0= .inl (iJ ks (p+1)).length:=by
   obtain⟨x,hx⟩:=get_mem (l:=ks) hp;rw[(vT hx).2,zG,hx];refine bD i1 ?_;unfold eD;by_cases q7:x=7
   ·rw[aw q7,aw (congrArg some q7)]
    exact congrArg Sum.inl (by rw[aY];rfl)
   ·rw[au q7,au fun z=>q7 (Option.some.inj z)]
    by_cases q8:x=8
    ·rw[aw q8,aw (congrArg some q8),au fun z=>i2 (q8▸hx) (CJ z)]
     exact congrArg Sum.inl pt.symm
    ·rw[au q8,au fun z=>q8 (Option.some.inj z)]
  exact⟨main,go (p+1) hp main⟩
inductive OpI(ks:List Nat)(p k:Nat)(b:List Nat):Prop
 |mk (lt:k<p) (h7:ks[k]?=some 7) (hf:bp eD ((ks.drop k).take (p-k)) 0= .inl (b.length+1)) (hc:bp RV ((ks.drop k).take (p-k)) []= .inl ((ks.drop k).take (p-k)))
theorem lA{p k x:Nat}(hk:k<=p)(hx:ks[p]?=some x):(ks.drop k).take (p+1-k)=(ks.drop k).take (p-k)++[x]/\(ks.drop k).take (p-k)++x::(ks.drop k).drop (p-k+1)=ks.drop k:=by
 have h:(ks.drop k)[p-k]?=some x:=by rw[tJ,re hk];exact hx
 have e:p+1-k=p-k+1:=Nat.succ_sub hk;rw[e];exact⟨(vT h).2,(vT h).1⟩
theorem BJ{p k:Nat}(hp:p<=ks.length):((ks.drop k).take (p-k)).length=p-k:=by
 rw[tO,nG];exact xX (Nat.sub_le_sub_right hp k)
theorem zH{d:Nat}(h:bp eD ks 0= .inl d):∀p,p<=ks.length->(∀a k b,iJ ks p=a++k::b->OpI ks p k b)/\(∀k,k<p->ks[k]?=some 7->k∉iJ ks p->∃m,k<=m/\m<p/\fZ (ks.drop k)=some (m-k))/\(∀k∈iJ ks p,k<p)/\(iJ ks p).Nodup:=by
 intro p
 induction p with
 |zero=>
  refine fun ø=>⟨fun a k b e=>?_,fun k hk ø ø=>absurd hk (Nat.not_lt_zero k),fun k hk=>?_,xP⟩
  ·rw[Fk]at e
   cases a<;>cases e
  ·rw[Fk]at hk
   cases hk
 |succ p ih=>
  intro hp;obtain⟨i1,i2,i3,i4⟩:=ih (kT hp);have cZ:=(xv h p (kT hp)).2;obtain⟨x,hx⟩:=get_mem (l:=ks) hp;rw[zG,hx];by_cases q7:x=7
  ·subst q7
   rw[aw rfl];refine⟨fun a k b e=>?_,fun k hk h7 hn=>?_,fun k hk=>?_,?_⟩
   ·rcases List.eq_nil_or_concat b with rfl|⟨b',y,rfl⟩
    ·have e':=List.append_inj' e rfl
     cases e'.2;obtain⟨t1,t2⟩:=lA (bL p) hx;rw[tK,List.take_zero,gh]at t1;exact⟨mT _,hx,by rw[t1];rfl,by rw[t1];rfl⟩
    ·rw[List.concat_eq_append,show a++k::(b'++[y])=(a++k::b')++[y] by rw[List.append_assoc];rfl]at e
     have e':=List.append_inj' e rfl;obtain⟨lt,h7,hf,hc⟩:=i1 a k b' e'.1;obtain⟨t1,t2⟩:=lA (dU lt) hx;refine⟨kS lt,h7,?_,?_⟩
     ·rw[t1,List.concat_eq_append,aY];exact bD hf rfl
     ·rw[t1];exact bD hc (au fun z=>nomatch z.1)
   ·have JV:k<p:=CK (tX hk) fun z=>hn (ck _ (z▸ .head _))
    obtain⟨m,m1,m2,m3⟩:=i2 k JV h7 fun z=>hn (cP _ z)
    exact⟨m,m1,kS m2,m3⟩
   ·rcases bZ.mp hk with hk|hk
    ·exact kS (i3 k hk)
    ·rw[cq.mp hk];exact mT _
   ·exact lP.mpr ⟨i4,mU.mpr ⟨tF,xP⟩,fun a ha b hb z=>by rw[cq.mp hb]at z;exact gv _ (z▸i3 a ha)⟩
  ·rw[au fun z=>q7 (Option.some.inj z)]
   by_cases q8:x=8
   ·subst q8
    rw[aw rfl];have hn:=cZ hx;have hl:=List.dropLast_concat_getLast hn;generalize(iJ ks p).getLast hn=y at hl;generalize hs:(iJ ks p).dropLast=s at hl;obtain⟨ylt,y7,yf,yc⟩:=i1 s y [] hl.symm;obtain⟨t1,t2⟩:=lA (dU ylt) hx;have ycl:fZ (ks.drop y)=some (p-y):=by
     unfold fZ;rw[<-t2,jg yc (aw ⟨rfl,?_⟩)]
     ·exact congrArg some (BJ (kT hp))
     ·unfold wF
      rw[bD yf (show eD (0+1) 8= .inl 0 from rfl)];rfl
    have JT:∀k∈s,k∈iJ ks p:=fun k hk=>hl▸cP _ hk
    refine⟨fun a k b e=>?_,fun k hk h7 hnk=>?_,fun k hk=>kS (i3 k (JT k hk)),?_⟩
    ·obtain⟨lt,h7,hf,hc⟩:=i1 a k (b++[y]) (by rw[<-hl,e,List.append_assoc];rfl)
     obtain⟨t1,t2⟩:=lA (dU lt) hx;rw[aY]at hf;have hd:eD (b.length+[y].length+1) 8= .inl (b.length+1):=rfl;refine⟨kS lt,h7,?_,?_⟩
     ·rw[t1];exact bD hf hd
     ·rw[t1]
      refine bD hc (au fun z=>?_);have:=z.2;unfold wF at this;rw[bD hf hd]at this;cases this
    ·have JV:k<p:=CK (tX hk) fun z=>by rw[z,hx]at h7;cases h7
     by_cases qy:k=y
     ·exact⟨p,dU JV,mT _,qy▸ycl⟩
     ·obtain⟨m,m1,m2,m3⟩:=i2 k JV h7 fun z=>by
       rw[<-hl]at z;rcases bZ.mp z with z|z
       ·exact hnk z
       ·exact qy (cq.mp z)
      exact⟨m,m1,kS m2,m3⟩
    ·rw[<-hl]at i4
     exact(lP.mp i4).1
   ·rw[au fun z=>q8 (Option.some.inj z)]
    refine⟨fun a k b e=>?_,fun k hk h7 hn=>?_,fun k hk=>kS (i3 k hk),i4⟩
    ·obtain⟨lt,h7,hf,hc⟩:=i1 a k b e
     obtain⟨t1,t2⟩:=lA (dU lt) hx;refine⟨kS lt,h7,?_,?_⟩
     ·rw[t1];exact bD hf ((au q7).trans (au q8))
     ·rw[t1];exact bD hc (au fun z=>q8 z.1)
    ·have JV:k<p:=CK (tX hk) fun z=>by rw[z,hx]at h7;exact q7 (Option.some.inj h7)
     obtain⟨m,m1,m2,m3⟩:=i2 k JV h7 hn;exact⟨m,m1,kS m2,m3⟩
theorem Fm:∀(l pre:List Nat) (j:Nat),bp RV l pre= .inr j->pre.length<=j
 |[],pre,j,h=>nomatch h
 |x::l,pre,j,h=>by
  rw[fe]at h;unfold RV at h;by_cases q:x=8/\wF (pre++[x])=true
  ·rw[aw q]at h
   exact jj (Sum.inr.inj h)
  ·rw[au q]at h
   have:=Fm l (pre++[x]) j h;rw[aY]at this;exact kT this
theorem Nb(h:bp eD ks 0= .inl 0){p:Nat}(hp:p<=ks.length)(k:Nat):k∈iJ ks p<->∃m,k<p/\ks[k]?=some 7/\fZ (ks.drop k)=some m/\p<=k+m:=by
 obtain⟨i1,i2,i3,_⟩:=zH h p hp;constructor
 ·intro hk
  obtain⟨a,b,e⟩:=List.append_of_mem hk;obtain⟨lt,h7,hf,hc⟩:=i1 a k b e;obtain⟨_,j2,_,_⟩:=zH h ks.length (bL _);have Dk:iJ ks ks.length=[]:=by
   have:=(xv h ks.length (bL _)).1;rw[xN,h]at this;exact CJ (Sum.inl.inj this).symm
  obtain⟨m,m1,m2,m3⟩:=j2 k (gH.mp h7).1 h7 (by rw[Dk];exact tF);refine⟨m-k,lt,h7,m3,?_⟩;unfold fZ at m3;have e2:ks.drop k=(ks.drop k).take (p-k)++(ks.drop k).drop (p-k):=(xZ ..).symm;rw[e2,jf,hc]at m3
  cases hq:bp RV ((ks.drop k).drop (p-k)) ((ks.drop k).take (p-k))with
  |inl z=>dsimp only at m3;rw[hq]at m3;cases m3
  |inr z=>
   dsimp only at m3;rw[hq]at m3;have:=Fm _ _ _ hq;rw[BJ hp]at this;have:=Option.some.inj m3;omega
 ·rintro⟨m,lt,h7,Ci,hm⟩
  refine CF fun hn=>?_
  obtain⟨m',m1,m2,m3⟩:=i2 k lt h7 hn;rw[Ci]at m3;have:=Option.some.inj m3;omega
end
end
noncomputable def UN(ks:List Nat)(k:Nat):Option (Nat×Nat):=(fZ (ks.drop k)).map fun p=>(k,k+p)
theorem vU(ks:List Nat):∀(l:List Nat) (st:List (Nat×Nat)),l.foldl (zX ks) st=st++l.filterMap (UN ks)
 |[],st=>(ea _).symm
 |k::l,st=>by
  rw[dg,vU ks l,qX];unfold zX UN
  cases fZ (ks.drop k)with
  |none=>rfl
  |some p=>exact List.append_assoc _ _ _
theorem vV{ks:List Nat}{e:Nat×Nat}:e∈iT ks<->∃m,ks[e.1]?=some 7/\fZ (ks.drop e.1)=some m/\e.2=e.1+m:=by
 unfold iT;rw[vU,gh,List.mem_filterMap];constructor
 ·rintro⟨k,hk,h⟩
  refine cI h fun m hm e=>?_
  subst e;exact⟨m,cV (gw.mp hk).2,hm,rfl⟩
 ·rintro⟨m,h1,h2,h3⟩
  refine⟨e.1,gw.mpr ⟨ec.mpr (gH.mp h1).1,bo h1⟩,?_⟩;unfold UN;rw[h2,pv,<-h3]
theorem xw(ks:List Nat):((iT ks).map (·.1)).Nodup/\(iT ks).length<=ks.length:=by
 unfold iT;rw[vU,gh];have hn:(mI ks).Nodup:=List.nodup_range.filter _;have hl:(mI ks).length<=ks.length:=az (rh _ _) (jj eM);refine⟨?_,az (List.length_filterMap_le _ _) hl⟩;have e:((mI ks).filterMap (UN ks)).map (·.1)=(mI ks).filter fun k=>(fZ (ks.drop k)).isSome:=by
  generalize mI ks=l
  induction l with
  |nil=>rfl
  |cons k l ih=>
   rw[qX,qV];unfold UN
   cases fZ (ks.drop k)with
   |none=>exact ih
   |some m=>exact congrArg (k:: ·) ih
 rw[e];exact hn.filter _
theorem DW{bg:List sA}{nm:List Nat}(h:bp eD (bg.map (·.2)) 0= .inl 0){p:Nat}(hp:p<=bg.length):dq bg (iT (bg.map (·.2))) nm p=(iJ (bg.map (·.2)) p).countP (DT bg nm):=by
 generalize RX:bg.map (·.2)=ks at h;have hpk:p<=ks.length:=by rw[<-RX,List.length_map];exact hp
 unfold dq;rw[List.countP_eq_length_filter,<-List.length_map (f:=fun e:Nat×Nat=>e.1)];refine List.Perm.length_eq ((List.perm_ext_iff_of_nodup ?_ ((zH h p hpk).2.2.2.filter _)).mpr fun k=>?_)
 ·exact(List.filter_sublist.map _).nodup (xw ks).1
 rw[dt,gw,Nb h hpk];constructor
 ·rintro⟨e,he,rfl⟩
  obtain⟨h1,h2⟩:=gw.mp he;obtain⟨m,h3,h4,h5⟩:=vV.mp h1;obtain⟨h6,h7⟩:=(bX _ _).mp h2;obtain⟨h8,h9⟩:=(bX _ _).mp h7;exact⟨⟨m,cV h8,h3,h4,h5▸cV h9⟩,h6⟩
 ·rintro⟨⟨m,h1,h2,h3,h4⟩,h5⟩
  exact⟨(k,k+m),gw.mpr ⟨vV.mpr ⟨m,h2,h3,rfl⟩,(bX _ _).mpr ⟨h5,(bX _ _).mpr ⟨bo h1,bo h4⟩⟩⟩,rfl⟩
noncomputable abbrev Kj:=List (List Nat)×List Nat×Nat
noncomputable def Kk(nm:List Nat)(s:Kj)(N:List Nat)(o:Bool):List Nat×Nat:=if N=nm then(if o=true\/0<s.1.count nm then(s.2.1++[s.1.count nm],s.2.2)else(s.2.1,s.2.2+1))else s.2
noncomputable def vW(nm:List Nat)(s:Kj)(e:sA):Kj:=(if e.2=7 then s.1++[e.1]else if e.2=8 then s.1.dropLast else s.1,Kk nm s e.1 (decide (e.2=7)))
noncomputable def BK(bg:List sA)(k:Nat):List Nat:=((bg[k]?).map (·.1)).getD []
theorem BL{bg:List sA}{nm:List Nat}(h:bp eD (bg.map (·.2)) 0= .inl 0)(hn:nm≠[]):mK bg (iT (bg.map (·.2))) nm=(bg.foldl (vW nm) ([],[],0)).2:=by
 have QU:∀l:List Nat,(l.map (BK bg)).count nm=l.countP (DT bg nm):=fun l=>by
  unfold List.count;rw[List.countP_map];refine List.countP_congr fun k ø=>?_
  show(BK bg k==nm)=true<->DT bg nm k=true;unfold BK DT;rw[jR,nz]
  cases (bg[k]?).map (·.1)with
  |none=>exact⟨fun z=>absurd z.symm hn,fun z=>nomatch z⟩
  |some x=>exact⟨congrArg some,Option.some.inj⟩
 have key:∀p,p<=bg.length->(bg.take p).foldl (vW nm) ([],[],0)=((iJ (bg.map (·.2)) p).map (BK bg),((List.range p).filter (DT bg nm)).foldl (ga (dq bg (iT (bg.map (·.2))) nm) (bg.map (·.2))) ([],0)):=fun p=>by
  induction p with
  |zero=>exact fun ø=>rfl
  |succ p ih=>
   intro hp;obtain⟨e,he⟩:=get_mem (l:=bg) hp;have hk:(bg.map (·.2))[p]?=some e.2:=by rw[dh,he];rfl
   have hna:BK bg p=e.1:=by unfold BK;rw[he];rfl
   have UO:DT bg nm p=decide (e.1=nm):=by unfold DT;rw[he];exact mY.mpr ⟨Option.some.inj,congrArg some⟩
   have hA:=DW (nm:=nm) h (kT hp);rw[<-QU]at hA;rw[(vT he).2,dF,ih (kT hp),dg,mX,tN,List.filter_append,dF,zG,hk];generalize iJ (bg.map (·.2)) p=S at*;generalize((List.range p).filter (DT bg nm)).foldl (ga (dq bg (iT (bg.map (·.2))) nm) (bg.map (·.2))) ([],0)=q at*;refine Prod.ext ?_ ?_
   ·show(if e.2=7 then _ else _)=_
    by_cases q7:e.2=7
    ·rw[aw q7,aw (congrArg some q7),List.map_append,pr,hna]
    ·rw[au q7,au fun z=>q7 (Option.some.inj z)]
     by_cases q8:e.2=8
     ·rw[aw q8,aw (congrArg some q8),List.map_dropLast]
     ·rw[au q8,au fun z=>q8 (Option.some.inj z)]
   ·show Kk nm (S.map (BK bg),q) e.1 (decide (e.2=7))=_
    unfold Kk;by_cases qn:e.1=nm
    ·rw[aw qn,qV,aw (UO.trans (bo qn)),List.filter_nil,dg,mX]
     unfold ga;rw[hk,hA];by_cases q7:decide (e.2=7)=true\/0<(S.map (BK bg)).count nm
     ·exact(aw q7).trans (aw (q7.imp (fun z=>congrArg some (cV z)) id)).symm
     ·exact(au q7).trans (au fun z=>q7 (Or.imp (fun z=>bo (Option.some.inj z)) id z)).symm
    ·rw[au qn,qV,au fun z=>qn (cV (UO.symm.trans z)),List.filter_nil]
     rfl
 have:=key bg.length (bL _);rw[xN]at this;rw[this];rfl
noncomputable def sI:Cx:={vars:=[(Le,.local,false),(Rq,.local,false),(Vm,.cell,true),(Vn,.cell,false),(Rt,.cell,false),(WH,.local,true),(R7,.local,false),(Hg,.local,false),(OD,.local,false)],aV:=[wd,Eo]}
noncomputable def zI:Cx:={vars:=[(Le,.local,false),(Rq,.local,false),(Vm,.cell,false),(Vn,.cell,false),(Rt,.cell,false),(WH,.local,true),(R7,.local,false),(Hg,.local,false),(OD,.local,false)],aV:=[wd,Eo]}
noncomputable def sS:Cx:={vars:=[(WI,.cell,false),(Rt,.cell,false),(Vn,.cell,false),(Vm,.cell,false)],aV:=[wj]}
noncomputable def sU:Cx:={vars:=[(⟨#[115]⟩,.local,false),(WI,.cell,false)],aV:=[]}
noncomputable def ol{P:Pk}{n:Nat}(aX:P.glob wd=some (.type "range"))(fg:P.glob Eo=some (.builtin "max"))(cA:P.glob wj=some (.builtin "len")):{f:ao->Option V//My P n sI (dW (aO pq.main.body 68)) f}:=⟨_,(@dM _ _ _ _ _ _ _ (@gQ _ _ _ ([(2,Vm,.cell,true),(3,Vn,.cell,false),(4,Rt,.cell,false),(5,WH,.local,true)]) ([_,_,_,_]) _ _ _ _ _ _ _ ⟨by decide+kernel,by decide+kernel⟩ rfl (@fX.new _ _ _ _ _ _ _ _ (fq ag (by decide) len0) (@fX.dat _ _ _ _ _ _ _ _ ae (@fX.dat _ _ _ _ _ _ _ _ ae (fX.new (fq ag (by decide) len0) fX.nil ir) ir) ir) ir) (by decide) (@ah _ _ _ (ah (ah (ah len0)))) kt.len ir (MR rfl)) (@dM _ _ _ _ _ _ _ (@dB _ _ _ (false) _ _ _ _ _ _ _ (dH (ab 0 rfl rfl rfl)) (@fo _ _ _ _ _ _ _ (@bh _ _ _ _ _ _ _ (aB 6 rfl (by decide) (by decide)) (bh (aB 7 rfl (by decide) (by decide)) (bh (aB 8 rfl (by decide) (by decide)) eH))) (bA (bA (bA fm))) ir) (@af _ _ _ _ _ _ _ (@aN _ _ _ _ _ _ _ _ _ _ (ay fk (ac (ab 6 rfl rfl rfl)) ae rfl) (@af _ _ _ _ _ _ _ (Bz (eF 5 rfl rfl rfl Sk ag ir (by decide) rfl ir) ir) ai) (@af _ _ _ _ _ _ _ (@aN _ _ _ _ _ _ _ _ _ _ (@gk _ _ _ _ _ _ _ _ (ay fk (ac (ab 7 rfl rfl rfl)) (ac (ab 1 rfl rfl rfl)) rfl) (@sh.or _ _ _ _ _ _ _ _ (ay fk (ac (ab 6 rfl rfl rfl)) ae rfl) (ay YH (ac (ab 1 rfl rfl rfl)) (dc 5 rfl rfl rfl) rfl))) (@af _ _ _ _ _ _ _ (cS 3 rfl (by decide) rfl rfl gR ae) (@af _ _ _ _ _ _ _ (@eG _ _ _ _ _ _ (@DE _ _ _ 2 _ _ _ _ _ _ _ _ _ _ rfl rfl rfl rfl rfl aX (@aa _ _ _ _ _ _ _ _ ae (@aa _ _ _ _ _ _ _ _ (@al _ _ _ _ _ _ _ _ _ _ _ cm (@t7 _ _ _ _ _ _ (@ij _ _ _ _ _ _ _ _ _ _ _ _ (dc 5 rfl rfl rfl) JQ (aa (ac (ab 1 rfl rfl rfl)) ag ir) ir (by decide) rfl ir)) ae) ag ir) ir) ir (ca _ _) rfl ir) Go ir) ai)) (@af _ _ _ _ _ _ _ (@aN _ _ _ _ _ _ _ _ _ _ (ay fk (ac (ab 7 rfl rfl rfl)) (ac (ab 1 rfl rfl rfl)) rfl) (af (cS 4 rfl (by decide) rfl rfl gR ae) ai) ai) ai)) ai)) (@af _ _ _ _ _ _ _ (@aN _ _ _ _ _ _ _ _ _ _ (ay fk (ac (ab 6 rfl rfl rfl)) ae rfl) (@af _ _ _ _ _ _ _ (@eG _ _ _ _ _ _ (eF 5 rfl rfl rfl ue (aa (ab 7 rfl rfl rfl) ag ir) ir (by decide) rfl ir) jE ir) ai) ai) ai)) cz) (@zg _ _ _ (zI) 2 _ _ _ _ rfl rfl rfl (@Bo _ _ _ _ _ (@af _ _ _ _ _ _ _ (@aW _ _ _ _ _ _ (@de _ _ _ _ _ _ _ _ (@aa _ _ _ _ _ _ _ _ (@ac _ _ _ _ _ (@fQ _ _ _ _ _ _ (@Ag _ _ _ (sS) _ _ _ _ _ _ _ _ _ _ 0 1 ([4,3,2]) (@cL _ _ _ _ _ _ _ rfl aX (aa ae (aa ae ag ir) ir) ir (ca _ _)) (cu (by decide+kernel)) rfl rfl e6 (@al _ _ _ _ _ _ _ _ _ _ _ cm (ab 1 rfl rfl rfl) (@al _ _ _ _ _ _ _ _ _ _ _ z8 (ab 0 rfl rfl rfl) (@al _ _ _ _ _ _ _ _ _ _ _ cm (ab 2 rfl rfl rfl) (@aJ _ _ _ _ _ _ _ _ _ _ _ rfl cA rfl ju (@aa _ _ _ _ _ _ _ _ (@fQ _ _ _ _ _ _ (@fW _ _ _ (sU) _ _ _ _ _ _ _ _ _ _ (1) ([0]) (dH (ab 3 rfl rfl rfl)) (cu (by decide+kernel)) (aB 0 rfl (by decide) (by decide)) (@gO _ _ _ _ _ (@ay _ _ _ _ _ _ _ _ _ _ fk (al jo (ac (ab 0 rfl rfl rfl)) (ac (ab 1 rfl rfl rfl))) ae rfl)) (ab 0 rfl rfl rfl) cz)) ag ir) ir (ca _ _))))) cz))) (@aa _ _ _ _ _ _ _ _ (@aJ _ _ _ _ _ _ _ _ _ _ _ rfl fg rfl uq (@aa _ _ _ _ _ _ _ _ (@al _ _ _ _ _ _ _ _ _ _ _ cm (@cQ _ _ _ _ _ _ _ (aa (ac (ab 4 rfl rfl rfl)) ag ir) (by decide) (ah len0)) (ac (ab 2 rfl rfl rfl))) ag ir) ir (ca _ _)) ag ir) ir) (by decide) (ah (ah len0)))) ai)))))⟩
theorem kI(a b c:Int):max (max a b) c=max a (max b c):=Int.max_assoc a b c
theorem j4(a b c:Int):max a (max b c)=max b (max a c):=by rw[<-kI,Int.max_comm a b,kI]
theorem GI(x:Int)(l:List Int):∀n:Nat,n<l.length->uo (fun j=>((x::l)[j]?).getD 0) (n+1)=max x (uo (fun j=>(l[j]?).getD 0) n):=by
 intro n
 induction n with
 |zero=>
  intro h;simp only[EF,yl];simp
 |succ n ih=>
  intro h;have:=ih (by omega)
  conv=>lhs;unfold uo
  conv=>rhs;unfold uo
  rw[this];exact kI ..
theorem xx:∀(x:Int) (l:List Int),Db [.list ((x::l).map .int)]=some (.int (l.foldr max x)):=by
 intro x l;have hi:∀l:List Int,ii (l.map .int)=some l:=fun l=>by
  induction l with
  |nil=>rfl
  |cons x l ih=>simp[HV,Ax,ih]
 have go:∀(l:List Int) (x:Int),uo (fun j=>((x::l)[j]?).getD 0) l.length=l.foldr max x:=by
  intro l
  induction l with
  |nil=>intro x;simp[EF,yl]
  |cons y l ih=>
   intro x;have e:=GI x (y::l) l.length (by simp);rw[cr,e,ih y];have swap:∀l:List Int,max x (l.foldr max y)=max y (l.foldr max x):=by
    intro l
    induction l with
    |nil=>exact Int.max_comm ..
    |cons z l ih=>exact(j4 ..).trans ((congrArg (max z) ih).trans (j4 ..))
   rw[tY,swap]
 rw[O8,HW,au (by simp),hi,pv];simp only[cr,Nat.add_sub_cancel];rw[go]
noncomputable abbrev oM:=List Nat×Nat×Nat×List Nat
noncomputable def qN(w:Nat)(s:oM)(e:Item):oM:=
 if e.1=2 then(s.1,s.2.1,s.2.2.1,s.2.2.2.dropLast)else if e.2.1=w/\(e.1=0\/w∈s.2.2.2)then(s.1++(List.range (s.2.2.2.count w)).map (· +1),s.2.1+1,s.2.2.1,s.2.2.2)else if e.2.1=w then(s.1,s.2.1,s.2.2.1+1,s.2.2.2)else s
noncomputable def ej(w:Nat)(s:oM)(e:Item):oM:=if e.1=0 then((qN w s e).1,(qN w s e).2.1,(qN w s e).2.2.1,(qN w s e).2.2.2++[e.2.1])else qN w s e
noncomputable def GJ(w:Nat)(its:List Item):oM:=its.foldl (ej w) ([],0,0,[])
noncomputable abbrev nV(l:List Nat):V:=.list (l.map fun(k:Nat)=>V.int k)
noncomputable def Kl(x:oM)(sz:Nat):Int:=x.2.2.1+sz*(x.2.1+(x.1.filter fun s=>decide (s % sz=0)).length)
noncomputable def Fn(x:oM):Nat:=x.1.foldr max x.2.2.1
noncomputable def BM(x:oM):V:=.tup [.list ((List.range 8).map fun(j:Nat)=>V.int (Kl x (j+1))),.int (Fn x)]
theorem Fo(l:List Nat):nV l= .list ((l.map fun(k:Nat)=>(k:Int)).map .int):=by
 unfold nV;rw[iL];rfl
theorem sa:∀(l:List Nat) (x:Nat),(l.map fun(k:Nat)=>(k:Int)).foldr max (x:Int)=((l.foldr max x:Nat):Int)
 |[],x=>rfl
 |y::l,x=>by
  rw[bB,tY,tY,sa l x];omega
theorem sb:∀l:List Int,ii (l.map .int)=some l
 |[]=>rfl
 |x::l=>by rw[bB,Ax,sb l];rfl
theorem Nc(k:Nat)(l:List Nat):Rx (.int k) (nV l)=some (decide (k∈l)):=by
 rw[Fo];show(OJ (.int k) ((l.map fun(k:Nat)=>(k:Int)).map .int))=_;unfold OJ;rw[qr];show(if PyData.depthAll ((l.map fun(k:Nat)=>(k:Int)).map .int)<=50 then some (((l.map fun(k:Nat)=>(k:Int)).map PyData.int).any fun y=>PyData.eqv y (.int (k:Int)))else none)=_;rw[aw (az (Dv _) (by decide))];refine congrArg some ?_;rw[lH,nz,List.any_eq_true];constructor
 ·rintro⟨y,hy,h⟩
  obtain⟨z,hz,rfl⟩:=dt.mp hy;obtain⟨j,hj,rfl⟩:=dt.mp hz;have:(j:Int)=k:=by simpa[PyData.eqv]using h
  rw[<-Int.ofNat_inj.mp this];exact hj
 ·intro h
  exact⟨.int k,dt.mpr ⟨k,dt.mpr ⟨k,h,rfl⟩,rfl⟩,by simp[PyData.eqv]⟩
theorem GL(k:Nat)(l:List Nat):zq (nV l) [.int k]=some (.int (l.count k:Nat)):=by
 rw[Fo];show(ii ((l.map fun(k:Nat)=>(k:Int)).map .int)).map _=_;rw[sb];refine congrArg (fun z:Nat=>some (V.int (z:Int))) ?_
 induction l with
 |nil=>rfl
 |cons x l ih=>
  rw[bB,x0,x0,ih];by_cases q:x=k
  ·subst q;simp
  ·have:¬((x:Int)=k):=fun z=>q (Int.ofNat_inj.mp z)
   simp[q,this]
theorem DX{f:ao->Option (ao×Fl)}{g:ao->Option V}{ρ am:ao}{r}(h:f ρ=some (am,.next))(hg:g am=r):Js f g ρ=r:=by
 unfold Js;rw[h];exact hg
theorem xy{f:ao->Option (ao×Fl)}{g:ao->Option V}{ρ:ao}{v}(R:ao->Prop)(h:∃r,f ρ=some r/\r.2= .next/\R r.1)(hg:∀am,R am->g am=v):Js f g ρ=v:=by
 obtain⟨⟨am,fl⟩,e,rfl,q⟩:=h;exact DX e (hg _ q)
inductive Nd(w:Nat)(s:oM)(n:Nat)(ρ:ao):Prop
 |mk (h1:ρ 1=some (.int w)) (h2:ρ 2=some (nV s.1)) (h3:ρ 3=some (.int s.2.1)) (h4:ρ 4=some (.int s.2.2.1)) (h5:ρ 5=some (nV s.2.2.2)) (b1:s.1.length<=11*n) (b2:s.2.2.2.length<=n) (b3:s.2.1<=n)
theorem Nf{c:Nat}(h:c<=11):oy [.int 1,.int ((c:Int)+1)]=some (((List.range c).map (· +1)).map fun(k:Nat)=>V.int k):=by
 have h6:eZ ((c:Int)+1)=true:=(bX _ _).mpr ⟨bo (by omega),bo (by omega)⟩;have hz:((c:Int)+1-1).toNat=c:=by omega
 rw[ug,h6,r8,hz,iL];exact congrArg some (lS fun j ø=>congrArg V.int (by show(1:Int)+(j:Int)=((j+1:Nat):Int);omega))
theorem GM{P:Pk}{n:Nat}{g1 g2 g3}{its:List Item}(hg:j0 its){w:Nat}{ρ:ao}(h0:ρ 0=some (.list (its.map Hl)))(h1:ρ 1=some (.int w)):
  (ol (P:=P) (n:=n) g1 g2 g3).1 ρ=some (BM (GJ w its)):=by
 have EK:most=1000000:=rfl;unfold ol;dsimp only;refine DX rfl ?_;refine xy (fun ρ=>Nd w (GJ w its) its.length ρ/\bp eh (its.map (·.1)) 0= .inl (GJ w its).2.2.2.length) (eT (cN (f:=elems) h0 rfl) (qs Hl its (fun l ρ=>Nd w (l.foldl (ej w) ([],0,0,[])) l.length ρ/\bp eh (l.map (·.1)) 0= .inl (l.foldl (ej w) ([],0,0,[])).2.2.2.length) (fun l u l' ρ hx hR=>?_) ⟨⟨h1,rfl,rfl,rfl,rfl,eK _,bL _,bL _⟩,rfl⟩)) fun am hR=>?_
 ·obtain⟨⟨r1,r2,r3,r4,r5,b1,b2,b3⟩,Y6⟩:=hR
  have UA:l.length<its.length:=by rw[<-hx,aY];exact tP (g9 _)
  have Y7:l.length<=10:=tX (fw UA hg.len);have Cl:=hg.ok u (hx▸ck _ gJ);have Km:=hg.dyck;rw[<-hx,List.map_append,bB]at Km;rw[dF,dg,mX,aY,List.map_append];generalize l.foldl (ej w) ([],0,0,[])=s at*;have QU:s.2.2.2.count w<=10:=az CL (az b2 Y7);have AD:u.1=2->s.2.2.2≠[]:=fun h2 hs=>by
   rw[hs]at Y6;rw[jg Y6 (show eh 0 u.1= .inr () by rw[h2];rfl)]at Km;cases Km
  refine ex5 ρ r1 r2 r3 r4 r5 fun σ=>⟨_,rfl,?_⟩
  have Ly:bp eh (l.map (·.1)++[u.1]) 0= .inl (ej w s u).2.2.2.length:=by
   refine bD Y6 ?_;unfold eh ej qN;by_cases q0:u.1=0
   ·rw[aw q0,aw q0,au (by omega)]
    split
    ·exact congrArg Sum.inl (by rw[aY];rfl)
    ·split<;>exact congrArg Sum.inl (by rw[aY];rfl)
   ·rw[au q0,au q0]
    by_cases q1:u.1=1
    ·rw[aw q1,au (by omega)]
     split
     ·rfl
     ·split<;>rfl
    ·have q2:u.1=2:=by have:=Cl.1;omega
     have cZ:=tz.mpr (AD q2);rw[au q1,au (by omega),aw q2];exact congrArg Sum.inl pt.symm
  have key:∀{f g:ao->Option (ao×Fl)} {ρ:ao} {R Q:ao->Prop},(∃am,f ρ=some (am,.next)/\R am)->(∀am,R am->∃di,g am=some (di,.next)/\Q di)->∃r,eY f (eY g fun ρ=>some (ρ,.next)) ρ=some r/\r.2= .next/\Q r.1:=fun hf hg=>by
   obtain⟨am,e1,hR⟩:=hf;obtain⟨di,e2,hQ⟩:=hg am hR;exact⟨(di,.next),cf e1 (cf e2 rfl),rfl,hQ⟩
  refine key (Q:=fun ρ=>Nd w (ej w s u) (l.length+[u].length) ρ/\bp eh (l.map (·.1)++[u].map (·.1)) 0= .inl (ej w s u).2.2.2.length) (R:=fun am=>((am 1=some (.int w)/\am 2=some (nV (qN w s u).1))/\(am 3=some (.int (qN w s u).2.1)/\am 4=some (.int (qN w s u).2.2.1)))/\(am 5=some (nV (qN w s u).2.2.2)/\(am 6=some (.int u.1)/\am 7=some (.int u.2.1)))/\((qN w s u).1.length<=11*(l.length+1)/\(qN w s u).2.2.2.length<=l.length/\(qN w s u).2.1<=l.length+1)) ?_ fun am hR=>?_
  ·unfold qN
   by_cases q2:u.1=2
   ·rw[aw q2]
    have cZ:=AD q2;have Y8:OQ (nV s.2.2.2) []=some (nV s.2.2.2.dropLast,.int (s.2.2.2.getLast cZ:Nat)):=by
     rw[nV,OR,List.getLast?_map,List.getLast?_eq_some_getLast cZ,pv,eA,aw (by rw[List.length_map];omega),<-List.map_dropLast]
    exact⟨_,ni (aG rfl rfl ((bU _ _).trans (congrArg some (bo (by rw[q2];rfl))))) (cf (cN (JE rfl rfl Y8) (aw rfl)) rfl),⟨⟨rfl,rfl⟩,rfl,rfl⟩,⟨rfl,rfl,rfl⟩,by show s.1.length<=_;omega,by show s.2.2.2.dropLast.length<=_;rw[pt];omega,by show s.2.1<=_;omega⟩
   ·rw[au q2]
    have c2:∀aQ:ao,aQ 6=some (.int u.1)->eU np (fun ρ=>ρ 6) (fun x=>some (V.int 2)) aQ=some false:=fun aQ h6=>aG h6 rfl ((bU _ _).trans (congrArg some (db (by omega))))
    have cw:∀aQ:ao,aQ 7=some (.int u.2.1)->aQ 1=some (.int w)->eU np (fun ρ=>ρ 7) (fun ρ=>ρ 1) aQ=some (decide (u.2.1=w)):=fun aQ h7 h1=>aG h7 h1 ((bU _ _).trans (congrArg some (mY.mpr Int.ofNat_inj)))
    have cc:∀aQ:ao,aQ 7=some (.int u.2.1)->aQ 1=some (.int w)->aQ 6=some (.int u.1)->aQ 5=some (nV s.2.2.2)->ou (eU np (fun ρ=>ρ 7) fun ρ=>ρ 1) (Rw (eU np (fun ρ=>ρ 6) fun x=>some (V.int 0)) (eU Rx (fun ρ=>ρ 1) fun ρ=>ρ 5)) aQ=some (decide (u.2.1=w/\(u.1=0\/w∈s.2.2.2))):=fun aQ h7 h1 h6 h5=>by
     have e0:eU np (fun ρ=>ρ 6) (fun x=>some (V.int 0)) aQ=some (decide (u.1=0)):=aG h6 rfl ((bU _ _).trans (congrArg some (mY.mpr (show((u.1:Int)=0)<->u.1=0 by omega))));have e1:=gC (cw aQ h7 h1) (Bu e0 (aG (F:=Rx) (f:=fun ρ=>ρ 1) (g:=fun ρ=>ρ 5) h1 h5 (Nc _ _)));rw[e1];refine congrArg some ?_;rw[lH];simp only[bX,lG,mS]
    by_cases qa:u.2.1=w/\(u.1=0\/w∈s.2.2.2)
    ·rw[aw qa]
     have Y9:∀aQ:ao,aQ 2=some (nV s.1)->aQ 1=some (.int w)->aQ 5=some (nV s.2.2.2)->QA 2 (cW (fun x=>some (V.int 1)) (cW (iW ua (fun ρ=>(RC zq (fun ρ=>ρ 5) (cW (fun ρ=>ρ 1) fun x=>some []) ρ).bind fun x=>if x.scalar=true then some x else none) fun x=>some (V.int 1)) fun x=>some [])) aQ=some (upd aQ 2 (nV (s.1++(List.range (s.2.2.2.count w)).map (· +1))),.none):=fun aQ h2 h1 h5=>by
      refine cN h2 (cN (a:=s.1.map fun(k:Nat)=>V.int k) rfl (cN (ap rfl (ap (ad (cN (JD h5 (ap h1 rfl) (GL w s.2.2.2)) rfl) rfl) rfl)) (cN (Nf (dZ QU)) ((aw ?_).trans ?_))))
      ·rw[List.length_map,List.length_map,List.length_map,eM];omega
      ·rw[<-List.map_append]
     refine⟨_,iq (c2 _ rfl) (cf (ni ((cc _ rfl rfl rfl rfl).trans (congrArg some (bo qa))) (oC (z:=.int ((s.2.1+1:Nat):Int)) rfl rfl rfl (cf (cB (Y9 _ rfl rfl rfl) rfl) rfl))) rfl),⟨⟨rfl,rfl⟩,rfl,rfl⟩,⟨rfl,rfl,rfl⟩,?_,b2,eW b3⟩;show(s.1++(List.range (s.2.2.2.count w)).map (· +1)).length<=_;rw[aY,List.length_map,eM];omega
    ·rw[au qa]
     by_cases qw:u.2.1=w
     ·rw[aw qw]
      exact⟨_,iq (c2 _ rfl) (cf (iq ((cc _ rfl rfl rfl rfl).trans (congrArg some (db qa))) (cf (ni ((cw _ rfl rfl).trans (congrArg some (bo qw))) (oC (z:=.int ((s.2.2.1+1:Nat):Int)) rfl rfl rfl rfl)) rfl)) rfl),⟨⟨rfl,rfl⟩,rfl,rfl⟩,⟨rfl,rfl,rfl⟩,by show s.1.length<=_;omega,b2,dZ b3⟩
     ·rw[au qw]
      exact⟨_,iq (c2 _ rfl) (cf (iq ((cc _ rfl rfl rfl rfl).trans (congrArg some (db qa))) (cf (iq ((cw _ rfl rfl).trans (congrArg some (db qw))) rfl) rfl)) rfl),⟨⟨rfl,rfl⟩,rfl,rfl⟩,⟨rfl,rfl,rfl⟩,by omega,b2,dZ b3⟩
  ·obtain⟨⟨⟨z1,z2⟩,z3,z4⟩,⟨z5,z6,z7⟩,y1,y2,y3⟩:=hR
   refine(fun h:∃di,_/\Nd w (ej w s u) (l.length+1) di=>h.elim fun di h=>⟨di,h.1,h.2,Ly⟩) ?_;unfold ej;generalize qN w s u=s' at*;by_cases q0:u.1=0
   ·rw[aw q0]
    refine⟨_,ni (aG z6 rfl ((bU _ _).trans (congrArg some (bo (by rw[q0];rfl))))) (Gj z5 (ap z7 rfl) (rR _ _ (by rw[List.length_map];omega)) rfl),⟨z1,z2,z3,z4,?_,y1,?_,y3⟩⟩
    ·show some (V.list ((s'.2.2.2.map fun(k:Nat)=>V.int k)++[V.int u.2.1]))=_
     exact congrArg (fun z=>some (V.list z)) (n4 (fun(k:Nat)=>V.int k) s'.2.2.2 u.2.1)
    ·rw[aY];exact eW y2
   ·rw[au q0]
    exact⟨_,iq (aG z6 rfl ((bU _ _).trans (congrArg some (db (by omega))))) rfl,⟨z1,z2,z3,z4,z5,y1,dZ y2,y3⟩⟩
 ·obtain⟨hR,_⟩:=hR
  obtain⟨r1,r2,r3,r4,r5,b1,b2,b3⟩:=hR;have M3:=hg.len;generalize GJ w its=s at*;have hs:s.1.length<=121:=az b1 (jk 11 M3);have aa1:s.2.1<=11:=az b3 M3;refine ex3 am r2 r3 r4 fun σ=>?_
  have Za:jm Db (cW (iW ua (fun ρ=>Option.map V.list (cW (fun ρ=>ρ 4) (fun x=>some []) ρ)) fun ρ=>ρ 2) fun x=>some []) (upd (upd (upd σ 2 (nV s.1)) 3 (.int s.2.1)) 4 (.int s.2.2.1))=some (.int (Fn s)):=by
   refine bY (bT rfl rfl (zj _ _ (by rw[List.length_map];show 1+s.1.length<=most;omega))) ?_;have e:V.list ([V.int s.2.2.1]++s.1.map fun(k:Nat)=>V.int k)= .list (((s.2.2.1:Int)::s.1.map fun(k:Nat)=>(k:Int)).map .int):=by
    rw[bB,iL];rfl
   rw[e,xx,sa];rfl
  have Zb:m4 (fun ρ=>(cW (fun x=>some (V.int 1)) (cW (fun x=>some (V.int 9)) fun x=>some []) ρ).bind oy) (fun ρ y=>some (upd ρ 0 y)) (fun x=>some true) (iW ua (fun ρ=>ρ 1) (iW zZ (fun ρ=>ρ 0) (iW ua (fun ρ=>ρ 2) (jm un (cW (m4 (fun ρ=>(ρ 3).bind elems) (fun ρ y=>some (upd ρ 0 y)) (eU np (iW CP (fun ρ=>ρ 0) fun ρ=>ρ 1) fun x=>some (V.int 0)) (fun ρ=>ρ 0) 1 [0]) fun x=>some []))))) 1 [4,3,2] (upd (upd (upd σ 2 (nV s.1)) 3 (.int s.2.1)) 4 (.int s.2.2.1))=some (.list ((List.range 8).map fun(j:Nat)=>V.int (Kl s (j+1)))):=by
   refine gn (fun ρ=>(ρ 1=some (.int s.2.2.1)/\ρ 2=some (.int s.2.1))/\ρ 3=some (nV s.1)) (List.range 8) (fun(j:Nat)=>V.int ((j+1:Nat):Int)) (fun(j:Nat)=>V.int (Kl s (j+1))) (cN (ap rfl (ap rfl rfl)) ?_) (by decide) (fun j hj ρ hI=>?_) ⟨⟨rfl,rfl⟩,rfl⟩
   ·exact(Kf (k:=1) (n:=9) (by decide) (by decide)).trans (congrArg some (lS fun j ø=>congrArg V.int (by omega)))
   ·obtain⟨⟨i1,i2⟩,i3⟩:=hI
    have hj8:=ec.mp hj;refine ex3 ρ i1 i2 i3 fun σ=>⟨_,rfl,⟨⟨rfl,rfl⟩,rfl⟩,?_⟩
    have hlen:=rh (fun k:Nat=>decide (k % (j+1)=0)) s.1;refine bT rfl (bT rfl (bT rfl (bY (jt (nt:=1) (cap:=[0]) (fun ρ=>ρ 1=some (.int ((j+1:Nat):Int))) s.1 (fun(k:Nat)=>V.int k) (fun k=>decide (k % (j+1)=0)) (fun(k:Nat)=>V.int k) (cN rfl rfl) (eV hs (by decide)) (fun k hk ρ hI=>ex1 ρ hI fun σ=>⟨_,rfl,rfl,(aG (bT rfl rfl (E5 _ _ (by omega))) rfl (bU _ _)).trans (congrArg some (mY.mpr (by omega))),fun ø=>rfl⟩) rfl) (nZ _ (by rw[List.length_map];omega))) rfl) (zi _ _ ?_)) ?_
    ·rw[List.length_map]
     omega
    ·rw[List.length_map]
     rfl
  refine cN rfl (cN (Qu (cB (cB (ap Zb (ap Za rfl)) rfl) rfl)) ?_);rfl
section
noncomputable def upTo(c:Nat):List Nat:=(List.range c).map (· +1)
noncomputable def na(rs:List Nat):List Nat:=(rs.map upTo).flatten
theorem DY(rs:List Nat)(c:Nat):na (rs++[c])=na rs++upTo c:=by
 unfold na;rw[List.map_append,bR,pr,gK]
inductive Told(n:Nat)(s:oM)(r:List Nat×Nat):Prop
 |mk (a1:s.1=na r.1) (a2:s.2.1=r.1.length) (a3:s.2.2.1=r.2) (b1:∀x∈r.1,x<=n) (b2:r.1.length<=n) (b3:r.2<=n) (b4:s.2.2.2.length<=n)
theorem BN{x w:Nat}(hx:x<3)(hw:w<3){total:Int}(h:aH x total=aH w total):x=w:=by
 have key:∀{x w:Nat},x<w->w<3->aH x total=aH w total->False:=fun {x w} hl hw h=>by
  have hx:=Nat.lt_trans hl hw;have big:∀{y:Nat},y<3->y≠1->∀c∈aH y total,c<128:=fun {y} hy h1 c hc=>by
   match y,hy,h1 with
   |0,_,_=>
    rw[aH,aw rfl]at hc;rw[cq.mp hc];omega
   |2,_,_=>
    rw[aH,au (by decide),au (by decide)]at hc;obtain⟨lg,Oh⟩:=get_mem (l:=qu) (k:=(total/416 % 7).toNat) (show _<7 by omega);rw[Oh]at hc;have:=cH.mp ((bX _ _).mp (cH.mp Fb lg (kb Oh))).2 c hc;exact Nat.lt_trans (cV ((bX _ _).mp this).2) (by decide)
  by_cases q1:w=1
  ·obtain⟨c,hc,RS⟩:=(iY hw total).2.1 q1
   exact g8.mpr RS (big hx (fun z=>by rw[z,q1]at hl;exact gv _ hl) c (h▸hc))
  ·by_cases q:x=1
   ·obtain⟨c,hc,RS⟩:=(iY hx total).2.1 q
    exact g8.mpr RS (big hw q1 c (h▸hc))
   ·have h0:x=0:=by omega
    have h2:w=2:=by omega
    have e:=(iY hx total).2.2 h0;rw[h,h2,aH,au (by decide),au (by decide)]at e;have:∀j,j<7->(qu[j]?.getD []).length≠1:=by decide
    exact this _ (by omega) e
 rcases Nat.lt_trichotomy x w with q|q|q
 ·exact(key q hw h).elim
 ·exact q
 ·exact(key q hx h.symm).elim
theorem DZ{l:List Nat}(hl:∀x∈l,x<3){w:Nat}(hw:w<3)(total:Int):(l.map fun x=>aH x total).count (aH w total)=l.count w:=by
 unfold List.count;rw[List.countP_map];refine List.countP_congr fun x hx=>?_
 show(aH x total==aH w total)=true<->(x==w)=true;rw[jR,jR];exact⟨BN (hl x hx) hw,fun z=>z▸rfl⟩
theorem QV{nm N:List Nat}{L:List (List Nat)}{r:List Nat×Nat}{o:Bool}{c:Nat}(h:N=nm)(ho:o=true\/0<c)(hc:L.count nm=c):Kk nm (L,r) N o=(r.1++[c],r.2):=by
 subst hc;exact(aw h).trans (aw ho)
theorem Ng{nm N:List Nat}{L:List (List Nat)}{r:List Nat×Nat}{o:Bool}{c:Nat}(h:N=nm)(ho:¬(o=true\/0<c))(hc:L.count nm=c):Kk nm (L,r) N o=(r.1,r.2+1):=by
 subst hc;exact(aw h).trans (au ho)
section
variable{total:Int}{w:Nat}(hw:w<3){s:oM}{e:Item}
include hw
theorem QW{n:Nat}{r:List Nat×Nat}(h:Told n s r)(hs:∀x∈s.2.2.2,x<3)(he:e.2.1<3)(h2:e.1≠2):Told (n+1) (qN w s e) (Kk (aH w total) (s.2.2.2.map fun x=>aH x total,r) (aH e.2.1 total) (decide (e.1=0)))/\(qN w s e).2.2.2=s.2.2.2:=by
 obtain⟨a1,a2,a3,b1,b2,b3,b4⟩:=h;have hc:=DZ hs hw total;by_cases q:e.2.1=w
 ·have qn:aH e.2.1 total=aH w total:=by rw[q]
  by_cases q2:e.1=0\/w∈s.2.2.2
  ·rw[QV qn (q2.imp bo fun z=>List.count_pos_iff.mpr z) hc,show qN w s e=_ from(au h2).trans (aw ⟨q,q2⟩)]
   refine⟨⟨?_,?_,a3,fun x hx=>?_,?_,dZ b3,dZ b4⟩,rfl⟩
   ·show s.1++_=_
    rw[DY,a1];rfl
   ·show s.2.1+1=_
    rw[a2,aY];rfl
   ·rcases bZ.mp hx with hx|hx
    ·exact dZ (b1 x hx)
    ·rw[cq.mp hx]
     exact dZ (az CL b4)
   ·rw[aY]
    exact eW b2
  ·rw[Ng qn (fun z=>q2 (z.imp cV fun z=>List.count_pos_iff.mp z)) hc,show qN w s e=_ from(au h2).trans ((au fun z=>q2 z.2).trans (aw q))]
   exact⟨⟨a1,a2,congrArg (· +1) a3,fun x hx=>dZ (b1 x hx),dZ b2,eW b3,dZ b4⟩,rfl⟩
 ·rw[show Kk _ (s.2.2.2.map fun x=>aH x total,r) (aH e.2.1 total) _=r from au fun z=>q (BN he hw z),show qN w s e=s from(au h2).trans ((au fun z=>q z.1).trans (au q))]
  exact⟨⟨a1,a2,a3,fun x hx=>dZ (b1 x hx),dZ b2,dZ b3,dZ b4⟩,rfl⟩
end
noncomputable abbrev Kn(nm:List Nat)(E:List sA):Kj:=E.foldl (vW nm) ([],[],0)
inductive We(total:Int)(w n m:Nat)(b:Bool)(st:iI)(s:oM):Prop
 |mk (hS:(Kn (aH w total) st.1).1=s.2.2.2.map fun x=>aH x total) (hr:Told n s (Kk (aH w total) (Kn (aH w total) st.1) st.2 false)) (hs:∀x∈s.2.2.2,x<3) (hb:b=false->st.2=[]) (hk:bp eD (st.1.map (·.2)) 0= .inl s.2.2.2.length) (hl:st.1.length<=2*m)
theorem ot(nm:List Nat)(E:List sA)(e:sA):Kn nm (E++[e])=vW nm (Kn nm E) e:=dF ..
theorem zJ{E:List sA}{d d':Nat}{e:sA}(h:bp eD (E.map (·.2)) 0= .inl d)(he:eD d e.2= .inl d'):bp eD ((E++[e]).map (·.2)) 0= .inl d':=by
 rw[List.map_append];exact bD h he
theorem Nh{total:Int}{w:Nat}(hw:w<3){tk:Nat->Option Nat}(ht:zA tk){n m:Nat}{b:Bool}{st:iI}{s:oM}{e:Item}(h:We total w n m b st s)(h3:e.1<3)(he:e.2.1<3)(hd:e.1=2->s.2.2.2≠[]):
  We total w (n+if e.1=2 then 0 else 1) (m+1) (e.1 != 0) (GA total tk st b e) (ej w s e):=by
 obtain⟨hS,hr,hs,hb,hk,hl⟩:=h;have cZ:∀q:Kj,Kk (aH w total) q [] false=q.2:=fun q=>au fun z=>(iY hw total).1.ne z.symm
 unfold GA;by_cases q2:e.1=2
 ·have hn0:e.1≠0:=fun z=>by rw[q2]at z;cases z
  have hz:=tz.mpr (hd q2);have e1:ej w s e=(s.1,s.2.1,s.2.2.1,s.2.2.2.dropLast):=by
   unfold ej qN;rw[au hn0,aw q2]
  rw[aw q2,aw q2,e1];obtain⟨a1,a2,a3,b1,b2,b3,b4⟩:=hr;refine⟨?_,?_,fun x hx=>hs x (List.dropLast_subset _ hx),fun ø=>rfl,zJ hk ?_,?_⟩
  ·rw[ot]
   show(Kn (aH w total) st.1).1.dropLast=_;rw[hS,List.map_dropLast]
  ·rw[cZ,ot]
   exact⟨a1,a2,a3,b1,b2,b3,az (by rw[pt];exact Nat.sub_le _ _) b4⟩
  ·show eD s.2.2.2.length 8= .inl s.2.2.2.dropLast.length
   unfold eD;rw[au (by decide),aw rfl,au (lQ hz),pt]
  ·rw[aY]
   exact az (eW hl) (jT _)
 ·rw[au q2,au q2]
  have hop:∃E1,(if b=true then(st.1++[(st.2,(tk (jH e.2.2)).getD 0)],[])else st:iI)=(E1,[])/\Kn (aH w total) E1=(s.2.2.2.map fun x=>aH x total,Kk (aH w total) (Kn (aH w total) st.1) st.2 false)/\bp eD (E1.map (·.2)) 0= .inl s.2.2.2.length/\E1.length<=2*m+1:=by
   cases b with
   |false=>
    have hz:=hb rfl;refine⟨st.1,?_,?_,hk,dZ hl⟩
    ·rw[au (by decide),<-hz]
    ·rw[hz,cZ,<-hS]
   |true=>
    obtain⟨k,k1,k2,k3⟩:=ht.op _ (Fd (draw:=e.2.2)).2;refine⟨st.1++[(st.2,k)],by rw[aw rfl,k1];rfl,?_,zJ hk ((au k2).trans (au k3)),by rw[aY];exact eW hl⟩;rw[ot];unfold vW;rw[au k2,au k3,hS,db k2]
  obtain⟨E1,e1,e2,e3,e4⟩:=hop;rw[e1];dsimp only;obtain⟨hA,hA2⟩:=QW hw (total:=total) hr hs he q2;by_cases q0:e.1=0
  ·rw[aw q0]
   have e5:ej w s e=((qN w s e).1,(qN w s e).2.1,(qN w s e).2.2.1,s.2.2.2++[e.2.1]):=by
    unfold ej;rw[aw q0,hA2]
   rw[e5];rw[bo q0]at hA;obtain⟨a1,a2,a3,b1,b2,b3,b4⟩:=hA;obtain⟨_,_,_,_,_,_,b4'⟩:=hr;refine⟨?_,?_,fun x hx=>?_,fun ø=>rfl,zJ e3 ?_,?_⟩
   ·rw[ot,e2,List.map_append]
    rfl
   ·rw[cZ,ot,e2]
    exact⟨a1,a2,a3,b1,b2,b3,by rw[aY];exact eW b4'⟩
   ·rcases bZ.mp hx with hx|hx
    ·exact hs x hx
    ·rw[cq.mp hx];exact he
   ·show eD s.2.2.2.length 7= .inl (s.2.2.2++[e.2.1]).length
    rw[aY];rfl
   ·rw[aY]
    exact eW e4
  ·rw[au q0]
   have e5:ej w s e=qN w s e:=au q0;rw[e5];rw[db q0]at hA;refine⟨by rw[e2,hA2],by rw[e2];exact hA,by rw[hA2];exact hs,fun z=>?_,by rw[hA2];exact e3,dZ e4⟩;rw[oS.mpr q0]at z;cases z
theorem Ko{total:Int}{w:Nat}(hw:w<3){tk:Nat->Option Nat}(ht:zA tk):∀{its:List Item} {n m:Nat} {b:Bool} {st:iI} {s:oM},We total w n m b st s->(∀e∈its,Dz e)->bp eh (its.map (·.1)) s.2.2.2.length= .inl 0->
  ∃b',We total w (n+its.countP fun e=>e.1 != 2) (m+its.length) b' (sG total tk st b its) (its.foldl (ej w) s)/\(its.foldl (ej w) s).2.2.2.length=0
 |[],n,m,b,st,s,h,_,hd=>⟨b,h,Sum.inl.inj hd⟩
 |e::r,n,m,b,st,s,h,ho,hd=>by
  obtain⟨o1,o2,_⟩:=ho e (.head _);rw[bB,fe]at hd;have cZ:e.1=2->s.2.2.2≠[]:=fun q z=>by
   rw[z,q]at hd;cases hd
  have h1:=Nh hw ht h o1 o2 cZ;have UP:eh s.2.2.2.length e.1= .inl (ej w s e).2.2.2.length:=by
   have hA:e.1≠2->(qN w s e).2.2.2=s.2.2.2:=fun q=>by
    unfold qN;rw[au q];split
    ·rfl
    ·split<;>rfl
   unfold eh ej;by_cases q0:e.1=0
   ·rw[aw q0,aw q0,hA (by omega),aY]
    rfl
   ·rw[au q0,au q0]
    by_cases q1:e.1=1
    ·rw[aw q1,hA (by omega)]
    ·have q2:e.1=2:=by omega
     have hz:=tz.mpr (cZ q2);rw[au q1,au (lQ hz)];unfold qN;rw[aw q2];exact congrArg Sum.inl pt.symm
  rw[UP]at hd;obtain⟨b',h2,h3⟩:=Ko hw ht h1 (fun x hx=>ho x (.tail _ hx)) hd;refine⟨b',?_,h3⟩;have c1:n+(e::r).countP (fun e=>e.1 != 2)=n+(if e.1=2 then 0 else 1)+r.countP fun e=>e.1 != 2:=by
   rw[List.countP_cons];by_cases q:e.1=2
   ·rw[aw q,au (by rw[q];decide)];rfl
   ·rw[au q,aw (oS.mpr q),Nat.add_right_comm,Nat.add_assoc]
  have c2:m+(e::r).length=m+1+r.length:=by rw[cr];omega
  rw[c1,c2];exact h2
theorem Kq{total:Int}{its:List Item}(hg:j0 its){tk:Nat->Option Nat}(ht:zA tk){w:Nat}(hw:w<3):
  (vN total tk its).length<=24/\bp eD ((vN total tk its).map (·.2)) 0= .inl 0/\Told 7 (GJ w its) (Kn (aH w total) (vN total tk its)).2:=by
 obtain⟨b,h1,h2⟩:=Ko hw ht (its:=its) (n:=0) (m:=0) (b:=false) (st:=([],[])) (s:=([],0,0,[])) ⟨rfl,(by
  unfold Kk;rw[au fun z=>(iY hw total).1.ne z.symm];exact⟨rfl,rfl,rfl,nofun,bL _,bL _,bL _⟩),nofun,fun ø=>rfl,rfl,bL _⟩ hg.ok hg.dyck
 rw[gg,gg]at h1;obtain⟨hS,hr,hs,hb,hk,hl⟩:=h1;rw[h2]at hk;unfold vN;refine⟨?_,zJ hk rfl,?_⟩
 ·rw[aY]
  exact az (eW (az hl (jk 2 hg.len))) (by decide)
 ·rw[ot]
  obtain⟨a1,a2,a3,b1,b2,b3,b4⟩:=hr;exact⟨a1,a2,a3,fun x hx=>az (b1 x hx) hg.few,az b2 hg.few,az b3 hg.few,az b4 hg.few⟩
end
noncomputable def wsum(f:Nat->Int):List Int->Nat->Int
 |[],_=>0
 |c::l,i=>f i*c+wsum f l (i+1)
theorem i0(f:Nat->Int)(i:Nat):wsum f [] i=0:=rfl
theorem j5(f:Nat->Int)(c:Int)(l:List Int)(i:Nat):wsum f (c::l) i=f i*c+wsum f l (i+1):=rfl
theorem qG(f:Nat->Int):∀(a b:List Int) (i:Nat),wsum f (a++b) i=wsum f a i+wsum f b (i+a.length)
 |[],b,i=>by simp[i0,j5]
 |x::a,b,i=>by
  simp only[List.cons_append,i0,j5,qG f a b,cr];have:i+1+a.length=i+(a.length+1):=by omega
  rw[this];omega
theorem xz(f:Nat->Int):∀(n i:Nat),wsum f (List.replicate n 0) i=0
 |0,i=>rfl
 |n+1,i=>by simp[qO,i0,j5,xz f n]
theorem BO(f:Nat->Int):∀(l:List Int) (b i:Nat) (x:Int),l[b]?=some x->wsum f (l.set b (x+1)) i=wsum f l i+f (i+b)
 |[],b,i,x,h=>by simp at h
 |y::l,0,i,x,h=>by
  simp at h;subst h;simp only[List.set_cons_zero,i0,j5,Int.mul_add,Int.mul_one,lO];omega
 |y::l,b+1,i,x,h=>by
  simp only[List.getElem?_cons_succ]at h;simp only[List.set_cons_succ,i0,j5,BO f l b (i+1) x h];have:i+1+b=i+(b+1):=by omega
  rw[this];omega
theorem GN(f:Nat->Int)(cnt:List Int)(b i:Nat):wsum f (grow cnt b) i=wsum f cnt i:=by
 unfold grow;split
 ·rw[qG,xz];omega
 ·rfl
theorem GO(f:Nat->Int)(cnt:List Int)(b:Nat):wsum f (bump cnt b) 0=wsum f cnt 0+f b:=by
 unfold bump;have h:=(vO cnt b).1;have e:(grow cnt b)[b]?=some (grow cnt b)[b]:=iK h;rw[e,tQ,BO f _ b 0 _ e,GN,gg]
noncomputable def GQ:List Int->Int
 |[]=>0
 |x::l=>x+GQ l
theorem Fp:GQ []=0:=rfl
theorem zK(x:Int)(l:List Int):GQ (x::l)=x+GQ l:=rfl
theorem vX(f:Nat->Int):∀(l:List Nat) (cnt:List Int),wsum f (l.foldl bump cnt) 0=wsum f cnt 0+GQ (l.map f)
 |[],cnt=>by simp[Fp,zK]
 |x::l,cnt=>by
  rw[dg,vX f l,GO];simp only[bB,Fp,zK];omega
theorem xA(f:Nat->Int):∀(l:List Int) (i:Nat),(∀j,i<=j->j<i+l.length->f j=0)->wsum f l i=0
 |[],i,h=>rfl
 |x::l,i,h=>by
  rw[wsum,h i (bL _) (by simp),xA f l (i+1) fun j h1 h2=>h j (by omega) (by simp;omega)];simp
theorem GT(f:Nat->Int)(k:Nat):∀(n:Nat) (l:List Int) (a:Int),l.length=n->(List.range n).foldl (fun a j=>a+f (k+j)*(l[j]?).getD 0) a=a+wsum f l k:=by
 intro n
 induction n with
 |zero=>
  intro l a h;obtain rfl:=CJ h;simp[i0,j5]
 |succ n ih=>
  intro l a h;have cZ:l≠[]:=fun z=>by subst z;simp at h
  have e:=List.dropLast_concat_getLast cZ;have hl:l.dropLast.length=n:=by rw[pt,h];rfl
  have QX:(List.range n).foldl (fun a j=>a+f (k+j)*(l[j]?).getD 0) a=(List.range n).foldl (fun a j=>a+f (k+j)*(l.dropLast[j]?).getD 0) a:=by
   have go:∀(r:List Nat) (a:Int),(∀j∈r,j<n)->r.foldl (fun a j=>a+f (k+j)*(l[j]?).getD 0) a=r.foldl (fun a j=>a+f (k+j)*(l.dropLast[j]?).getD 0) a:=by
    intro r
    induction r with
    |nil=>intros;rfl
    |cons x r ih2=>
     intro a hr;have hx:x<n:=hr x gJ;have:l.dropLast[x]?=l[x]?:=by rw[List.getElem?_dropLast];rw[aw (by omega)]
     simp only[dg,this];exact ih2 _ fun j hj=>hr j (ge _ hj)
   exact go _ _ fun j hj=>ec.mp hj
  rw[tN,dF,QX,ih _ _ hl];have UQ:l[n]?=some (l.getLast cZ):=by
   rw[List.getLast_eq_getElem,iK (by omega)]
   congr 2
   omega
  simp only[dg,mX,UQ,tQ]
  conv=>rhs;rw[<-e,qG]
  simp only[i0,j5,hl];omega
theorem GU(cnt:List Int)(ts:Nat)(h:0<ts):GE cnt ts=wsum (fun i=>(i:Int)/ts) cnt 0:=by
 have e:cnt=cnt.take ts++cnt.drop ts:=(xZ ..).symm;unfold GE;have h1:=GT (fun i=>(i:Int)/ts) ts (cnt.length-ts) (cnt.drop ts) 0 (by simp);simp only[tJ]at h1;rw[h1];have UR:wsum (fun i=>(i:Int)/ts) (cnt.take ts) 0=0:=by
  refine xA _ _ _ fun j ø hj=>?_
  have:(j:Int)<ts:=by
   rw[tO]at hj;omega
  exact Int.ediv_eq_zero_of_lt (by omega) this
 conv=>rhs;rw[e,qG,UR]
 by_cases q:ts<=cnt.length
 ·have:(cnt.take ts).length=ts:=by rw[tO];exact xX q
  rw[this,gg]
 ·have:cnt.drop ts=[]:=tD (by omega)
  rw[this];simp[i0,j5]
theorem BP(l:List Nat)(cnt:List Int)(b n nt:Nat):∀r:Nat,bp kH (List.replicate r 32++l) (cnt,b,n,nt)=bp kH l (cnt,b+r,n+r,nt):=by
 intro r
 induction r generalizing b n with
 |zero=>rfl
 |succ r ih=>
  rw[qO,List.cons_append];simp only[vk,fe,kH,jP];rw[ih];have e1:b+1+r=b+(r+1):=by omega
  have e2:n+1+r=n+(r+1):=by omega
  rw[e1,e2]
theorem QY(cnt:List Int)(b n nt:Nat){c:Nat}{l:List Nat}(h1:c≠32)(h2:c≠9):bp kH (c::l) (cnt,b,n,nt)= .inr (cnt,b,n,nt):=by simp[vk,fe,kH,h1,h2]
theorem Kr(cnt:List Int)(b:Nat):(bump cnt b).length=max cnt.length (b+1):=by
 unfold bump grow;rw[List.length_set];split
 ·simp;omega
 ·omega
set_option tactic.hygienic true in
theorem Ni(cnt:List Int)(b j:Nat):((bump cnt b)[j]?).getD 0=(cnt[j]?).getD 0+if j=b then 1 else 0:=by
 have hg:∀j:Nat,((grow cnt b)[j]?).getD 0=(cnt[j]?).getD 0:=by
  intro j;unfold grow;split
  ·rw[List.getElem?_append]
   split
   ·rfl
   ·rename_i h1 h2
    rw[List.getElem?_replicate];have:cnt[j]?=none:=nu (by omega);rw[this];split<;>rfl
  ·rfl
 unfold bump;rw[List.getElem?_set,hg];by_cases q:b=j
 ·subst q
  rw[aw rfl,aw (vO cnt b).1,aw rfl];rfl
 ·rw[au q,au (fun z=>q z.symm),hg]
  omega
noncomputable def Kt:List Nat->Nat
 |[]=>0
 |r::l=>max (r+1) (Kt l)
theorem D1:Kt []=0:=rfl
theorem vY(r:Nat)(l:List Nat):Kt (r::l)=max (r+1) (Kt l):=rfl
theorem jh:∀(l:List Nat) (cnt:List Int),(l.foldl bump cnt).length=max cnt.length (Kt l)
 |[],cnt=>by simp[D1,vY]
 |x::l,cnt=>by
  rw[dg,jh l,Kr];exact Nat.max_assoc ..
theorem lB:∀(l:List Nat) (cnt:List Int) (j:Nat),((l.foldl bump cnt)[j]?).getD 0=(cnt[j]?).getD 0+(l.count j:Int)
 |[],cnt,j=>by simp
 |x::l,cnt,j=>by
  rw[dg,lB l,Ni,x0];by_cases q:j=x
  ·subst q;simp;omega
  ·have:(x==j)=false:=by simpa using fun z=>q z.symm
   simp[q,this]
theorem Ku{l l':List Nat}(h:l.Perm l'):Kt l=Kt l':=by
 induction h with
 |nil=>rfl
 |cons x _ ih=>simp[D1,vY,ih]
 |swap x y l=>exact Nat.max_left_comm ..
 |trans _ _ h1 h2=>exact h1.trans h2
theorem D2{l l':List Nat}:l.foldl bump []=l'.foldl bump []<->l.Perm l':=by
 constructor
 ·intro h
  rw[List.perm_iff_count];intro j;have h1:=lB l [] j;have h2:=lB l' [] j;rw[h]at h1;rw[h1]at h2;simp at h2;omega
 ·intro h
  refine List.ext_getElem? fun j=>?_
  have hl:(l.foldl bump []).length=(l'.foldl bump []).length:=by rw[jh,jh,Ku h]
  have h1:=lB l [] j;have h2:=lB l' [] j;rw[h.count_eq]at h1;by_cases q:j<(l.foldl bump []).length
  ·rw[iK q]at h1 ⊢
   rw[iK (hl▸q)]at h2 ⊢;simp only[tQ]at h1 h2;rw[h1,h2]
  ·rw[nu (by omega),nu (by omega)]
theorem GV(l:List Nat):∀z∈l.foldl bump [],0<=z/\z<=l.length:=by
 intro z hz;obtain⟨j,hj⟩:=List.mem_iff_getElem?.mp hz;have h:=lB l [] j;rw[hj]at h;simp at h;have:=CL (a:=j) (l:=l);omega
theorem QZ{l:List Nat}{m:Nat}(h:∀r∈l,r<m):Kt l<=m:=by
 induction l with
 |nil=>exact eK _
 |cons x l ih=>
  have h1:=h x gJ;have h2:=ih fun r hr=>h r (ge _ hr)
  simp only[D1,vY];omega
theorem GW(r:Nat)(rs:List Nat)(l:List Nat):iU (r::rs)++l=List.replicate r 32++(9::(iU rs++l)):=by
 unfold iU;rw[bB,eQ,List.append_assoc,List.append_assoc];rfl
theorem Fq(l:List Nat):∀(rs:List Nat) (cnt:List Int) (n nt:Nat),bp kH (iU rs++l) (cnt,0,n,nt)=bp kH l (rs.foldl bump cnt,0,n+(rs.map (· +1)).sum,nt+rs.length)
 |[],cnt,n,nt=>rfl
 |r::rs,cnt,n,nt=>by
  rw[GW,BP,fe];show bp kH (iU rs++l) (bump cnt (0+r),0,n+r+1,nt+1)=_;rw[Fq l rs,gg,dg,bB,kj,cr];have e1:n+r+1+(rs.map (· +1)).sum=n+(r+1+(rs.map (· +1)).sum):=by rw[Nat.add_assoc n r 1,Nat.add_assoc]
  have e2:nt+1+rs.length=nt+(rs.length+1):=by rw[Nat.add_assoc,qZ 1]
  rw[e1,e2]
theorem Kv{r:List Nat×Nat}{c:Nat}{l:List Nat}(h1:c≠32)(h2:c≠9):pM (DU r (c::l))=(r.1.foldl bump [],r.2,(r.1.map (· +1)).sum+r.2,r.1.length):=by
 unfold pM DU;rw[List.append_assoc,List.append_assoc,Fq,BP,List.cons_append,QY _ _ _ _ h1 h2,gg,gg,gg]
noncomputable def pO(r:List Nat×Nat)(t:Nat):Nat:=r.2+t*((r.1.map (· /t)).sum+r.1.length)
noncomputable def jN(r:List Nat×Nat):Nat:=r.1.foldr max r.2
theorem BQ(t:Nat):∀l:List Nat,GQ (l.map fun(i:Nat)=>(i:Int)/t)=((l.map (· /t)).sum:Nat)
 |[]=>rfl
 |x::l=>by
  rw[bB,zK,BQ t l,bB,kj];rfl
theorem D3(r:List Nat×Nat){t:Nat}(h:0<t):zE (r.1.foldl bump []) r.1.length r.2 t=(pO r t:Nat):=by
 unfold zE pO;rw[GU _ _ h,vX,i0,Int.zero_add,BQ];rfl
theorem Nj(r:List Nat×Nat):(r.1.map (· +1)).sum+r.2=pO r 1:=by
 have:∀l:List Nat,(l.map (· +1)).sum=(l.map (· /1)).sum+l.length:=fun l=>by
  induction l with
  |nil=>rfl
  |cons x l ih=>
   rw[bB,bB,kj,kj,ih,Nat.div_one,cr];omega
 unfold pO;rw[this,tZ,qZ]
theorem Kw:∀c,c<8->∀t,t<9->0<t->((upTo c).filter fun s=>decide (s % t=0)).length=c/t:=by decide+kernel
theorem BR{t:Nat}(h0:0<t)(h:t<9):∀{rs:List Nat},(∀x∈rs,x<=7)->((na rs).filter fun s=>decide (s % t=0)).length=(rs.map (· /t)).sum
 |[],_=>rfl
 |r::rs,hr=>by
  have e:na (r::rs)=upTo r++na rs:=by unfold na;rw[bB,eQ]
  rw[e,List.filter_append,aY,BR h0 h fun x hx=>hr x (.tail _ hx),Kw r (ri (hr r (.head _))) t h h0,bB,kj]
theorem Kx(a:Nat):∀c:Nat,(upTo c).foldr max a=max c a:=by
 intro c
 induction c generalizing a with
 |zero=>exact(Nat.zero_max a).symm
 |succ c ih=>
  have e:upTo (c+1)=upTo c++[c+1]:=by unfold upTo;rw[tN,List.map_append];rfl
  rw[e,List.foldr_append,ih];show max c (max (c+1) a)=_;omega
theorem BS(a:Nat):∀rs:List Nat,(na rs).foldr max a=rs.foldr max a
 |[]=>rfl
 |r::rs=>by
  have e:na (r::rs)=upTo r++na rs:=by unfold na;rw[bB,eQ]
  rw[e,List.foldr_append,BS a rs,Kx,tY]
theorem Ky{s:oM}{r:List Nat×Nat}(h:Told 7 s r):BM s= .tup [.list ((List.range 8).map fun(j:Nat)=>V.int (pO r (j+1):Nat)),.int (jN r)]:=by
 obtain⟨a1,a2,a3,b1,b2,b3,b4⟩:=h;have e1:(List.range 8).map (fun(j:Nat)=>V.int (Kl s (j+1)))=(List.range 8).map fun(j:Nat)=>V.int (pO r (j+1):Nat):=lS fun j hj=>by
  unfold Kl pO;rw[a1,a2,a3,BR (g9 j) (Nat.succ_lt_succ (ec.mp hj)) b1,qZ (List.sum _)];rfl
 have e2:Fn s=jN r:=by
  unfold Fn jN;rw[a1,a3,BS]
 unfold BM;rw[e1,e2]
theorem vZ(a b:Nat):max (a:Int) (b:Int)=((max a b:Nat):Int):=by
 rcases Nat.le_total a b with h|h
 ·rw[Nat.max_eq_right h,tM (jU.mpr h)]
 ·rw[Nat.max_eq_left h,Int.max_eq_left (jU.mpr h)]
theorem BU(a:Nat):∀l:List Nat,(Kt l=0/\l.foldr max a=a)\/∃m,Kt l=m+1/\l.foldr max a=max m a
 |[]=>.inl ⟨rfl,rfl⟩
 |x::l=>.inr (by
  rw[vY,tY];rcases BU a l with⟨h1,h2⟩|⟨m,h1,h2⟩
  ·exact⟨x,by rw[h1];rfl,by rw[h2]⟩
  ·exact⟨max x m,by rw[h1,Nat.succ_max_succ],by rw[h2,Nat.max_assoc]⟩)
theorem Kz(r:List Nat×Nat):max (((r.1.foldl bump []).length:Int)-1) r.2=(jN r:Nat):=by
 rw[jh,gy,Nat.zero_max];unfold jN;rcases BU r.2 r.1 with⟨h1,h2⟩|⟨m,h1,h2⟩
 ·rw[h1,h2]
  exact tM (kf (by decide) (mW _))
 ·rw[h1,h2,<-vZ]
  exact congrArg (fun z=>max z (r.2:Int)) (Int.add_sub_cancel (m:Int) 1)
theorem Q0{n:Nat}{r:List Nat×Nat}(h1:∀x∈r.1,x<=n)(h2:r.2<=n):jN r<=n:=by
 obtain⟨rs,a⟩:=r;unfold jN;dsimp only
 induction rs with
 |nil=>exact h2
 |cons x l ih=>exact rg.mpr ⟨h1 x (.head _),ih (fun y hy=>h1 y (.tail _ hy)) h2⟩
theorem D4(r:List Nat×Nat):(∀x∈r.1,x<=jN r)/\r.2<=jN r:=by
 obtain⟨rs,a⟩:=r;unfold jN;dsimp only
 induction rs with
 |nil=>exact⟨nofun,bL _⟩
 |cons x l ih=>
  refine⟨fun y hy=>?_,az ih.2 (rf _ _)⟩;rcases bI.mp hy with rfl|hy
  ·exact xY _ _
  ·exact az (ih.1 y hy) (rf _ _)
theorem j6:∀a b:List Int,PyData.eqvAll (a.map .int) (b.map .int)=decide (a=b)
 |[],[]=>rfl
 |[],_::_=>rfl
 |_::_,[]=>rfl
 |x::a,y::b=>by
  have e:(x==y)=decide (x=y):=rfl;simp[PyData.eqvAll,PyData.eqv,j6 a b,e]
theorem depthAll_ints:∀a:List Int,PyData.depthAll (a.map .int)<=1
 |[]=>by simp[PyData.depthAll]
 |x::a=>by
  have:=depthAll_ints a;simp[PyData.depthAll,PyData.depth];omega
theorem KA(a b:List Int)(x y:Int):np (.tup [.tup (a.map .int),.int x]) (.tup [.tup (b.map .int),.int y])=some (decide (a=b)&&decide (x=y)):=by
 have h:=depthAll_ints a;rw[x9 _ _ rfl];simp only[CR,V.wT,V.wU,V.wV,V.wW,V.wX,V.x8,V.CQ,qr,pv,lN,PyData.depth,PyData.depthAll,PyData.eqv,j6,PyData.eqvAll];rw[aw (by omega)];simp[BEq.beq]
noncomputable def fU(l:List (List Int)):V:=.list (l.map fun e=>.tup (e.map .int))
theorem v3:∀l:List (List Int),V.Fz (l.map fun e=>.tup (e.map .int))=some (l.map fun e=>.tuple (e.map .int))
 |[]=>rfl
 |x::l=>by simp[V.x8,V.CQ,V.wT,V.wU,V.wV,V.wW,V.wX,qr,v3 l]
theorem sJ:∀l:List (List Int),PyData.eqvAll (l.map fun e=>.tuple (e.map .int)) (l.map fun e=>.tuple (e.map .int))=true
 |[]=>rfl
 |x::l=>by simp[PyData.eqvAll,PyData.eqv,j6,sJ l]
theorem kJ:∀a:List (List Int),PyData.depthAll (a.map fun e=>.tuple (e.map .int))<=5
 |[]=>by simp[PyData.depthAll]
 |x::a=>by
  have:=kJ a;have:=depthAll_ints x;simp[PyData.depthAll,PyData.depth];omega
theorem BV(l:List (List Int)):Hh (fU l) (fU l)=some false:=by
 have h:=kJ l;unfold Hh fU;rw[x9 _ _ rfl];simp only[CR,V.wT,V.wU,V.wV,V.wW,V.wX,v3,pv,lN,PyData.depth,PyData.eqv,sJ];rw[aw (by omega)];rfl
theorem BW(a b:Int):Db [.int a,.int b]=some (.int (max a b)):=by
 rw[O9];exact congrArg (fun z=>some (V.int z)) (by split<;>omega)
theorem BX{P:Pk}{n:Nat}{C N}{mN}{W:dJ P C N mN}{g1 g2}{ρ:ao}{raw M9:V}{k:Int}{nt b:Nat}{cnt:List Int}(hc:cnt.length<=1000)(h0:ρ 0=some (GD raw M9 k nt b cnt)):
  Ends (ei (P:=P) (n:=n) (C:=C) (N:=N) (mN:=mN) W g1 g2).1 ρ (.int (max ((cnt.length:Int)-1) b)):=by
 have hl:(cnt.map V.int).length=cnt.length:=List.length_map ..;have DA:(cnt.map V.int).length<=most:=by rw[hl];exact az hc (by decide)
 unfold ei;dsimp only;exact ex1 ρ h0 fun σ=>bw rfl (df (cN (ap (bT (bY rfl (JB _ DA)) rfl rfl) (ap rfl rfl)) ((BW ..).trans (by rw[hl]))))
theorem GZ{P:Pk}{n:Nat}{C N}{mN}{W:dJ P C N mN}{ρ:ao}{raw M9:V}{k:Int}{nt b:Nat}{cnt:List Int}{sd Zc:V}{k':Int}{nt' b':Nat}{Q1:List Int}(h0:ρ 0=some (GD raw M9 k nt b cnt))(h1:ρ 1=some (GD sd Zc k' nt' b' Q1)):
  Ends (zD (P:=P) (n:=n) (C:=C) (N:=N) (mN:=mN) W).1 ρ (.bool (decide (cnt=Q1)&&decide (b=b'))):=by
 unfold zD;dsimp only;have e:=KA cnt Q1 b b';rw[show decide ((b:Int)=b')=decide (b=b')from mY.mpr Int.ofNat_inj]at e;exact df (cB (aG (cN h0 rfl) (cN h1 rfl) e) rfl)
noncomputable def kK(a b:Nat->Int)(l:List (List Int))(j:Nat):List (List Int):=if a (j+1)=b (j+1)then l else l++[[((j+1:Nat):Int),a (j+1),b (j+1)]]
noncomputable def gG(a b:Nat->Int)(n:Nat):List (List Int):=(List.range n).foldl (kK a b) []
theorem KB(a b:Nat->Int):∀(r:List Nat) (l:List (List Int)),(r.foldl (kK a b) l).length<=l.length+r.length
 |[],l=>bL _
 |x::r,l=>by
  have h:(kK a b l x).length<=l.length+1:=by
   unfold kK;split
   ·exact jT _
   ·exact jj aY
  refine az (KB a b r (kK a b l x)) ?_;rw[cr];omega
theorem Fs{k:Nat}(h:k<=1000):oy [.int 1,.int ((k:Int)+1)]=some ((List.range k).map fun(j:Nat)=>V.int ((j+1:Nat):Int)):=by
 have h6:eZ ((k:Int)+1)=true:=(bX _ _).mpr ⟨bo (by omega),bo (by omega)⟩;have hk:((k:Int)+1-1).toNat=k:=by omega
 rw[ug,h6,r8,hk];exact congrArg some (lS fun j ø=>congrArg V.int (by omega))
theorem BY{P:Pk}{n:Nat}{C N}{mN}{W:dJ P C N mN}{g1 g2}{a1 F1 m1 o1 l1 c1}{a2 F2 m2 o2 l2 c2}{ρ:ao}{v w:V}{lv lw:Int}{x y:Nat->Int}{k:Nat}(hk:k<=1000)(hv:∃l,v= .obj l/\l.length=5)(hw:∃l,w= .obj l/\l.length=5)(Pe:max lv lw+1=k)
  (wg:F2 [v]=some (.int lv)) (Mr:F2 [w]=some (.int lw)) (hI:∀ts:Nat,0<ts->ts<=k->F1 [v,.int ts]=some (.int (x ts))/\F1 [w,.int ts]=some (.int (y ts)))
  (h0:ρ 0=some v) (h1:ρ 1=some w):
  Ends (fL (P:=P) (n:=n) (C:=C) (N:=N) (mN:=mN) W g1 g2 (aP:=a1) (bN:=F1) m1 o1 l1 c1 (aE:=a2) (bi:=F2) m2 o2 l2 c2).1 ρ (fU (gG x y k)):=by
 obtain⟨ww,rfl,G0⟩:=hv;obtain⟨US,rfl,G1⟩:=hw;unfold fL;dsimp only;refine ex2 ρ h0 h1 fun σ=>dk (Eq.trans (ad (cN (ap (bQ rfl G0 rfl wg) (ap (bQ rfl G1 rfl Mr) rfl)) (BW _ _)) rfl) (congrArg (fun z=>some (V.int z)) Pe)) (dk rfl (eB (fun ρ=>Qv 0 1 2 3 (.obj ww) (.obj US) (.int k) (fU (gG x y k)) ρ) (eT (cN (ap rfl (ap (ad rfl rfl) rfl)) (Fs hk)) (lu (fun(j:Nat)=>V.int ((j+1:Nat):Int)) (List.range k) (fun l ρ=>Qv 0 1 2 3 (.obj ww) (.obj US) (.int k) (fU (l.foldl (kK x y) [])) ρ) (fun l j ρ hj ew hR=>?_) ⟨rfl,rfl,rfl,rfl⟩)) fun am hR=>df hR.4))
 obtain⟨e1,e2⟩:=hI (j+1) (g9 j) (ec.mp hj);rw[eM]at ew;have Ch:(l.foldl (kK x y) []).length<most:=eV (KB _ _ l []) (by rw[gy,gg];exact fw ew (az hk (by decide)));rw[dF,dg,mX];generalize l.foldl (kK x y) []=st at*;unfold kK;by_cases q:x (j+1)=y (j+1)
 ·rw[aw q]
  exact hR.ex fun σ=>⟨_,_,rfl,cf (iq (aG (bQ rfl G0 rfl e1) (bQ rfl G1 rfl e2) (RN q)) rfl) rfl,rfl,rfl,rfl,rfl⟩
 ·rw[au q]
  exact hR.ex fun σ=>⟨_,_,rfl,cf (ni (aG (bQ rfl G0 rfl e1) (bQ rfl G1 rfl e2) (neT q)) (Gj rfl (ap (cB (ap rfl (ap (bQ rfl G0 rfl e1) (ap (bQ rfl G1 rfl e2) rfl))) rfl) rfl) (rR _ _ (by rw[List.length_map];exact Ch)) rfl)) rfl,rfl,rfl,rfl,congrArg (fun z=>some (V.list z)) (n4 (fun e=>V.tup (e.map .int)) st [((j+1:Nat):Int),x (j+1),y (j+1)])⟩
noncomputable def pP:Cx:={vars:=[(wi,.local,false),(Fx,.local,false),(Ls,.local,false),(⟨#[97]⟩,.local,true),(Rp,.local,false)],aV:=[Eo,wd]}
noncomputable def gc{P:Pk}{n:Nat}{C N:Addr}{mN:Str->Option Value}(W:dJ P C N mN)(fg:P.glob Eo=some (.builtin "max"))(aX:P.glob wd=some (.type "range")){aP:Addr}{bN:List V->Option V}(bt:mN En=some (.ref aP))(aL:∀h,P.G h->∃of fd,h.get? aP=some of/\of.cls= .type "function"/\of.data= .func fd)(bu:typeLookup (.type "object") En=pure none)(bv:aZ P n (.ref aP) bN){aE:Addr}{bi:List V->Option V}(bj:mN Hd=some (.ref aE))(aK:∀h,P.G h->∃of fd,h.get? aE=some of/\of.cls= .type "function"/\of.data= .func fd)(bk:typeLookup (.type "object") Hd=pure none)(bm:aZ P n (.ref aE) bi):{f:ao->Option (ao×Fl)//ow P n pP (dW (aO (dX (aO pq.main.body 10)) 7)) f}:=⟨_,(@af _ _ _ _ _ _ _ (@aI _ _ _ 2 _ _ _ _ _ _ rfl (by decide) (@al _ _ _ _ _ _ _ _ _ _ _ cm (@aJ _ _ _ _ _ _ _ _ _ _ _ rfl fg rfl uq (@aa _ _ _ _ _ _ _ _ (bc W (ab 0 rfl rfl rfl) bj aK bk (by decide+kernel) bm ag ir (by decide) rfl ir) (aa (bc W (ab 1 rfl rfl rfl) bj aK bk (by decide+kernel) bm ag ir (by decide) rfl ir) ag ir) ir) ir (ca _ _)) ae) cz) (@af _ _ _ _ _ _ _ (fV 3 rfl (by decide) (fq ag (by decide) len0) cz) (@af _ _ _ _ _ _ _ (@dB _ _ _ (false) _ _ _ _ _ _ _ (@cL _ _ _ _ _ _ _ rfl aX (@aa _ _ _ _ _ _ _ _ ae (aa (al cm (ab 2 rfl rfl rfl) ae) ag ir) ir) ir (ca _ _)) (aB 4 rfl (by decide) (by decide)) (@af _ _ _ _ _ _ _ (@aN _ _ _ _ _ _ _ _ _ _ (@ay _ _ _ _ _ _ _ _ _ _ Hu (@bc _ _ _ _ _ _ _ W _ _ _ _ _ _ _ _ _ (ac (ab 0 rfl rfl rfl)) bt aL _ bu (by decide+kernel) bv (aa (ac (ab 4 rfl rfl rfl)) ag ir) ir (by decide) rfl ir) (@bc _ _ _ _ _ _ _ W _ _ _ _ _ _ _ _ _ (ac (ab 1 rfl rfl rfl)) bt aL _ bu (by decide+kernel) bv (aa (ac (ab 4 rfl rfl rfl)) ag ir) ir (by decide) rfl ir) rfl) (@af _ _ _ _ _ _ _ (@eG _ _ _ _ _ _ (@eF _ _ _ 3 _ _ _ _ _ _ _ _ _ rfl rfl rfl ue (@aa _ _ _ _ _ _ _ _ (@de _ _ _ _ _ _ _ _ (@aa _ _ _ _ _ _ _ _ (ab 4 rfl rfl rfl) (@aa _ _ _ _ _ _ _ _ (bc W (ab 0 rfl rfl rfl) bt aL bu (by decide+kernel) bv (aa (ab 4 rfl rfl rfl) ag ir) ir (by decide) rfl ir) (@aa _ _ _ _ _ _ _ _ (bc W (ab 1 rfl rfl rfl) bt aL bu (by decide+kernel) bv (aa (ab 4 rfl rfl rfl) ag ir) ir (by decide) rfl ir) ag ir) ir) ir) (by decide) (ah (ah (ah len0)))) ag ir) ir (by decide) rfl ir) jE ir) ai) ai) ai) cz) (af (aW (dc 3 rfl rfl rfl)) ai))))⟩
noncomputable def Q2:Cx:={vars:=[(wi,.local,false),(Fx,.local,false),(Ls,.local,false),(Rp,.local,false)],aV:=[Eo,wd]}
noncomputable def D5{P:Pk}{n:Nat}{C N:Addr}{mN:Str->Option Value}(W:dJ P C N mN)(fg:P.glob Eo=some (.builtin "max"))(aX:P.glob wd=some (.type "range")){aP:Addr}{bN:List V->Option V}(bt:mN En=some (.ref aP))(aL:∀h,P.G h->∃of fd,h.get? aP=some of/\of.cls= .type "function"/\of.data= .func fd)(bu:typeLookup (.type "object") En=pure none)(bv:aZ P n (.ref aP) bN){aE:Addr}{bi:List V->Option V}(bj:mN Hd=some (.ref aE))(aK:∀h,P.G h->∃of fd,h.get? aE=some of/\of.cls= .type "function"/\of.data= .func fd)(bk:typeLookup (.type "object") Hd=pure none)(bm:aZ P n (.ref aE) bi):{f:ao->Option (ao×Fl)//ow P n Q2 (dW (aO (dX (aO pq.main.body 10)) 6)) f}:=⟨_,(@af _ _ _ _ _ _ _ (@aN _ _ _ _ _ _ _ _ _ _ (@ay _ _ _ _ _ _ _ _ _ _ Hu (dj W 1 rfl (ac (ab 0 rfl rfl rfl)) ir) (dj W 1 rfl (ac (ab 1 rfl rfl rfl)) ir) rfl) (af (aW eX) ai) ai) (@af _ _ _ _ _ _ _ (@aN _ _ _ _ _ _ _ _ _ _ (@gk _ _ _ _ _ _ _ _ (@ja _ _ _ _ _ (dj W 4 rfl (ac (ab 0 rfl rfl rfl)) ir) cz) (@ja _ _ _ _ _ (dj W 4 rfl (ac (ab 1 rfl rfl rfl)) ir) cz)) (@af _ _ _ _ _ _ _ (@aW _ _ _ _ _ _ (@i9 _ _ _ _ _ _ _ _ _ _ _ Hv (dj W 2 rfl (ac (ab 0 rfl rfl rfl)) ir) (dj W 2 rfl (ac (ab 1 rfl rfl rfl)) ir) rfl)) ai) ai) (@af _ _ _ _ _ _ _ (@aI _ _ _ 2 _ _ _ _ _ _ rfl (by decide) (@al _ _ _ _ _ _ _ _ _ _ _ cm (@aJ _ _ _ _ _ _ _ _ _ _ _ rfl fg rfl uq (@aa _ _ _ _ _ _ _ _ (bc W (ab 0 rfl rfl rfl) bj aK bk (by decide+kernel) bm ag ir (by decide) rfl ir) (aa (bc W (ab 1 rfl rfl rfl) bj aK bk (by decide+kernel) bm ag ir (by decide) rfl ir) ag ir) ir) ir (ca _ _)) ae) cz) (@af _ _ _ _ _ _ _ (@dB _ _ _ (false) _ _ _ _ _ _ _ (@cL _ _ _ _ _ _ _ rfl aX (@aa _ _ _ _ _ _ _ _ ae (aa (al cm (ab 2 rfl rfl rfl) ae) ag ir) ir) ir (ca _ _)) (aB 3 rfl (by decide) (by decide)) (@af _ _ _ _ _ _ _ (@aN _ _ _ _ _ _ _ _ _ _ (@ay _ _ _ _ _ _ _ _ _ _ Hu (@bc _ _ _ _ _ _ _ W _ _ _ _ _ _ _ _ _ (ac (ab 0 rfl rfl rfl)) bt aL _ bu (by decide+kernel) bv (aa (ac (ab 3 rfl rfl rfl)) ag ir) ir (by decide) rfl ir) (@bc _ _ _ _ _ _ _ W _ _ _ _ _ _ _ _ _ (ac (ab 1 rfl rfl rfl)) bt aL _ bu (by decide+kernel) bv (aa (ac (ab 3 rfl rfl rfl)) ag ir) ir (by decide) rfl ir) rfl) (af (aW eX) ai) ai) ai) cz) (af (aW eX) ai)))))⟩
noncomputable def kL(a b:Nat->Int)(l:List (List Int))(j:Nat):List (List Int):=if b (j+1)<=a (j+1)then l++[[((j+1:Nat):Int),a (j+1),b (j+1)]]else l
noncomputable def em(a b:Nat->Int)(n:Nat):List (List Int):=(List.range n).foldl (kL a b) []
theorem Q3(a b:Nat->Int)(r:List Nat):∀(l:List (List Int)),(r.foldl (kL a b) l).length<=l.length+r.length:=by
 induction r with
 |nil=>exact fun l=>bL _
 |cons x r ih=>
  intro l;have h:(kL a b l x).length<=l.length+1:=by
   unfold kL;by_cases q:b (x+1)<=a (x+1)
   ·rw[aw q];exact jj aY
   ·rw[au q];exact jT _
  refine az (ih (kL a b l x)) ?_;rw[cr];omega
theorem BZ{P:Pk}{n:Nat}{C N}{mN}{W:dJ P C N mN}{g1 g2}{a1 F1 m1 o1 l1 c1}{a2 F2 m2 o2 l2 c2}{ρ:ao}{v w:V}{lv lw:Int}{x y:Nat->Int}{k:Nat}(hk:k<=1000)(hv:∃l,v= .obj l/\l.length=5)(hw:∃l,w= .obj l/\l.length=5)(Pe:max lv lw+1=k)
  (wg:F2 [v]=some (.int lv)) (Mr:F2 [w]=some (.int lw)) (hI:∀ts:Nat,0<ts->ts<=k->F1 [v,.int ts]=some (.int (x ts))/\F1 [w,.int ts]=some (.int (y ts)))
  (h0:ρ 0=some v) (h1:ρ 1=some w):
  Ends (gc (P:=P) (n:=n) (C:=C) (N:=N) (mN:=mN) W g1 g2 (aP:=a1) (bN:=F1) m1 o1 l1 c1 (aE:=a2) (bi:=F2) m2 o2 l2 c2).1 ρ (fU (em x y k)):=by
 obtain⟨ww,rfl,G0⟩:=hv;obtain⟨US,rfl,G1⟩:=hw;unfold gc;dsimp only;refine ex2 ρ h0 h1 fun σ=>dk (Eq.trans (ad (cN (ap (bQ rfl G0 rfl wg) (ap (bQ rfl G1 rfl Mr) rfl)) (BW _ _)) rfl) (congrArg (fun z=>some (V.int z)) Pe)) (dk rfl (eB (fun ρ=>Qv 0 1 2 3 (.obj ww) (.obj US) (.int k) (fU (em x y k)) ρ) (eT (cN (ap rfl (ap (ad rfl rfl) rfl)) (Fs hk)) (lu (fun(j:Nat)=>V.int ((j+1:Nat):Int)) (List.range k) (fun l ρ=>Qv 0 1 2 3 (.obj ww) (.obj US) (.int k) (fU (l.foldl (kL x y) [])) ρ) (fun l j ρ hj ew hR=>?_) ⟨rfl,rfl,rfl,rfl⟩)) fun am hR=>df hR.4))
 obtain⟨e1,e2⟩:=hI (j+1) (g9 j) (ec.mp hj);rw[eM]at ew;have Ch:(l.foldl (kL x y) []).length<most:=eV (Q3 _ _ l []) (by rw[gy,gg];exact fw ew (az hk (by decide)));rw[dF,dg,mX];generalize l.foldl (kL x y) []=st at*;unfold kL;by_cases q:y (j+1)<=x (j+1)
 ·rw[aw q]
  exact hR.ex fun σ=>⟨_,_,rfl,cf (ni (aG (bQ rfl G0 rfl e1) (bQ rfl G1 rfl e2) (congrArg some (bo q))) (Gj rfl (ap (cB (ap rfl (ap (bQ rfl G0 rfl e1) (ap (bQ rfl G1 rfl e2) rfl))) rfl) rfl) (rR _ _ (by rw[List.length_map];exact Ch)) rfl)) rfl,rfl,rfl,rfl,congrArg (fun z=>some (V.list z)) (n4 (fun e=>V.tup (e.map .int)) st [((j+1:Nat):Int),x (j+1),y (j+1)])⟩
 ·rw[au q]
  exact hR.ex fun σ=>⟨_,_,rfl,cf (iq (aG (bQ rfl G0 rfl e1) (bQ rfl G1 rfl e2) (congrArg some (db q))) rfl) rfl,rfl,rfl,rfl,rfl⟩
theorem UT{k:Nat}(h:k<=1000):oy [.int 2,.int ((k:Int)+1)]=some ((List.range (k-1)).map fun(j:Nat)=>V.int ((j+2:Nat):Int)):=by
 have h6:eZ ((k:Int)+1)=true:=(bX _ _).mpr ⟨bo (by omega),bo (by omega)⟩;have hk:((k:Int)+1-2).toNat=k-1:=by omega
 rw[ug,h6,r8,hk];exact congrArg some (lS fun j ø=>congrArg V.int (by omega))
noncomputable def v4(n1 n2:Int)(s1 s2:Bool)(t1 t2:Int)(x y:Nat->Int)(k:Nat):Bool:=if n2<=n1 then false else if(s1&&s2)=true then decide (t1<=t2)else(List.range (k-1)).all fun j=>decide (x (j+2)<y (j+2))
theorem Nk{α:Type}{p:α->Bool}{l l' us:List α}{u:α}(h:l++u::l'=us)(q:p u=false):us.all p=false:=by
 rw[<-h,List.all_append,hO,q,Bool.false_and,Bool.and_false]
theorem KC{P:Pk}{n:Nat}{C N}{mN}{W:dJ P C N mN}{g1 g2}{a1 F1 m1 o1 l1 c1}{a2 F2 m2 o2 l2 c2}{ρ:ao}{r1 r2 q1 UU:V}{n1 n2 t1 t2 lv lw:Int}{s1 s2:Bool}{x y:Nat->Int}{k:Nat}(hk:k<=1000)(Pe:max lv lw+1=k)
  (wg:F2 [.obj [r1,.int n1,.int t1,q1,.bool s1]]=some (.int lv)) (Mr:F2 [.obj [r2,.int n2,.int t2,UU,.bool s2]]=some (.int lw)) (hI:∀ts:Nat,0<ts->ts<=k->F1 [.obj [r1,.int n1,.int t1,q1,.bool s1],.int ts]=some (.int (x ts))/\F1 [.obj [r2,.int n2,.int t2,UU,.bool s2],.int ts]=some (.int (y ts)))
  (h0:ρ 0=some (.obj [r1,.int n1,.int t1,q1,.bool s1])) (h1:ρ 1=some (.obj [r2,.int n2,.int t2,UU,.bool s2])):
  Ends (D5 (P:=P) (n:=n) (C:=C) (N:=N) (mN:=mN) W g1 g2 (aP:=a1) (bN:=F1) m1 o1 l1 c1 (aE:=a2) (bi:=F2) m2 o2 l2 c2).1 ρ (.bool (v4 n1 n2 s1 s2 t1 t2 x y k)):=by
 unfold D5;dsimp only;refine ex2 ρ h0 h1 fun σ=>?_
 by_cases q:n2<=n1
 ·rw[v4,aw q]
  exact dO ⟨_,ni (aG (x:=.int n1) (y:=.int n2) rfl rfl (congrArg some (bo q))) rfl⟩
 rw[v4,au q];refine bw (iq (aG (x:=.int n1) (y:=.int n2) rfl rfl (congrArg some (db q))) rfl) ?_;by_cases q2:(s1&&s2)=true
 ·rw[aw q2]
  exact dO ⟨_,ni ((gC (a:=s1) (b:=s2) rfl rfl).trans (congrArg some q2)) (Qu (cB (cB (aG (x:=.int t1) (y:=.int t2) rfl rfl rfl) rfl) rfl))⟩
 rw[au q2];refine bw (iq ((gC (a:=s1) (b:=s2) rfl rfl).trans (congrArg some (Bool.eq_false_iff.mpr q2))) rfl) ?_;have G0:([r1,.int n1,.int t1,q1,.bool s1]:List V).length=5:=rfl;have G1:([r2,.int n2,.int t2,UU,.bool s2]:List V).length=5:=rfl;refine dk (Eq.trans (ad (cN (ap (bQ rfl G0 rfl wg) (ap (bQ rfl G1 rfl Mr) rfl)) (BW _ _)) rfl) (congrArg (fun z=>some (V.int z)) Pe)) ?_;refine vm (eT (cN (ap rfl (ap (ad rfl rfl) rfl)) (UT hk)) (vl (fun(j:Nat)=>V.int ((j+2:Nat):Int)) (List.range (k-1)) (fun l ρ=>(ρ 0=some (.obj [r1,.int n1,.int t1,q1,.bool s1])/\ρ 1=some (.obj [r2,.int n2,.int t2,UU,.bool s2]))/\l.all (fun j=>decide (x (j+2)<y (j+2)))=true) _ (fun l u l' ρ hx hR=>?_) (fun ρ hR=>.inr ⟨rfl,?_⟩) ⟨⟨rfl,rfl⟩,rfl⟩))
 ·have hu:u<k-1:=ec.mp (hx▸ck _ gJ)
  obtain⟨e1,e2⟩:=hI (u+2) (g9 _) (by omega);obtain⟨⟨g0,g1⟩,ha⟩:=hR;refine ex2 ρ g0 g1 fun σ=>⟨_,rfl,?_⟩
  by_cases q3:y (u+2)<=x (u+2)
  ·rw[Nk (p:=fun j=>decide (x (j+2)<y (j+2))) hx (db (Int.not_lt.mpr q3))]
   exact⟨_,Qu (ni (aG (bQ rfl G0 rfl e1) (bQ rfl G1 rfl e2) (congrArg some (bo q3))) rfl),RO.rt (Or.inl rfl)⟩
  ·exact⟨_,cf (iq (aG (bQ rfl G0 rfl e1) (bQ rfl G1 rfl e2) (congrArg some (db q3))) rfl) rfl,.nx ⟨⟨rfl,rfl⟩,by rw[List.all_append,ha,hO,bo (mV.mp q3)];rfl⟩⟩
 ·rw[hR.2]
  exact df rfl
noncomputable abbrev UV(a b:Nat->Int)(j:Nat):List Int:=[((j+1:Nat):Int),a (j+1),b (j+1)]
theorem fold_filter{st:List (List Int)->Nat->List (List Int)}{p:Nat->Bool}{f:Nat->List Int}(h:∀l j,st l j=if p j=true then l++[f j]else l):∀(r:List Nat) (l:List (List Int)),r.foldl st l=l++(r.filter p).map f
 |[],l=>(ea l).symm
 |j::r,l=>by
  rw[dg,fold_filter h r,h,qV]
  cases p j with
  |true=>exact List.append_assoc _ _ _
  |false=>rfl
theorem v5(a b:Nat->Int)(n:Nat):em a b n=((List.range n).filter fun j=>decide (b (j+1)<=a (j+1))).map (UV a b):=
 fold_filter (fun l j=>by
  unfold kL;by_cases q:b (j+1)<=a (j+1)
  ·rw[aw q,bo q];rfl
  ·rw[au q,db q];rfl) _ _
theorem B0(a b:Nat->Int)(n:Nat):gG a b n=((List.range n).filter fun j=>!decide (a (j+1)=b (j+1))).map (UV a b):=
 fold_filter (fun l j=>by
  unfold kK;by_cases q:a (j+1)=b (j+1)
  ·rw[aw q,bo q];rfl
  ·rw[au q,db q];rfl) _ _
theorem B1(a b:Nat->Int)(n:Nat):em a b n=[]<->∀j,j<n->a (j+1)<b (j+1):=by
 rw[v5,CI,xO];exact⟨fun h j hj=>mV.mp fun z=>h j (ec.mpr hj) (bo z),fun h j hj z=>mV.mpr (h j (ec.mp hj)) (cV z)⟩
theorem G2(a b:Nat->Int)(n:Nat):gG a b n=[]<->∀j,j<n->a (j+1)=b (j+1):=by
 rw[B0,CI,xO];refine⟨fun h j hj=>CF fun z=>h j (ec.mpr hj) (by rw[db z];rfl),fun h j hj z=>?_⟩;rw[bo (h j (ec.mp hj))]at z;cases z
noncomputable abbrev cp(r:List Nat×Nat)(t:Nat):Int:=(pO r t:Nat)
noncomputable abbrev eE(r r':List Nat×Nat):Nat:=max (jN r) (jN r')+1
theorem v6{r:List Nat×Nat}(h:(r.1.foldl bump []).length<=1)(t:Nat):pO r t=r.2+t*r.1.length:=by
 rw[jh,gy,Nat.zero_max]at h;have:∀l:List Nat,Kt l<=1->(l.map (· /t)).sum=0:=fun l=>by
  induction l with
  |nil=>exact fun ø=>rfl
  |cons x l ih=>
   intro hl;rw[vY]at hl;have hx:x=0:=Nat.le_zero.mp (Nat.le_of_succ_le_succ (az (xY _ _) hl));rw[bB,kj,ih (az (rf _ _) hl),hx,Nat.zero_div]
 unfold pO;rw[this _ h,gg]
theorem Nl(r r':List Nat×Nat):v4 (cp r 1) (cp r' 1) (decide ((r.1.foldl bump []).length<=1)) (decide ((r'.1.foldl bump []).length<=1)) (r.1.length:Nat) (r'.1.length:Nat) (cp r) (cp r') (eE r r')=decide (em (cp r) (cp r') (eE r r')=[]):=by
 have Q4:=B1 (cp r) (cp r') (eE r r');rw[mY.mpr Q4];unfold v4;by_cases q:cp r' 1<=cp r 1
 ·rw[aw q]
  exact(db fun h=>mV.mpr (h 0 (g9 _)) q).symm
 rw[au q];have q1:=iN.mp (mV.mp q);by_cases q2:(decide ((r.1.foldl bump []).length<=1)&&decide ((r'.1.foldl bump []).length<=1))=true
 ·rw[aw q2]
  obtain⟨s1,s2⟩:=(bX _ _).mp q2;have s1:=v6 (cV s1);have s2:=v6 (cV s2);refine mY.mpr ⟨fun h j ø=>?_,fun h=>?_⟩
  ·refine iN.mpr ?_
   rw[s1,s2,tZ,tZ]at q1;rw[s1,s2,Nat.add_mul,Nat.add_mul,tZ,tZ];have:=jk j (jU.mp h);omega
  ·refine jU.mpr (tA fun z=>?_)
   have h1:=iN.mp (h (max (jN r) (jN r')) (mT _));rw[s1,s2]at h1;have h2:=jk (max (jN r) (jN r')+1) z;rw[Nat.mul_succ]at h2;have h3:=az (D4 r').2 (rf (jN r) (jN r'));omega
 ·rw[au q2,lH,cH,nz]
  refine⟨fun h j hj=>?_,fun h j hj=>bo (h (j+1) (Nat.succ_lt_of_lt_pred (ec.mp hj)))⟩
  match j,hj with
  |0,_=>exact iN.mpr q1
  |j+1,hj=>exact cV (h j (ec.mpr (Nat.lt_pred_of_succ_lt hj)))
noncomputable def wt(t r:Nat):Nat:=if t=0 then 1 else r/t
theorem D6(t:Nat):∀l:List Nat,(l.map (wt t)).sum=l.count t+((l.filter fun x=>decide (t+1<=x)).map (wt t)).sum
 |[]=>rfl
 |x::l=>by
  rw[bB,kj,D6 t l,x0,qV];by_cases q:t+1<=x
  ·rw[aw (bo q),au (by rw[jR];exact fun z=>gv _ (z▸q)),bB,kj]
   omega
  ·rw[au fun z=>q (cV z)]
   by_cases q2:x=t
   ·have:wt t x=1:=by
     unfold wt;by_cases q0:t=0
     ·rw[aw q0]
     ·rw[au q0,q2];exact Nat.div_self (Nat.pos_of_ne_zero q0)
    rw[aw (jR.mpr q2),this];omega
   ·have:wt t x=0:=by
     unfold wt;rw[au fun z=>q2 (by omega)];exact Nat.div_eq_of_lt (by omega)
    rw[au (by rw[jR];exact q2),this];omega
theorem qH(l:List Nat)(t j:Nat):(l.filter fun x=>decide (t<=x)).count j=if t<=j then l.count j else 0:=by
 by_cases h:t<=j
 ·rw[aw h];exact List.count_filter (bo h)
 ·rw[au h];exact List.count_eq_zero.mpr fun z=>h (cV (gw.mp z).2)
theorem Nm{l l':List Nat}{m:Nat}(h1:∀x∈l,x<=m)(h2:∀x∈l',x<=m)(h:∀t,t<=m->(l.map (wt t)).sum=(l'.map (wt t)).sum):l.Perm l':=by
 have key:∀k,k<=m+1->(l.filter fun x=>decide (m+1-k<=x)).Perm (l'.filter fun x=>decide (m+1-k<=x)):=fun k=>by
  induction k with
  |zero=>
   intro _;have e:∀{l:List Nat},(∀x∈l,x<=m)->(l.filter fun x=>decide (m+1-0<=x))=[]:=fun h=>xO.mpr fun x hx z=>Nat.not_succ_le_self m (az (cV z) (h x hx))
   rw[e h1,e h2]
  |succ k ih=>
   intro hk;have ih:=ih (kT hk);have et:m+1-k=m+1-(k+1)+1:=by omega
   have hm:m+1-(k+1)<=m:=by omega
   rw[et]at ih;generalize m+1-(k+1)=t at*;refine List.perm_iff_count.mpr fun j=>?_
   have hj:=ih.count_eq j;rw[qH,qH]at hj;rw[qH,qH];by_cases q:t<=j
   ·rw[aw q,aw q]
    by_cases q2:t+1<=j
    ·rw[aw q2,aw q2]at hj
     exact hj
    ·obtain rfl:j=t:=by omega
     have hs:=h j hm;rw[D6 j l,D6 j l',(ih.map (wt j)).sum_nat]at hs;exact Nat.add_right_cancel hs
   ·rw[au q,au q]
 have:=key (m+1) (bL _);rw[tK]at this;have e:∀l:List Nat,(l.filter fun x=>decide (0<=x))=l:=fun l=>List.filter_eq_self.mpr fun x ø=>bo (eK x)
 rwa[e,e]at this
theorem mL{t:Nat}:∀{l:List Nat},(∀x∈l,x<t)->(l.map (· /t)).sum=0
 |[],_=>rfl
 |x::l,h=>by rw[bB,kj,mL fun y hy=>h y (.tail _ hy),Nat.div_eq_of_lt (h x (.head _))]
theorem KD(r r':List Nat×Nat):(decide (r.1.foldl bump []=r'.1.foldl bump [])&&decide (r.2=r'.2))=decide (gG (cp r) (cp r') (eE r r')=[]):=by
 have Q4:=G2 (cp r) (cp r') (eE r r');rw[mY.mpr Q4,lH,bX,nz,nz,nz,D2];constructor
 ·rintro⟨h1,h2⟩ j _
  refine congrArg Int.ofNat ?_;unfold pO;rw[h2,h1.length_eq,(h1.map (· /(j+1))).sum_nat]
 ·intro h
  have hc:∀t,0<t->t<=eE r r'->pO r t=pO r' t:=fun t h0 ht=>by
   have:=Int.ofNat_inj.mp (h (t-1) (by omega));rwa[xG h0]at this
  obtain⟨w1,w2⟩:=D4 r;obtain⟨w3,w4⟩:=D4 r';have m1:=xY (jN r) (jN r');have m2:=rf (jN r) (jN r');have hK:=hc (eE r r') (g9 _) (bL _);unfold pO at hK;rw[mL fun x hx=>ri (az (w1 x hx) m1),mL fun x hx=>ri (az (w3 x hx) m2),gg,gg]at hK;have hb:r.2=r'.2:=by
   have:=congrArg (· % eE r r') hK;rwa[Nat.add_mul_mod_self_left,Nat.add_mul_mod_self_left,Nat.mod_eq_of_lt (ri (az w2 m1)),Nat.mod_eq_of_lt (ri (az w4 m2))]at this
  have hl:r.1.length=r'.1.length:=by
   rw[hb]at hK;exact Nat.eq_of_mul_eq_mul_left (g9 _) (t0 hK)
  refine⟨Nm (m:=max (jN r) (jN r')) (fun x hx=>az (w1 x hx) m1) (fun x hx=>az (w3 x hx) m2) fun t ht=>?_,hb⟩;by_cases q0:t=0
  ·subst q0
   have e:∀l:List Nat,(l.map (wt 0)).sum=l.length:=fun l=>by
    induction l with
    |nil=>rfl
    |cons x l ih=>rw[bB,kj,ih,cr,qZ];rfl
   rw[e,e,hl]
  ·have h0:=Nat.pos_of_ne_zero q0
   have:=hc t h0 (dZ ht);unfold pO at this;rw[hb,hl]at this;have e:wt t=(· /t):=funext fun x=>au q0
   rw[e];exact Nat.add_right_cancel (Nat.eq_of_mul_eq_mul_left h0 (t0 this))
section
section
theorem v7(a b c:Value):checkTypeCall "zip" ⟨[a,b,c],[]⟩=pure ():=by kernel_rfl
theorem wH(a b c:Value):checkBuiltinCall "zip.__new__" ⟨[.type "zip",a,b,c],[]⟩=pure ():=by kernel_rfl
theorem pQ(a b c d:Value):argsOk "object.__init__" ⟨[a,b,c,d],[]⟩:=by
 unfold argsOk;rw[signature?_of (id:="object.__init__") (n:=['_','_','t','i','n','i','_','_']) (o:=['t','c','e','j','b','o']) (by kernel_rfl) F.owner_object];kernel_rfl
theorem D7:typeLookup (.type "zip") "__len__"=pure none:=by rw[lU,lV];kernel_rfl
theorem B2:typeLookup (.type "zip") "__length_hint__"=pure none:=by rw[lU,lV];kernel_rfl
noncomputable abbrev UW(h:Heap)(a b c:Int):Heap:=h.push {cls:=.type "range_iterator",data:=.fields #[rawInt a,rawInt (Builtin.Range.rangeSize a b c),rawInt c]}
noncomputable abbrev UX(h:Heap)(a b c:Int)(l1:Addr):Heap:=(UW h a b c).push {cls:=.type "list_iterator",data:=.fields #[.ref l1,.int 0 0]}
noncomputable abbrev Wf(h:Heap)(a b c:Int)(l1 l2:Addr):Heap:=(UX h a b c l1).push {cls:=.type "list_iterator",data:=.fields #[.ref l2,.int 0 0]}
noncomputable abbrev Wg(h:Heap)(a b c:Int)(l1 l2:Addr):Heap:=(Wf h a b c l1 l2).push {cls:=.type "tuple",data:=.seq #[.ref h.objs.size,.ref (UW h a b c).objs.size,.ref (UX h a b c l1).objs.size]}
noncomputable abbrev Wh(h:Heap)(a b c:Int)(l1 l2:Addr):Heap:=(Wg h a b c l1 l2).push {cls:=.type "tuple",data:=.seq #[.none,.none,.none]}
noncomputable abbrev Lq(h:Heap)(a b c:Int)(l1 l2:Addr):Heap:=(Wh h a b c l1 l2).push {cls:=.type "zip",data:=.fields #[.none,.bool false,.bool false,.ref (Wf h a b c l1 l2).objs.size,.ref (Wg h a b c l1 l2).objs.size]}
set_option maxHeartbeats 4000000 in
theorem v8(r l1 l2:Addr)(a b c:Int)(t u v:Tok)(xs ys:Array Value):
  Meets (Builtin.«zip.__new__» ⟨[.type "zip",.ref r,.ref l1,.ref l2],[]⟩) (fun ø R s=>IsRange s.heap r a b c t u v/\Builtin.Range.small a b c=true/\s.heap.IsList l1 xs/\s.heap.IsList l2 ys/\
   R (.ok (.ret (.ref (Wh s.heap a b c l1 l2).objs.size))) {s with heap:=Lq s.heap a b c l1 l2}):=
 .of_wp fun prog w A R s h=>by
  obtain⟨hp,g,d,tk,os⟩:=s;obtain⟨hr,lE,CW,Gr,h⟩:=h;have JT:=sub_zip;have hR:IsRange (Shared.heap ⟨hp,g,d,tk,os⟩) r a b c t u v:=hr;have wg:Heap.IsList (Shared.heap ⟨UW hp a b c,g,d,tk,os⟩) l1 xs:=Heap.IsList.push CW _;have Mr:Heap.IsList (Shared.heap ⟨UX hp a b c l1,g,d,tk,os⟩) l2 ys:=Heap.IsList.push (Heap.IsList.push Gr _) _
  wp_walk using Cs hR lE,tB wg,tB Mr
  exact⟨_,rfl,h⟩
end
structure wI(h:Heap)(N l1 l2:Addr)(f0 f1:Value)(a c:Int)(k i:Nat)(xs ys:Array Value):Prop where
 z:h.get? (N+5)=some {cls:=.type "zip",dict:=none,data:=.fields #[f0,f1,.bool false,.ref (N+3),.ref (N+4)],slots:= #[]}
 TI:h.get? (N+3)=some {cls:=.type "tuple",data:=.seq #[.ref N,.ref (N+1),.ref (N+2)]}
 TO:∃x y v,h.get? (N+4)=some {cls:=.type "tuple",data:=.seq #[x,y,v]}
 r:IsRangeIter h N (a+(i:Nat)*c) ((k:Int)-(i:Nat)) c
 i1:h.IsListIter (N+1) l1 i
 i2:h.IsListIter (N+2) l2 i
 L1:h.IsList l1 xs
 L2:h.IsList l2 ys
section
variable{prog:Program}{w:World}{A:Around}{E:Value->Shared->Prop}{s:Shared}
theorem D8{r l1 l2:Addr}{a b c:Int}{t u v:Tok}{k:Nat}{xs ys:Array Value}{Q:Value->Shared->Prop}(hr:IsRange s.heap r a b c t u v)(lE:Builtin.Range.small a b c=true)(hk:(k:Int)=Builtin.Range.rangeSize a b c)(CW:s.heap.IsList l1 xs)(Gr:s.heap.IsList l2 ys)
  (h:∀h',wI h' s.heap.objs.size l1 l2 .none (.bool false) a c k 0 xs ys->h'.objs.size=s.heap.objs.size+6->(∀c o,s.heap.get? c=some o->h'.get? c=some o)->Q (.ref (s.heap.objs.size+5)) {s with heap:=h'}):
  wpAny (model prog w) A (call (.type "zip") [.ref r,.ref l1,.ref l2]) Q E s:=by
 refine callType_new F.called_zip (by decide) (v7 _ _ _) (wH _ _ _) (fun obj=>pQ obj _ _ _) F.entry_zip_new
  (v8 r l1 l2 a b c t u v xs ys) ⟨hr,lE,CW,Gr,?_⟩
 have z1:(UW s.heap a b c).objs.size=s.heap.objs.size+1:=ji ..;have z2:(UX s.heap a b c l1).objs.size=s.heap.objs.size+2:=by rw[ji,z1]
 have z3:(Wf s.heap a b c l1 l2).objs.size=s.heap.objs.size+3:=by rw[ji,z2]
 have z4:(Wg s.heap a b c l1 l2).objs.size=s.heap.objs.size+4:=by rw[ji,z3]
 have z5:(Wh s.heap a b c l1 l2).objs.size=s.heap.objs.size+5:=by rw[ji,z4]
 have z6:(Lq s.heap a b c l1 l2).objs.size=s.heap.objs.size+6:=by rw[ji,z5]
 have g6:(Lq s.heap a b c l1 l2).get? (Wh s.heap a b c l1 l2).objs.size=some _:=bJ _ rfl;have g5:(Lq s.heap a b c l1 l2).get? (Wg s.heap a b c l1 l2).objs.size=some _:=bz _ (bJ _ rfl);have g4:(Lq s.heap a b c l1 l2).get? (Wf s.heap a b c l1 l2).objs.size=some _:=bz _ (bz _ (bJ _ rfl));have g3:(Lq s.heap a b c l1 l2).get? (UX s.heap a b c l1).objs.size=some _:=bz _ (bz _ (bz _ (bJ _ rfl)));have g2:(Lq s.heap a b c l1 l2).get? (UW s.heap a b c).objs.size=some _:=bz _ (bz _ (bz _ (bz _ (bJ _ rfl))));have g1:(Lq s.heap a b c l1 l2).get? s.heap.objs.size=some _:=bz _ (bz _ (bz _ (bz _ (bz _ (bJ _ rfl)))));have up:∀d o,s.heap.get? d=some o->(Lq s.heap a b c l1 l2).get? d=some o:=fun d o x=>
  bz _ (bz _ (bz _ (bz _ (bz _ (bz _ x)))))
 show _/\_;rw[z3,z4,z5]at g6;rw[z4]at g5;rw[z1,z2,z3]at g4;rw[z2]at g3;rw[z1]at g2;rw[z5];clear z1 z2 z3 z4 z5;generalize Lq s.heap a b c l1 l2=H at*;refine⟨⟨_,g6,rfl⟩,h _ ⟨g6,g4,⟨_,_,_,g5⟩,?_,⟨_,g2,rfl,rfl⟩,⟨_,g3,rfl,rfl⟩,CW.at fun o e=>up _ o e,Gr.at fun o e=>up _ o e⟩ z6 up⟩;show IsRangeIter _ _ _ _ _;have e1:a+((0:Nat):Int)*c=a:=by simp
 have e2:(k:Int)-((0:Nat):Int)=k:=by simp
 rw[e1,e2,hk];exact g1
theorem gt{it:Addr}{x left step:Int}{Q:Value->Shared->Prop}(hit:IsRangeIter s.heap it x left step)(Oo:0<left)
  (hQ:∀h',IsRangeIter h' it (x+step) (left-1) step->Heap.SameBut it s.heap h'->Q (.int x s.toks) {s with heap:=h',toks:=s.toks+1}):
  wpAny (model prog w) A (Builtin.SmallTypes.nextOf (.ref it)) Q E s:=by
 have hT:s.TypeIs (.ref it) "range_iterator":=⟨_,hit,rfl⟩;unfold Builtin.SmallTypes.nextOf;refine aA (kg (name:=Str.ofString "__next__") hT x3
  (qP x3 hT F.entry_range_iterator_next (F.args_range_iterator_next_1 _) (AutoRange.range_iterator___next___range_iterator_1 it x left step (by omega)) ⟨hit,?_⟩))
 exact bK (hQ _ (kR _ (kR _ hit rfl) rfl) ((oQ ..).trans (oQ ..)))
theorem mM{it:Addr}{x left step:Int}{Q:Value->Shared->Prop}(hh:A.handled=none)(hit:IsRangeIter s.heap it x left step)(Oo:left<=0)
  (hE:∀h' e,Heap.ExtBut it s.heap h'->(∃o,h'.get? e=some o/\o.cls= .type "StopIteration")->E (.ref e) {s with heap:=h'}):wpAny (model prog w) A (Builtin.SmallTypes.nextOf (.ref it)) Q E s:=by
 have hT:s.TypeIs (.ref it) "range_iterator":=⟨_,hit,rfl⟩;unfold Builtin.SmallTypes.nextOf;refine aA (kg (name:=Str.ofString "__next__") hT x3
  (lM x3 hT F.entry_range_iterator_next ?_ (F.args_range_iterator_next_1 _)))
 show wpAny _ _ (field (.ref it) 0>>= _) _ _ s;refine aA (gj hit rfl (x:=rawInt x) rfl ?_);show wpAny _ _ (field (.ref it) 1>>= _) _ _ s;refine aA (gj hit rfl (x:=rawInt left) rfl ?_);show wpAny _ _ (field (.ref it) 2>>= _) _ _ s;refine aA (gj hit rfl (x:=rawInt step) rfl ?_);show wpAny _ _ (if left<=0 then _ else _) _ _ s;rw[aw Oo];refine aA (q9 ?_);refine aA ?_;show wpAny _ _ (newExc (.type "StopIteration") []>>= _) _ _ _;refine aA ?_;simp only[newExc,newTuple];refine aA (tE ?_ (by size_fits));refine aA (m:=firstArgMember _ _) (wpAny_of_eq (a:=Value.none) (by first|rfl|(simp only[firstArgMember];rfl)) ?_);refine tE ?_ (by size_fits);simp only[raiseNew];refine aA (wpAny_handled ?_)
 first|rw[show A.in1.handled=none from hh]|rw[hh]
 refine aA (bK (wpAny_throw ?_));exact hE _ _ (((Heap.ExtBut.refl it s.heap).push _).push _) ⟨_,bJ _ rfl,rfl⟩
theorem wI.lt{h:Heap}{N l1 l2:Addr}{f0 f1:Value}{a c:Int}{k i:Nat}{xs ys:Array Value}(Z:wI h N l1 l2 f0 f1 a c k i xs ys):N+5<h.objs.size:=ez Z.z
theorem jK{T:Addr}{a b c x:Value}{k:Nat}{Q:Unit->Shared->Prop}(hT:s.heap.get? T=some {cls:=.type "tuple",data:=.seq #[a,b,c]})
  (h:∀h',h'.get? T=some {cls:=.type "tuple",data:=.seq ((#[a,b,c]:Array Value).setIfInBounds k x)}->Heap.SameBut T s.heap h'->Q () {s with heap:=h'}):
  wpAny (model prog w) A (updateSeq T (·.setIfInBounds k x)) Q E s:=by
 refine nH hT rfl (h _ ?_ (oQ ..));rw[kR _ hT rfl];simp[Obj.mapSeq]
theorem D9{N l1 l2:Addr}{a c:Int}{k i:Nat}{xs ys:Array Value}{x y:Value}{Q:Value->Shared->Prop}(h1:l1<N)(h2:l2<N)(Z:wI s.heap N l1 l2 .none (.bool false) a c k i xs ys)(hi:i<k)(hx:xs[i]?=some x)(hy:ys[i]?=some y)
  (hQ:∀h',wI h' N l1 l2 (rawInt s.heap.objs.size) (.bool false) a c k (i+1) xs ys->h'.get? s.heap.objs.size=some {cls:=.type "tuple",data:=.seq #[.int (a+(i:Nat)*c) s.toks,x,y]}->(∀b o,b<N\/N+5<b->s.heap.get? b=some o->h'.get? b=some o)->Q (.ref s.heap.objs.size) {s with heap:=h',toks:=s.toks+1}):
  wpAny (model prog w) A (Builtin.«zip.__next__» ⟨[.ref (N+5)],[]⟩) (fun fin s'=>∃v,fin= .done (.ret v)/\Q v s') E s:=by
 obtain⟨hz,hTI,⟨p,q,r,Wi⟩,hr,Wj,Wk,CW,Gr⟩:=Z;show wpAny _ _ (field (.ref (N+5)) 2>>= _) _ _ _;refine aA (gj hz rfl (x:=.bool false) rfl ?_);show wpAny _ _ (field (.ref (N+5)) 3>>= _) _ _ _;refine aA (gj hz rfl (x:=.ref (N+3)) rfl ?_);refine aA (nI hTI rfl ?_);show wpAny _ _ (Builtin.SmallTypes.ownedTupleIsFree (.ref (N+5))>>= _) _ _ _;refine aA ?_;unfold Builtin.SmallTypes.ownedTupleIsFree;refine aA (gj hz rfl (x:=.none) rfl (bK ?_));simp only[jP];refine aA (q9 ?_);refine aA (gj hz rfl (x:=.ref (N+4)) rfl ?_);refine aA (t6 hz (by simp) fun aj xB eS=>?_);refine aA ?_;simp only[List.zipIdx_cons,List.zipIdx_nil,oR,nC];have ne:∀{p q:Nat},p≠q->(N+p:Nat)≠N+q:=fun h e=>h (t0 e)
 have low:∀{l:Nat},l<N->∀p:Nat,l≠N+p:=fun h p=>ny (fw h (fB ..))
 refine aA (aA (xQ ?_));show wpAny _ _ (Builtin.SmallTypes.nextOf (.ref N)>>= _) _ _ _;refine aA (gt (eS.extBut _ _ (ne (p:=0) (by decide)) hr) (Int.sub_pos_of_lt (iN.mpr hi)) fun aM KE lh=>bK ?_);have KF:=lh.extBut _ _ (ne (q:=0) (p:=4) (by decide)) (eS.extBut _ _ (ne (by decide)) Wi);refine aA (nI KF rfl ?_);refine aA (jK KF fun eu Q5 Ft=>?_);refine aA (rc (bK ?_));have G3:∀b o,b≠N+5->b≠N->b≠N+4->s.heap.get? b=some o->eu.get? b=some o:=fun b o z1 z2 z3 e=>Ft.extBut _ _ z3 (lh.extBut _ _ z2 (eS.extBut _ _ z1 e))
 refine aA (aA (xQ ?_));show wpAny _ _ (Builtin.SmallTypes.nextOf (.ref (N+1))>>= _) _ _ _;refine aA (x4 (Wj.at fun o e=>G3 _ o (ne (by decide)) (ne (q:=0) (by decide)) (ne (by decide)) e) (CW.at fun o e=>G3 _ o (low h1 5) (low h1 0) (low h1 4) e) hx fun yd Ea pd=>bK ?_);have KG:=pd.extBut _ _ (ne (by decide)) Q5;refine aA (nI KG rfl ?_);refine aA (jK KG fun sM Q6 u8=>?_);refine aA (rc (bK ?_));have G4:∀b o,b≠N+1->b≠N+4->eu.get? b=some o->sM.get? b=some o:=fun b o z1 z2 e=>u8.extBut _ _ z2 (pd.extBut _ _ z1 e)
 refine aA (aA (xQ ?_));show wpAny _ _ (Builtin.SmallTypes.nextOf (.ref (N+2))>>= _) _ _ _;refine aA (x4 (Wk.at fun o e=>G4 _ o (ne (by decide)) (ne (by decide)) (G3 _ o (ne (by decide)) (ne (q:=0) (by decide)) (ne (by decide)) e)) (Gr.at fun o e=>G4 _ o (low h2 1) (low h2 4) (G3 _ o (low h2 5) (low h2 0) (low h2 4) e)) hy fun B3 Eb qI=>bK ?_);have KH:=qI.extBut _ _ (ne (by decide)) Q6;refine aA (nI KH rfl ?_);refine aA (jK KH fun zL zM KI=>?_);refine aA (rc (bK (bK ?_)));have KJ:∀b o,b≠N+2->b≠N+4->sM.get? b=some o->zL.get? b=some o:=fun b o z1 z2 e=>KI.extBut _ _ z2 (qI.extBut _ _ z1 e)
 replace zM:zL.get? (N+4)=some {cls:=.type "tuple",data:=.seq #[.int (a+(i:Nat)*c) s.toks,x,y]}:=zM;refine aA (nI zM rfl ?_);refine aA (wpAny_newTuple ?_);have sj:zL.objs.size=s.heap.objs.size:=by rw[KI.1,qI.1,u8.1,pd.1,Ft.1,lh.1,eS.1]
 have Op:=KJ _ _ (ne (by decide)) (ne (by decide)) (G4 _ _ (ne (by decide)) (ne (by decide)) (Ft.extBut _ _ (ne (by decide)) (lh.extBut _ _ (ne (q:=0) (by decide)) xB)));have KL:∀b o,b<N\/N+5<b->s.heap.get? b=some o->zL.get? b=some o:=fun b o hb e=>by
  have nb:∀p:Nat,p<=5->b≠N+p:=fun p hp e=>by
   rcases hb with q|q
   ·exact low q p e
   ·exact gv _ (fw (e▸q) (jX hp N))
  exact KJ _ _ (nb 2 (by decide)) (nb 4 (by decide)) (G4 _ _ (nb 1 (by decide)) (nb 4 (by decide)) (G3 _ _ (nb 5 (by decide)) (nb 0 (by decide)) (nb 4 (by decide)) e))
 have Q7:=KJ _ _ (ne (by decide)) (ne (by decide)) (G4 _ _ (ne (by decide)) (ne (by decide)) (G3 _ _ (ne (by decide)) (ne (q:=0) (by decide)) (ne (by decide)) hTI));have UY:=KJ _ _ (ne (p:=0) (by decide)) (ne (p:=0) (by decide)) (G4 _ _ (ne (p:=0) (by decide)) (ne (p:=0) (by decide)) (Ft.extBut _ _ (ne (p:=0) (by decide)) KE));have Q8:=(Ea.extBut u8.extBut (ne (by decide))).at fun o e=>KJ _ o (ne (by decide)) (ne (by decide)) e
 have Q9:=Eb.extBut KI.extBut (ne (by decide));show wpAny _ _ (Builtin.SmallTypes.ownedTupleHandOut (.ref (N+5)) (.ref zL.objs.size)>>= _) _ _ _;refine aA ?_;unfold Builtin.SmallTypes.ownedTupleHandOut;refine aA (t6 (bz _ Op) (by simp) fun ab4 UZ Oq=>?_);refine t6 UZ (by simp) fun U0 U1 Os=>?_
 have B4:∀b o,b≠N+5->zL.get? b=some o->U0.get? b=some o:=fun b o z e=>Os.extBut _ _ z (Oq.extBut _ _ z (bz _ e))
 have hzl:N+5<zL.objs.size:=ez Op;have B5:=Os.extBut _ _ (lQ hzl) (Oq.extBut _ _ (lQ hzl) (bJ zL (o:={cls:=.type "tuple",data:=.seq #[.int (a+(i:Nat)*c) s.toks,x,y]}) rfl));refine bK ⟨_,rfl,?_⟩;show Q (.ref zL.objs.size) _;rw[sj]at B5 ⊢;refine hQ U0 ⟨?_,B4 _ _ (ne (by decide)) Q7,⟨_,_,_,B4 _ _ (ne (by decide)) zM⟩,?_,Q8.at fun o e=>B4 _ o (ne (by decide)) e,Q9.at fun o e=>B4 _ o (ne (by decide)) e,CW.at fun o e=>B4 _ o (low h1 5) (KL _ o (.inl h1) e),Gr.at fun o e=>B4 _ o (low h2 5) (KL _ o (.inl h2) e)⟩ B5 fun b o hb e=>B4 _ o (fun z=>?_) (KL b o hb e)
 ·rw[<-sj];exact U1
 ·have e1:a+((i+1:Nat):Int)*c=a+(i:Int)*c+c:=by rw[show((i+1:Nat):Int)=(i:Int)+1 from rfl,Int.add_mul,Int.one_mul,Int.add_assoc]
  have e2:(k:Int)-((i+1:Nat):Int)=(k:Int)-(i:Int)-1:=(Int.sub_sub (k:Int) i 1).symm;rw[e1,e2];exact B4 _ _ (ne (p:=0) (by decide)) UY
 ·rcases hb with q|q
  ·exact low q 5 z
  ·exact gv _ (z▸q)
theorem j7{M:Model}{a:Addr}{Q:Option Obj->Shared->Prop}(h:Q (s.heap.get? a) s):wpAny M A (loadIfAlive a) Q E s:=fun Γ p ø=>by
 unfold loadIfAlive
 first
 |exact(Sem.wp_loadIfAlive a _).mpr ((Sem.wp_pure ..).mpr h)
 |(rw[Sem.wp_loadIfAlive];exact h)
theorem G5{N l1 l2 T:Addr}{f1:Value}{a c:Int}{k i:Nat}{xs ys:Array Value}{x y:Value}{o:Obj}{Q:Value->Shared->Prop}(h1:l1<N)(h2:l2<N)(hT:s.heap.get? T=some o)(RY:N+5<T)(Z:wI s.heap N l1 l2 (rawInt T) f1 a c k i xs ys)(hi:i<k)(hx:xs[i]?=some x)(hy:ys[i]?=some y)
  (hQ:∀h',wI h' N l1 l2 (rawInt T) (.bool true) a c k (i+1) xs ys->h'.get? s.heap.objs.size=some {cls:=.type "tuple",data:=.seq #[.int (a+(i:Nat)*c) s.toks,x,y]}->(∀b o,b<N\/N+5<b->s.heap.get? b=some o->h'.get? b=some o)->Q (.ref s.heap.objs.size) {s with heap:=h',toks:=s.toks+1}):
  wpAny (model prog w) A (Builtin.«zip.__next__» ⟨[.ref (N+5)],[]⟩) (fun fin s'=>∃v,fin= .done (.ret v)/\Q v s') E s:=by
 obtain⟨hz,hTI,Wi,hr,Wj,Wk,CW,Gr⟩:=Z;show wpAny _ _ (field (.ref (N+5)) 2>>= _) _ _ _;refine aA (gj hz rfl (x:=.bool false) rfl ?_);show wpAny _ _ (field (.ref (N+5)) 3>>= _) _ _ _;refine aA (gj hz rfl (x:=.ref (N+3)) rfl ?_);refine aA (nI hTI rfl ?_);show wpAny _ _ (Builtin.SmallTypes.ownedTupleIsFree (.ref (N+5))>>= _) _ _ _;refine aA ?_;unfold Builtin.SmallTypes.ownedTupleIsFree;refine aA (gj hz rfl (x:=rawInt T) rfl ?_);show wpAny _ _ (loadIfAlive T>>= _) _ _ _;refine aA (j7 ?_);rw[hT];show wpAny _ _ (field (.ref (N+5)) 1>>= _) _ _ _;refine aA (gj hz rfl (x:=f1) rfl ?_);refine aD (Q:=fun b s'=>b=false/\∃aj,s'={s with heap:=aj}/\aj.objs.size=s.heap.objs.size/\aj.get? (N+5)=some {cls:=.type "zip",dict:=none,data:=.fields #[rawInt T,.bool true,.bool false,.ref (N+3),.ref (N+4)],slots:= #[]}/\∀b o,b≠N+5->s.heap.get? b=some o->aj.get? b=some o) ?_ (fun b s' h'=>?_) fun ø ø q=>q
 ·refine wpAny_ite_split (fun ø=>?_) (fun hc=>?_)
  ·refine aA (t6 hz (by simp) fun aj xB eS=>bK ⟨rfl,aj,rfl,eS.1,xB,fun b o hb e=>eS.extBut _ _ hb e⟩)
  ·have:f1= .bool true:=by simpa using hc
   subst this;exact bK ⟨rfl,s.heap,rfl,rfl,hz,fun ø ø ø e=>e⟩
 obtain⟨rfl,aj,rfl,hsz₁,xB,KM⟩:=h';simp only[kN,gZ];have ne:∀{p q:Nat},p≠q->(N+p:Nat)≠N+q:=fun h e=>h (t0 e)
 have low:∀{l:Nat},l<N->∀p:Nat,l≠N+p:=fun h p=>ny (fw h (fB ..))
 refine aA ?_;rw[<-Array.forIn_toList];simp only[oR,nC];refine aA (aA (gI ?_));show wpAny _ _ (Builtin.SmallTypes.nextOf (.ref N)>>= _) _ _ _;refine aA (gt (KM _ _ (ne (p:=0) (by decide)) hr) (Int.sub_pos_of_lt (iN.mpr hi)) fun aM KE lh=>bK (bK ?_));have Ra:∀b o,b≠N+5->b≠N->s.heap.get? b=some o->aM.get? b=some o:=fun b o z1 z2 e=>lh.extBut _ _ z2 (KM _ _ z1 e)
 refine aA (aA (gI ?_));show wpAny _ _ (Builtin.SmallTypes.nextOf (.ref (N+1))>>= _) _ _ _;refine aA (x4 (Wj.at fun o e=>Ra _ o (ne (by decide)) (ne (q:=0) (by decide)) e) (CW.at fun o e=>Ra _ o (low h1 5) (low h1 0) e) hx fun yd Ea pd=>bK (bK ?_));have Rb:∀b o,b≠N+5->b≠N->b≠N+1->s.heap.get? b=some o->yd.get? b=some o:=fun b o z1 z2 z3 e=>pd.extBut _ _ z3 (Ra _ _ z1 z2 e)
 refine aA (aA (gI ?_));show wpAny _ _ (Builtin.SmallTypes.nextOf (.ref (N+2))>>= _) _ _ _;refine aA (x4 (Wk.at fun o e=>Rb _ o (ne (by decide)) (ne (q:=0) (by decide)) (ne (by decide)) e) (Gr.at fun o e=>Rb _ o (low h2 5) (low h2 0) (low h2 1) e) hy fun B3 Eb qI=>bK (bK (bK ?_)));have KN:∀b o,b≠N+5->b≠N->b≠N+1->b≠N+2->s.heap.get? b=some o->B3.get? b=some o:=fun b o z1 z2 z3 z4 e=>qI.extBut _ _ z4 (Rb _ _ z1 z2 z3 e)
 have sj:B3.objs.size=s.heap.objs.size:=by rw[qI.1,pd.1,lh.1,hsz₁]
 show wpAny _ _ (newTuple [.int (a+(i:Nat)*c) s.toks,x,y]>>= _) _ _ _;refine aA (wpAny_newTuple ?_);refine bK ⟨_,rfl,?_⟩;show Q (.ref B3.objs.size) _;have U2:=qI.extBut _ _ (ne (by decide)) (pd.extBut _ _ (ne (by decide)) (lh.extBut _ _ (ne (q:=0) (by decide)) xB));have U3:=qI.extBut _ _ (ne (p:=0) (by decide)) (pd.extBut _ _ (ne (p:=0) (by decide)) KE);have B5:(B3.push {cls:=.type "tuple",data:=.seq #[.int (a+(i:Nat)*c) s.toks,x,y]}).get? B3.objs.size=_:=bJ _ rfl;rw[sj]at B5 ⊢;have pu:∀{b o},B3.get? b=some o->(B3.push {cls:=.type "tuple",data:=.seq #[.int (a+(i:Nat)*c) s.toks,x,y]}).get? b=some o:=fun e=>bz _ e
 refine hQ _ ⟨pu U2,pu (KN _ _ (ne (by decide)) (ne (q:=0) (by decide)) (ne (by decide)) (ne (by decide)) hTI),Wi.elim fun p r=>r.elim fun q r=>r.elim fun r e=>⟨p,q,r,pu (KN _ _ (ne (by decide)) (ne (q:=0) (by decide)) (ne (by decide)) (ne (by decide)) e)⟩,?_,
  (Ea.extBut qI.extBut (ne (by decide))).at fun o e=>pu e,Eb.at fun o e=>pu e,CW.at fun o e=>pu (KN _ o (low h1 5) (low h1 0) (low h1 1) (low h1 2) e),Gr.at fun o e=>pu (KN _ o (low h2 5) (low h2 0) (low h2 1) (low h2 2) e)⟩ B5 fun b o hb e=>pu ?_
 ·have e1:a+((i+1:Nat):Int)*c=a+(i:Int)*c+c:=by rw[show((i+1:Nat):Int)=(i:Int)+1 from rfl,Int.add_mul,Int.one_mul,Int.add_assoc]
  have e2:(k:Int)-((i+1:Nat):Int)=(k:Int)-(i:Int)-1:=(Int.sub_sub (k:Int) i 1).symm;rw[e1,e2];exact pu U3
 ·have nb:∀p:Nat,p<=5->b≠N+p:=fun p hp e=>by
   rcases hb with q|q
   ·exact low q p e
   ·exact gv _ (fw (e▸q) (jX hp N))
  exact KN _ _ (nb 5 (by decide)) (nb 0 (by decide)) (nb 1 (by decide)) (nb 2 (by decide)) e
theorem KO{N l1 l2 T:Addr}{f1:Value}{a c:Int}{k:Nat}{xs ys:Array Value}{o:Obj}{Q:Fin->Shared->Prop}(hh:A.handled=none)(hT:s.heap.get? T=some o)(Z:wI s.heap N l1 l2 (rawInt T) f1 a c k k xs ys)
  (hE:∀h' e,(∀b o,b<N\/N+5<b->s.heap.get? b=some o->h'.get? b=some o)->(∃o,h'.get? e=some o/\o.cls= .type "StopIteration")->E (.ref e) {s with heap:=h'}):
  wpAny (model prog w) A (Builtin.«zip.__next__» ⟨[.ref (N+5)],[]⟩) Q E s:=by
 obtain⟨hz,hTI,Wi,hr,Wj,Wk,CW,Gr⟩:=Z;show wpAny _ _ (field (.ref (N+5)) 2>>= _) _ _ _;refine aA (gj hz rfl (x:=.bool false) rfl ?_);show wpAny _ _ (field (.ref (N+5)) 3>>= _) _ _ _;refine aA (gj hz rfl (x:=.ref (N+3)) rfl ?_);refine aA (nI hTI rfl ?_);show wpAny _ _ (Builtin.SmallTypes.ownedTupleIsFree (.ref (N+5))>>= _) _ _ _;refine aA ?_;unfold Builtin.SmallTypes.ownedTupleIsFree;refine aA (gj hz rfl (x:=rawInt T) rfl ?_);show wpAny _ _ (loadIfAlive T>>= _) _ _ _;refine aA (j7 ?_);rw[hT];show wpAny _ _ (field (.ref (N+5)) 1>>= _) _ _ _;refine aA (gj hz rfl (x:=f1) rfl ?_);refine aD (Q:=fun b s'=>b=false/\∃aj,s'={s with heap:=aj}/\∀b o,b≠N+5->s.heap.get? b=some o->aj.get? b=some o) ?_ (fun b s' h'=>?_) fun ø ø q=>q
 ·refine wpAny_ite_split (fun ø=>?_) (fun hc=>?_)
  ·refine aA (t6 hz (by simp) fun aj xB eS=>bK ⟨rfl,aj,rfl,fun b o hb e=>eS.extBut _ _ hb e⟩)
  ·exact bK ⟨rfl,s.heap,rfl,fun ø ø ø e=>e⟩
 obtain⟨rfl,aj,rfl,KM⟩:=h';simp only[kN,gZ];have ne:∀{p q:Nat},p≠q->(N+p:Nat)≠N+q:=fun h e=>h (t0 e)
 refine aA ?_;rw[<-Array.forIn_toList];simp only[oR,nC];refine aA (aA (gI ?_));show wpAny _ _ (Builtin.SmallTypes.nextOf (.ref N)>>= _) _ _ _;refine aA (mM hh (KM _ _ (ne (p:=0) (by decide)) hr) (Int.le_of_eq (Int.sub_self _)) fun aM e he iX=>hE aM e (fun b o hb e=>?_) iX);have nb:∀p:Nat,p<=5->b≠N+p:=fun p hp e=>by
  rcases hb with q|q
  ·exact ny (fw q (fB ..)) e
  ·exact gv _ (fw (e▸q) (jX hp N))
 exact he _ _ (nb 0 (by decide)) (KM _ _ (nb 5 (by decide)) e)
theorem Ec{N l1 l2:Addr}{a c:Int}{k i:Nat}{xs ys:Array Value}{x y:Value}{Q:Option Value->Shared->Prop}(h1:l1<N)(h2:l2<N)(Z:wI s.heap N l1 l2 .none (.bool false) a c k i xs ys)(hi:i<k)(hx:xs[i]?=some x)(hy:ys[i]?=some y)
  (hQ:∀h',wI h' N l1 l2 (rawInt s.heap.objs.size) (.bool false) a c k (i+1) xs ys->h'.get? s.heap.objs.size=some {cls:=.type "tuple",data:=.seq #[.int (a+(i:Nat)*c) s.toks,x,y]}->(∀b o,b<N\/N+5<b->s.heap.get? b=some o->h'.get? b=some o)->Q (some (.ref s.heap.objs.size)) {s with heap:=h',toks:=s.toks+1}):
  wpAny (model prog w) A (pyNext (.ref (N+5))) Q E s:=by
 have hT:s.TypeIs (.ref (N+5)) "zip":=⟨_,Z.z,rfl⟩;unfold pyNext;exact aA (tI (kg (name:=Str.ofString "__next__") hT rj (lM rj hT F.entry_zip_next (D9 h1 h2 Z hi hx hy fun h' z1 z2 z3=>bK (hQ h' z1 z2 z3)) (F.args_zip_next_1 _))))
theorem G6{N l1 l2 T:Addr}{f1:Value}{a c:Int}{k i:Nat}{xs ys:Array Value}{x y:Value}{o:Obj}{Q:Option Value->Shared->Prop}(h1:l1<N)(h2:l2<N)(hT:s.heap.get? T=some o)(RY:N+5<T)(Z:wI s.heap N l1 l2 (rawInt T) f1 a c k i xs ys)(hi:i<k)(hx:xs[i]?=some x)(hy:ys[i]?=some y)
  (hQ:∀h',wI h' N l1 l2 (rawInt T) (.bool true) a c k (i+1) xs ys->h'.get? s.heap.objs.size=some {cls:=.type "tuple",data:=.seq #[.int (a+(i:Nat)*c) s.toks,x,y]}->(∀b o,b<N\/N+5<b->s.heap.get? b=some o->h'.get? b=some o)->Q (some (.ref s.heap.objs.size)) {s with heap:=h',toks:=s.toks+1}):
  wpAny (model prog w) A (pyNext (.ref (N+5))) Q E s:=by
 have Rc:s.TypeIs (.ref (N+5)) "zip":=⟨_,Z.z,rfl⟩;unfold pyNext;exact aA (tI (kg (name:=Str.ofString "__next__") Rc rj (lM rj Rc F.entry_zip_next (G5 h1 h2 hT RY Z hi hx hy fun h' z1 z2 z3=>bK (hQ h' z1 z2 z3)) (F.args_zip_next_1 _))))
theorem next_end{N l1 l2 T:Addr}{f1:Value}{a c:Int}{k:Nat}{xs ys:Array Value}{o:Obj}{Q:Option Value->Shared->Prop}(hh:A.handled=none)(hT:s.heap.get? T=some o)(Z:wI s.heap N l1 l2 (rawInt T) f1 a c k k xs ys)
  (hQ:∀h',(∀b o,b<N\/N+5<b->s.heap.get? b=some o->h'.get? b=some o)->Q none {s with heap:=h'}):
  wpAny (model prog w) A (pyNext (.ref (N+5))) Q E s:=by
 have Rc:s.TypeIs (.ref (N+5)) "zip":=⟨_,Z.z,rfl⟩;unfold pyNext;refine aA (tI (kg (name:=Str.ofString "__next__") Rc rj (lM rj Rc F.entry_zip_next (KO hh hT Z fun h' e hk he=>?_) (F.args_zip_next_1 _))));obtain⟨o,ho,hc⟩:=he;refine aA (wpAny_isInstance (T:="StopIteration") (b:=true) ⟨o,ho,hc⟩ isSubtype_stop ?_);exact bK (hQ _ hk)
noncomputable def Nn(a c:Int)(N S:Addr)(xs ys:Array Value)(h:Heap)(i:Nat)(v:Value):Prop:=∃T t x y,v= .ref T/\N+5<T/\T≠S/\xs[i]?=some x/\ys[i]?=some y/\h.get? T=some {cls:=.type "tuple",data:=.seq #[.int (a+(i:Nat)*c) t,x,y]}
theorem Nn.keep{a c:Int}{N S:Addr}{xs ys:Array Value}{h h':Heap}{i:Nat}{v:Value}(e:Nn a c N S xs ys h i v)(k:∀b o,N+5<b->b≠S->h.get? b=some o->h'.get? b=some o):Nn a c N S xs ys h' i v:=by
 obtain⟨T,t,x,y,q1,q2,q3,q4,q5,q6⟩:=e;exact⟨T,t,x,y,q1,q2,q3,q4,q5,k T _ q2 q3 q6⟩
theorem wI.keep{h h':Heap}{N l1 l2:Addr}{f0 f1:Value}{a c:Int}{k i:Nat}{xs ys:Array Value}(Z:wI h N l1 l2 f0 f1 a c k i xs ys)(h1:l1<N)(h2:l2<N)(up:∀b o,b<=N+5->h.get? b=some o->h'.get? b=some o):wI h' N l1 l2 f0 f1 a c k i xs ys:=by
 have le:∀p:Nat,p<=5->N+p<=N+5:=fun p h=>jX h N
 have lo:∀{l:Nat},l<N->l<=N+5:=fun h=>az (dU h) (fB ..)
 exact⟨up _ _ (le 5 (by decide)) Z.z,up _ _ (le 3 (by decide)) Z.TI,Z.TO.elim fun p r=>r.elim fun q r=>r.elim fun r e=>⟨p,q,r,up _ _ (le 4 (by decide)) e⟩,up _ _ (le 0 (by decide)) Z.r,Z.i1.at fun o e=>up _ o (le 1 (by decide)) e,Z.i2.at fun o e=>up _ o (le 2 (by decide)) e,Z.L1.at fun o e=>up _ o (lo h1) e,Z.L2.at fun o e=>up _ o (lo h2) e⟩
theorem G7{R:Result->Shared->Prop}{N l1 l2 S:Addr}{a c:Int}{k:Nat}{xs ys:Array Value}(hh:A.handled=none)(h1:l1<N)(h2:l2<N)(hS:N+5<S)(res:Value)(Ot:k<=xs.size)(Ou:k<=ys.size)(Lp:k<=sizeLine):
  ∀(j i:Nat) (s:Shared) (acc:Array Value) (cn:Nat) (f0 f1:Value),k-i=j->i<=k->((0<k/\i=0/\f0= .none/\f1= .bool false)\/∃(T:Addr) (o:Obj),f0=rawInt T/\s.heap.get? T=some o/\N+5<T/\T≠S)->wI s.heap N l1 l2 f0 f1 a c k i xs ys->s.heap.get? S=some (rX acc cn)->
   acc.size=i->(∀j v,acc[j]?=some v->Nn a c N S xs ys s.heap j v)->
   (∀s' eN c',(∃h tk,s'={s with heap:=h,toks:=tk})->(∀b o,b<N->s.heap.get? b=some o->s'.heap.get? b=some o)->s'.heap.get? S=some (rX eN c')->eN.size=k->(∀j v,eN[j]?=some v->Nn a c N S xs ys s'.heap j v)->R (.ok (.ret res)) s')->
   codeAny (model prog w) A (.builtin "list.extend.loop" ⟨[.ref S,.ref (N+5),res],[]⟩) R s:=by
 have Ov:∀b:Nat,b<=N+5->b≠S:=fun b h e=>gv _ (fw hS (e▸h))
 intro j
 induction j with
 |zero=>
  intro i s acc cn f0 f1 hk hi hf Z hL iG hit hR;obtain rfl:i=k:=tL hi (Nat.sub_eq_zero_iff_le.mp hk);have hf:∃(T:Addr) (o:Obj),f0=rawInt T/\s.heap.get? T=some o/\N+5<T/\T≠S:=hf.resolve_left fun q=>lQ q.1 q.2.1
  obtain⟨T,o,rfl,hT,_,_⟩:=hf;refine xU xV ?_;rw[xW lY _];show wpAny _ A.in1 (pyNext (.ref (N+5))>>= _) _ _ s;exact aA (next_end hh hT Z fun h' hk=>bK (hR _ acc cn ⟨h',_,rfl⟩ (fun b o hb e=>hk b o (.inl hb) e) (hk _ _ (.inr hS) hL) iG fun j v hj=>(hit j v hj).keep fun b o hb ø e=>hk b o (.inr hb) e))
 |succ j ih=>
  intro i s acc cn f0 f1 hk hi hf Z hL iG hit hR;have ew:i<k:=Nat.sub_pos_iff_lt.mp (hk▸g9 j);have hx:=xI (fw ew Ot);have hy:=xI (fw ew Ou);refine xU xV ?_;rw[xW lY _];show wpAny _ A.in1 (pyNext (.ref (N+5))>>= _) _ _ s;have U4:N+5<s.heap.objs.size:=Z.lt;have Zd:s.heap.objs.size≠S:=lQ (ez hL);have rest:∀(h':Heap) (Wl Ze:Value),(∃(T:Addr) (o:Obj),Wl=rawInt T/\h'.get? T=some o/\N+5<T/\T≠S)->wI h' N l1 l2 Wl Ze a c k (i+1) xs ys->h'.get? s.heap.objs.size=some {cls:=.type "tuple",data:=.seq #[.int (a+(i:Nat)*c) s.toks,xs[i]'(fw ew Ot),ys[i]'(fw ew Ou)]}->(∀b o,b<N\/N+5<b->s.heap.get? b=some o->h'.get? b=some o)->
    wpAny (model prog w) A.in1 (updateSeq S (·.push (.ref s.heap.objs.size))>>= fun ø=>again (.builtin "list.extend.loop" ⟨[.ref S,.ref (N+5),res],[]⟩)) (fun fin s'=>match fin with| .done f=>R (.ok f) s'| .again c'=>c'.quiet=true/\codeAny (model prog w) A c' R s') (fun e s'=>R (.error e) s') {s with heap:=h',toks:=s.toks+1}:=by
   intro h' Wl Ze Sb Z' Rc up;have RZ:=up S _ (.inr hS) hL;have KP:∀b o,b≠S->h'.get? b=some o->(h'.update S (Obj.mapSeq (·.push (.ref s.heap.objs.size)))).get? b=some o:=fun b o hb e=>(kh _ _ (fu hb)).trans e
   refine aA (nH RZ rfl (bK ⟨tR lY _,ih (i+1) _ (acc.push (.ref s.heap.objs.size)) _ Wl Ze (by rw[<-Nat.sub_sub,hk];rfl) ew (.inr ?_) (Z'.keep h1 h2 fun b o hb e=>KP b o (Ov b hb) e) (kR _ RZ rfl) (by rw[tU,iG]) (fun j v hj=>?_) fun hU eN c' hs FO Zf JU Zg=>?_⟩)
    (by rw[iG];exact az hi Lp) (by show(acc.push (.ref s.heap.objs.size)).size<=sizeLine+1;rw[tU,iG];exact eW (az hi Lp)))
   ·obtain⟨T,o,q1,q2,q3,q4⟩:=Sb
    exact⟨T,o,q1,KP T o q4 q2,q3,q4⟩
   ·rw[Array.getElem?_push]at hj
    split at hj
    ·cases hj
     rename_i e;rw[e,iG];exact⟨_,_,_,_,rfl,U4,Zd,hx,hy,KP _ _ Zd Rc⟩
    ·exact(hit j v hj).keep fun b o hb hbS e=>KP b o hbS (up b o (.inr hb) e)
   ·obtain⟨Zh,tk,rfl⟩:=hs
    exact hR _ eN c' ⟨Zh,tk,rfl⟩ (fun b o hb e=>FO b o hb (KP b o (Ov b (az (dU hb) (fB ..))) (up b o (.inl hb) e))) Zf JU Zg
  rcases hf with⟨_,rfl,rfl,rfl⟩|⟨T,o,rfl,hT,RY,hTS⟩
  ·exact aA (Ec h1 h2 Z ew hx hy fun h' z1 z2 z3=>rest h' _ _ ⟨_,_,rfl,z2,U4,Zd⟩ z1 z2 z3)
  ·exact aA (G6 h1 h2 hT RY Z ew hx hy fun h' z1 z2 z3=>rest h' _ _ ⟨T,o,rfl,z3 T o (.inr RY) hT,RY,hTS⟩ z1 z2 z3)
theorem Ed{R:Result->Shared->Prop}{N l1 l2 S:Addr}{a c:Int}{k:Nat}{xs ys:Array Value}(hh:A.handled=none)(h1:l1<N)(h2:l2<N)(hS:N+5<S)(res:Value)(Ot:k<=xs.size)(Ou:k<=ys.size)(Lp:k<=sizeLine)(hk:0<k)(c₀:Nat)
  (Z:wI s.heap N l1 l2 .none (.bool false) a c k 0 xs ys) (hL:s.heap.get? S=some (rX #[] c₀))
  (hR:∀s' eN c',(∃h tk,s'={s with heap:=h,toks:=tk})->(∀b o,b<N->s.heap.get? b=some o->s'.heap.get? b=some o)->s'.heap.get? S=some (rX eN c')->eN.size=k->(∀j v,eN[j]?=some v->Nn a c N S xs ys s'.heap j v)->R (.ok (.ret res)) s'):
  wpAny (model prog w) A.in1 (Builtin.List.listExtendWith (.ref S) (.ref (N+5)) res)
   (fun fin s'=>match fin with| .done f=>R (.ok f) s'| .again c'=>c'.quiet=true/\codeAny (model prog w) A c' R s') (fun e s'=>R (.error e) s') s:=by
 have hT:s.TypeIs (.ref (N+5)) "zip":=⟨_,Z.z,rfl⟩;have Ov:∀b:Nat,b<=N+5->b≠S:=fun b h e=>gv _ (fw hS (e▸h))
 have Uv:S≠N+5:=lQ hS;unfold Builtin.List.listExtendWith;refine aA (wpAny_typeOf hT ?_);have e1:Builtin.List.listSameRef (.ref S) (.ref (N+5))=false:=by simp[Builtin.List.listSameRef,Uv]
 have e2:(Value.type "zip"==Value.type "list")=false:=by decide
 have e3:(Value.type "zip"==Value.type "tuple")=false:=by decide
 simp only[e1,e2,e3,Bool.or_false,kN,gZ];refine aA (wpAny_pyIter_zip Z.z ?_);refine aA (gI ?_);unfold Builtin.List.listLengthHint;refine aA (xL hT D7 ?_);show wpAny _ A.in1 (specialOf (Value.ref (N+5)) (Str.ofString "__length_hint__")>>= _) _ _ _;refine aA (xL hT B2 ?_);refine bK ?_;show wpAny _ A.in1 (rule "list.extend.makes-room">>= fun ø=>Builtin.List.listTouch (.ref S)>>= fun ø=>
  again (.builtin "list.extend.loop" ⟨[.ref S,.ref (N+5),res],[]⟩)) _ _ _
 refine aA (q9 ?_);refine aA ?_;show wpAny _ A.in1 (updateSeq S (·.push .none)>>= fun ø=>updateSeq S (·.pop)) _ _ _;refine aA (nH hL rfl ?_);have vr:=kR (Obj.mapSeq (·.push Value.none)) hL rfl;refine nH (hz:=by seq_fits) vr rfl ?_;have JW:=kR (Obj.mapSeq (·.pop)) vr rfl;have KP:∀b o,b≠S->s.heap.get? b=some o->((s.heap.update S (Obj.mapSeq (·.push Value.none))).update S (Obj.mapSeq (·.pop))).get? b=some o:=
  fun b o hb e=>(kh _ _ (fu hb)).trans ((kh _ _ (fu hb)).trans e)
 refine bK ⟨tR lY _,G7 hh h1 h2 hS res Ot Ou Lp k 0 _ #[] _ .none (.bool false) rfl (eK _) (.inl ⟨hk,rfl,rfl,rfl⟩) (Z.keep h1 h2 fun b o hb e=>KP b o (Ov b hb) e) JW rfl (fun j v h=>by simp at h) fun s' eN c' hs FO RZ iG hit=>?_⟩;obtain⟨h',tk,rfl⟩:=hs;exact hR _ eN c' ⟨h',tk,rfl⟩ (fun b o hb e=>FO b o hb (KP b o (Ov b (az (dU hb) (fB ..))) e)) RZ iG hit
theorem wJ{R:Result->Shared->Prop}{N l1 l2 S:Addr}{a c:Int}{k:Nat}{xs ys:Array Value}(hh:A.handled=none)(h1:l1<N)(h2:l2<N)(hS:N+5<S)(Ot:k<=xs.size)(Ou:k<=ys.size)(Lp:k<=sizeLine)(hk:0<k)
  (Z:wI s.heap N l1 l2 .none (.bool false) a c k 0 xs ys) (hL:s.heap.get? S=some {cls:=.type "list",data:=.seq #[]})
  (hR:∀s' eN c',(∃h tk,s'={s with heap:=h,toks:=tk})->(∀b o,b<N->s.heap.get? b=some o->s'.heap.get? b=some o)->s'.heap.get? S=some (rX eN c')->eN.size=k->(∀j v,eN[j]?=some v->Nn a c N S xs ys s'.heap j v)->R (.ok (.ret .none)) s'):
  wpAny (model prog w) A.in1 (Builtin.«list.__init__» ⟨[.ref S,.ref (N+5)],[]⟩)
   (fun fin s'=>match fin with| .done f=>R (.ok f) s'| .again c'=>c'.quiet=true/\codeAny (model prog w) A c' R s') (fun e s'=>R (.error e) s') s:=by
 have Ov:∀b:Nat,b<=N+5->b≠S:=fun b h e=>gv _ (fw hS (e▸h))
 show wpAny _ A.in1 (do let old <-Builtin.List.listItems (.ref S);Builtin.List.listUpdate (.ref S) (fun ø=> #[]);letGo old.toList.reverse;Builtin.List.listExtendWith (.ref S) (.ref (N+5)) .none) _ _ s;refine aA ?_;unfold Builtin.List.listItems;refine aA (nI hL rfl (bK ?_));show wpAny _ A.in1 (updateSeq S (fun ø=> #[])>>= fun ø=>letGo (#[]:Array Value).toList.reverse>>= fun ø=>Builtin.List.listExtendWith (.ref S) (.ref (N+5)) .none) _ _ s;refine aA (nH hL rfl ?_);have vr:=kR (Obj.mapSeq (fun ø=>(#[]:Array Value))) hL rfl;have KP:∀b o,b≠S->s.heap.get? b=some o->(s.heap.update S (Obj.mapSeq (fun ø=>(#[]:Array Value)))).get? b=some o:=
  fun b o hb e=>(kh _ _ (fu hb)).trans e
 refine aA (rc ?_);refine Ed hh h1 h2 hS .none Ot Ou Lp hk _ (Z.keep h1 h2 fun b o hb e=>KP b o (Ov b hb) e) vr fun s' eN c' hs FO RZ iG hit=>?_
 obtain⟨h',tk,rfl⟩:=hs;exact hR _ eN c' ⟨h',tk,rfl⟩ (fun b o hb e=>FO b o hb (KP b o (Ov b (az (dU hb) (fB ..))) e)) RZ iG hit
theorem wK{N l1 l2:Addr}{a c:Int}{k:Nat}{xs ys:Array Value}{Q:Value->Shared->Prop}(hh:A.handled=none)(h1:l1<N)(h2:l2<N)(Ot:k<=xs.size)(Ou:k<=ys.size)(Lp:k<=sizeLine)(hk:0<k)(Z:wI s.heap N l1 l2 .none (.bool false) a c k 0 xs ys)
  (hQ:∀h tk eN c',(∀b o,b<N->s.heap.get? b=some o->h.get? b=some o)->h.get? s.heap.objs.size=some (rX eN c')->eN.size=k->(∀j v,eN[j]?=some v->Nn a c N s.heap.objs.size xs ys h j v)->Q (.ref s.heap.objs.size) {s with heap:=h,toks:=tk}):
  wpAny (model prog w) A (call (.type "list") [.ref (N+5)]) Q E s:=by
 refine callType_codes (Q₁:=fun obj s₁=>obj= .ref s.heap.objs.size/\s₁={s with heap:=s.heap.push {cls:=.type "list",data:=.seq #[]} }) F.called_list (F.typeCall_list_1 _) F.entry_list_init
  (code_list_new _ ⟨rfl,rfl⟩) fun obj s₁ aj=>?_
 obtain⟨rfl,rfl⟩:=aj;have hS:(s.heap.push {cls:=.type "list",data:=.seq #[]}).get? s.heap.objs.size=some {cls:=.type "list",data:=.seq #[]}:=bJ _ rfl;refine⟨⟨_,hS,rfl⟩,F.args_list_init_2 _ _,wJ (A:=A.in1) hh h1 h2 Z.lt Ot Ou Lp hk (Z.keep h1 h2 fun b o ø e=>bz _ e) hS fun s' eN c' hs FO hL iG hit=>?_⟩;obtain⟨h',tk,rfl⟩:=hs;exact⟨rfl,hQ h' tk eN c' (fun b o hb e=>FO b o hb (bz _ e)) hL iG hit⟩
end
end
section
variable{P:Pk}{n:Nat}{K:Cx}{lo:Bool}
noncomputable def KQ(l l1 l2:List V):List V:=(l.zip (l1.zip l2)).map fun p=>.tup [p.1,p.2.1,p.2.2]
noncomputable def Rd(l l1 l2:List V):Option V:=if 0<l.length/\l.length<=l1.length/\l.length<=l2.length/\l.length<=most then some (.list (KQ l l1 l2))else none
noncomputable def Re(l:List V):List V->Option V
 |[x,y]=>qK V.gm V.gm (Rd l) x y
 |_=>none
theorem Rf(l l1 l2:List V):Re l [.list l1,.list l2]=Rd l l1 l2:=id rfl
theorem No{s s₃:Shared}{hid:List Addr}{N S:Addr}{l1 l2:List V}{Wm Wn:List Value}{a c:Int}{k:Nat}{h:Heap}{tk:Nat}{acc:Array Value}{c':Nat}(k3:Kp s s₃)(live:cD s.heap hid)(hN:s₃.heap.objs.size=N)(hS:N+5<S)(d1:bd P s₃.heap hid l1 Wm)(d2:bd P s₃.heap hid l2 Wn)
  (FO:∀b o,b<N->s₃.heap.get? b=some o->h.get? b=some o) (hL:h.get? S=some (rX acc c')) (iG:acc.size=k) (hit:∀j v,acc[j]?=some v->Nn a c N S Wm.toArray Wn.toArray h j v) (T1:k<=l1.length) (Hk:k<=l2.length):
  Hx P s {s₃ with heap:=h,toks:=tk} hid (.list (KQ ((List.range k).map fun(i:Nat)=>V.int (a+(i:Int)*c)) l1 l2)) (.ref S):=by
 have lt:∀{b},b∈hid->b<N:=fun hb=>(live _ hb).elim fun o e=>hN▸ez (k3.keep _ _ e)
 have S0:s.heap.get? S=none:=by
  cases e:s.heap.get? S with
  |none=>rfl
  |some o=>exact absurd (ez (k3.keep _ _ e)) (g8.mpr (hN▸az (fB N 5) (dU hS)))
 have grow:∀{x v},Dn P s₃.heap hid x v->Dn P h (S::hid) x v:=fun e=>Dn.grow (P:=P) e (fun b o ø q=>FO b o (hN▸ez q) q) fun b hb=>(bI.mp hb).elim (fun e=>.inr (by
  rw[e]
  cases e:s₃.heap.get? S with
  |none=>rfl
  |some o=>exact absurd (ez e) (g8.mpr (hN▸az (fB N 5) (dU hS))))) .inl
 refine⟨S,acc.toList,rfl,S0,⟨c',by simpa using hL⟩,bd.SJ ?_ fun i z v hz hv=>?_⟩
 ·unfold KQ
  rw[List.length_map,xM,xM,List.length_map,eM,Array.length_toList,iG];omega
 ·have FF:acc[i]?=some v:=by simpa using hv
  obtain⟨T,t,x,y,rfl,q2,q3,q4,q5,q6⟩:=hit i v FF;unfold KQ at hz;rw[dh]at hz;refine cI hz fun p hp e=>?_
  obtain⟨p1,p2,p3⟩:=p;obtain⟨z1,z2⟩:=xK.mp hp;obtain⟨z2,z3⟩:=xK.mp z2;dsimp only at z1 z2 z3 e;rw[dh]at z1;refine cI z1 fun j hj e1=>?_
  obtain rfl:i=j:=by
   have:=gH.mp hj;simpa using this.2
  obtain⟨u1,g1,r1⟩:=bq.get d1 z2;obtain⟨u2,g2,r2⟩:=bq.get d2 z3;have e4:Wm[i]?=some x:=by simpa using q4
  have e5:Wn[i]?=some y:=by simpa using q5
  rw[g1]at e4;cases e4;rw[g2]at e5;cases e5;rw[<-e,<-e1];exact Dn.Hq (fun q=>(bI.mp q).elim q3 fun q=>gv _ (fw (lt q) (az (fB N 5) (dU q2)))) ⟨_,q6⟩ (.cons (Dn.ofInt (P:=P) _ _) (.cons (grow r1) (.cons (grow r2) .nil)))
theorem wL{p p2 p3 pos p4 G8:Pos}{es Lr:List Expr}{f g}(hx:K.aV.contains "range"=true)(hv:P.glob "range"=some (.type "range"))(zW:K.aV.contains "list"=true)(FF:P.glob "list"=some (.type "list"))(hx2:K.aV.contains "zip"=true)(WU:P.glob "zip"=some (.type "zip"))
  (hs:kl P n K false es f) (hg:kl P n K false Lr g) (iX:∀env,starEach es env=es.map fun e=>(false,eval e env)) (AD:∀env,starEach (.Call (.Name "range" p2) es [] p4::Lr) env=(false,eval (.Call (.Name "range" p2) es [] p4) env)::starEach Lr env) (Zi:∀env,starEach Lr env=Lr.map fun e=>(false,eval e env))
  (U5:∀env,starEach [.Call (.Name "zip" p3) (.Call (.Name "range" p2) es [] p4::Lr) [] G8] env=[(false,eval (.Call (.Name "zip" p3) (.Call (.Name "range" p2) es [] p4::Lr) [] G8) env)]):
  Hy P n K (.Call (.Name "list" p) [.Call (.Name "zip" p3) (.Call (.Name "range" p2) es [] p4::Lr) [] G8] [] pos) (fun ρ=>(f ρ).bind fun xs=>(oy xs).bind fun l=>(g ρ).bind (Re l)):=fun A env out hid m B s ρ x E rm S hf=>by
 refine ak hf fun y hy hf=>ak hf fun l hl hf=>ak hf fun ys Ho hf=>?_
 match ys,Ho,hf with
 |[],_,hf=>cases hf
 |[_],_,hf=>cases hf
 |_::_::_::_,_,hf=>cases hf
 |[y1,y2],Ho,hf=>
 refine bO hf fun l1 l2 e1 e2 hf=>eR hf fun hc e=>?_
 cases V.eO e1;cases V.eO e2;have hp:(backTo pos (starEach [.Call (.Name "zip" p3) (.Call (.Name "range" p2) es [] p4::Lr) [] G8] env)).any (·.1)=false:=by rw[U5];rfl
 have hp2:(backTo G8 (starEach (.Call (.Name "range" p2) es [] p4::Lr) env)).any (·.1)=false:=by
  rw[AD,Zi];unfold backTo;simp
 refine kO (bH S zW FF (by decide) ?_);refine pj hp ?_;refine bW hp (nq (Q:=fun vs s'=>wpAny (model P.prog P.w) A (call (.type "list") ([]++vs) []) (fun v s'=>Kp s s'/\Hx P s s' hid x v) E s') ?_ (U5 env));refine kO (bH S hx2 WU (by decide) ?_);refine pj hp2 ?_;refine bW hp2 (nq ?_ (AD env));refine kO (bH S hx hv (by decide) ?_);refine pj (ct iX) ?_;refine bW (ct iX) (aD (hs A env out hid m B s ρ y E p4 rm S hy) (fun vs s₁ aj=>?_) fun ø ø q=>q);refine pY (vs:=[]++vs) aj.2 hl fun a b c t u v k s₂ l7 hk lE hr kp=>?_
 refine aD (hg A env out hid m B s₂ ρ _ E G8 rm ((S.after aj.1).after kp) Ho) (fun ws s₃ eu=>?_) fun ø ø q=>q
 obtain⟨C1,d₃⟩:=eu;subst l7;rw[List.length_map,eM]at hc;obtain⟨hc0,hc1,RS,hc3⟩:=hc;obtain⟨w1,w2,rfl,dw1,dw2⟩:∃w1 w2,ws=[w1,w2]/\Dn P s₃.heap hid (.list l1) w1/\Dn P s₃.heap hid (.list l2) w2:=d₃.two_k fun v w h1 h2=>⟨v,w,rfl,h1,h2⟩
 obtain⟨a1,Wm,rfl,_,hp1,dd1⟩:=dw1.cK;obtain⟨a2,Wn,rfl,_,U6,dd2⟩:=dw2.cK;have hm:=cR;have n1:=dd1.length;have n2:=dd2.length;refine D8 (s:=s₃) (C1.keep _ _ hr) lE hk hp1.isList U6.isList fun h' Z sj up=>?_
 refine nA ?_;refine wK (s:={s₃ with heap:=h'}) rm.handled (hp1.elim fun ø e=>ez e) (U6.elim fun ø e=>ez e) (by rw[cb];omega) (by rw[cb];omega) (by omega) hc0 Z fun Zh tk acc c' FO hL iG hit=>?_
 have k3:Kp s s₃:=aj.1.trans (kp.trans C1);have hS:s₃.heap.objs.size+5<h'.objs.size:=Z.lt;have U7:∀b o,b<s₃.heap.objs.size->s₃.heap.get? b=some o->Zh.get? b=some o:=fun b o hb e=>FO b o hb (up b o e)
 refine⟨k3.trans (.heap fun b o e=>U7 b o (ez e) e),?_⟩;rw[<-e];exact No (s₃:=s₃) k3 S.live rfl hS dd1 dd2 U7 hL iG hit hc1 RS
end
noncomputable def B6:Cx:={vars:=[(Vl,.local,false),(Lu,.local,false),(Le,.cell,false),(Hf,.cell,false),(Rr,.cell,false),(⟨#[105,110,100,101,110,116,115]⟩,.local,false),(⟨#[116,111,108,100]⟩,.local,false),(⟨#[108,111,110,103,101,115,116]⟩,.local,false),(⟨#[111,110,101]⟩,.local,false),(Fx,.local,false),(WJ,.cell,false),(Zx,.local,false),(⟨#[114,111,119,115]⟩,.local,false),(⟨#[110,111,116,95,108,101,115,115]⟩,.local,false),(⟨#[97,112,97,114,116]⟩,.local,false)],aV:=[WE,K7,La,K9,Lb,He,wd,Eo,R9,WG]}
noncomputable def KR:Cx:={vars:=[(Hg,.local,false),(Hf,.cell,false),(Rr,.cell,false)],aV:=[Lc]}
noncomputable def KS:Cx:={vars:=[(Rq,.local,false),(Le,.cell,false)],aV:=[Ld]}
noncomputable def KT:Cx:={vars:=[(⟨#[99,111,108,117,109,110,115]⟩,.local,false),(⟨#[109,111,115,116]⟩,.local,false)],aV:=[]}
noncomputable def KU:Cx:={vars:=[(Zy,.local,false)],aV:=[]}
noncomputable def KV:Cx:={vars:=[(Zy,.local,false)],aV:=[]}
noncomputable def KW:Cx:={vars:=[(WI,.local,false),(WJ,.cell,false)],aV:=[]}
noncomputable def B7{P:Pk}{n:Nat}{C N:Addr}{mN:Str->Option Value}(W:dJ P C N mN)(vH:P.glob WE=some (.builtin "sum")){mP:Addr}{v9:List V->Option V}(Ee:P.glob K7=some (.ref mP))(Ef:∀h,P.G h->∃o fd,h.get? mP=some o/\o.data= .func fd)(Eg:aZ P n (.ref mP) v9){gX:Addr}{ph:List V->Option V}(wM:P.glob La=some (.ref gX))(wN:∀h,P.G h->∃o fd,h.get? gX=some o/\o.data= .func fd)(wO:aZ P n (.ref gX) ph){j8:Addr}{sK:List V->Option V}(B8:P.glob K9=some (.ref j8))(B9:∀h,P.G h->∃o fd,h.get? j8=some o/\o.data= .func fd)(Ca:aZ P n (.ref j8) sK){j9:Addr}{sL:List V->Option V}(Cb:P.glob Lb=some (.ref j9))(Cc:∀h,P.G h->∃o fd,h.get? j9=some o/\o.data= .func fd)(Cd:aZ P n (.ref j9) sL){da:Addr}{gE:List V->Option V}(my:P.glob He=some (.ref da))(mz:∀h,P.G h->∃o fd,h.get? da=some o/\o.data= .func fd)(mB:aZ P n (.ref da) gE)(aX:P.glob wd=some (.type "range"))(fg:P.glob Eo=some (.builtin "max"))(iH:P.glob R9=some (.type "list"))(vI:P.glob WG=some (.type "zip")){gY:Addr}{pi:List V->Option V}(wP:P.glob Lc=some (.ref gY))(wQ:∀h,P.G h->∃o fd,h.get? gY=some o/\o.data= .func fd)(wR:aZ P n (.ref gY) pi){i8:Addr}{qJ:List V->Option V}(zN:P.glob Ld=some (.ref i8))(zO:∀h,P.G h->∃o fd,h.get? i8=some o/\o.data= .func fd)(zP:aZ P n (.ref i8) qJ){zQ:Addr}{KX:List V->Option V}(Rg:mN Ny=some (.ref zQ))(vL:∀h,P.G h->∃of fd,h.get? zQ=some of/\of.cls= .type "function"/\of.data= .func fd)(Rh:typeLookup (.type "object") Ny=pure none)(Eh:aZ P n (.ref zQ) KX){tl:Addr}{Fu:List V->Option V}(Np:mN Nw=some (.ref tl))(qB:∀h,P.G h->∃of fd,h.get? tl=some of/\of.cls= .type "function"/\of.data= .func fd)(Nq:typeLookup (.type "object") Nw=pure none)(zR:aZ P n (.ref tl) Fu){eJ:Addr}{jL:List V->Option V}(pR:mN Nz=some (.ref eJ))(dm:∀h,P.G h->∃of fd,h.get? eJ=some of/\of.cls= .type "function"/\of.data= .func fd)(pS:typeLookup (.type "object") Nz=pure none)(pT:aZ P n (.ref eJ) jL){dY:Addr}{iV:List V->Option V}(oN:mN Nx=some (.ref dY))(cY:∀h,P.G h->∃of fd,h.get? dY=some of/\of.cls= .type "function"/\of.data= .func fd)(oO:typeLookup (.type "object") Nx=pure none)(oP:aZ P n (.ref dY) iV){aP:Addr}{bN:List V->Option V}(bt:mN En=some (.ref aP))(aL:∀h,P.G h->∃of fd,h.get? aP=some of/\of.cls= .type "function"/\of.data= .func fd)(bu:typeLookup (.type "object") En=pure none)(bv:aZ P n (.ref aP) bN):{f:ao->Option V//My P n B6 (dW (aO pq.main.body 69)) f}:=⟨_,(@dM _ _ _ _ _ _ _ (@aI _ _ _ 1 _ _ _ _ _ _ rfl (by decide) (@al _ _ _ _ _ _ _ _ _ _ _ jo (@aJ _ _ _ _ _ _ _ _ _ _ _ rfl vH rfl SE (@aa _ _ _ _ _ _ _ _ (fb (ab 0 rfl rfl rfl) cF (e7 ae) cF) ag ir) ir (ca _ _)) (al NB ae ae)) cz) (@dM _ _ _ _ _ _ _ (@aI _ _ _ 2 _ _ _ _ _ _ rfl (by decide) (bM rfl Ee rfl Ef Eg (aa (ab 0 rfl rfl rfl) ag ir) ir (ca _ _)) cz) (@dM _ _ _ _ _ _ _ (@aI _ _ _ 3 _ _ _ _ _ _ rfl (by decide) (@bM _ _ _ _ _ _ _ _ _ _ _ rfl wM rfl wN wO (@aa _ _ _ _ _ _ _ _ (@bM _ _ _ _ _ _ _ _ _ _ _ rfl B8 rfl B9 Ca (aa (ab 2 rfl rfl rfl) (aa (ab 1 rfl rfl rfl) ag ir) ir) ir (ca _ _)) ag ir) ir (ca _ _)) cz) (@dM _ _ _ _ _ _ _ (@aI _ _ _ 4 _ _ _ _ _ _ rfl (by decide) (bM rfl Cb rfl Cc Cd (aa (ab 3 rfl rfl rfl) ag ir) ir (ca _ _)) cz) (@dM _ _ _ _ _ _ _ (@gP _ _ _ (KR) 5 _ _ _ _ _ _ _ _ _ _ _ _ _ _ (1) ([3,4]) rfl (@dH _ _ _ _ _ (bM rfl my rfl mz mB (aa (ab 1 rfl rfl rfl) ag ir) ir (ca _ _))) (cu (by decide+kernel)) (aB 0 rfl (by decide) (by decide)) e6 (@bM _ _ _ _ _ _ _ _ _ _ _ rfl wP rfl wQ wR (@aa _ _ _ _ _ _ _ _ (ab 1 rfl rfl rfl) (aa (ab 2 rfl rfl rfl) (aa (ab 0 rfl rfl rfl) ag ir) ir) ir) ir (ca _ _)) cz rfl rfl) (@dM _ _ _ _ _ _ _ (@gP _ _ _ (KS) 6 _ _ _ _ _ _ _ _ _ _ _ _ _ _ (1) ([2]) rfl (cL rfl aX (aa ae ag ir) ir (ca _ _)) (cu (by decide+kernel)) (aB 0 rfl (by decide) (by decide)) e6 (@bM _ _ _ _ _ _ _ _ _ _ _ rfl zN rfl zO zP (aa (ab 1 rfl rfl rfl) (aa (ab 0 rfl rfl rfl) ag ir) ir) ir (ca _ _)) cz rfl rfl) (@dM _ _ _ _ _ _ _ (@aI _ _ _ 7 _ _ _ _ _ _ rfl (by decide) (@aJ _ _ _ _ _ _ _ _ _ _ _ rfl fg rfl uq (@aa _ _ _ _ _ _ _ _ (@fQ _ _ _ _ _ _ (@fW _ _ _ (KT) _ _ _ _ _ _ _ _ _ _ (2) ([]) (dH (ab 6 rfl rfl rfl)) (cu (by decide+kernel)) (@fo _ _ _ _ _ _ _ (bh (aB 0 rfl (by decide) (by decide)) (bh (aB 1 rfl (by decide) (by decide)) eH)) (bA (bA fm)) ir) e6 (ab 1 rfl rfl rfl) cz)) ag ir) ir (ca _ _)) cz) (@dM _ _ _ _ _ _ _ (@dB _ _ _ (false) _ _ _ _ _ _ _ (@dH _ _ _ _ _ (@cQ _ _ _ _ _ _ _ (@aa _ _ _ _ _ _ _ _ (@de _ _ _ _ _ _ _ _ (aa ae (aa ae ag ir) ir) (by decide) (ah (ah len0))) (@aa _ _ _ _ _ _ _ _ (@de _ _ _ _ _ _ _ _ (aa ae (aa ae ag ir) ir) (by decide) (ah (ah len0))) (@aa _ _ _ _ _ _ _ _ (@de _ _ _ _ _ _ _ _ (aa ae (aa ae ag ir) ir) (by decide) (ah (ah len0))) (@aa _ _ _ _ _ _ _ _ (@de _ _ _ _ _ _ _ _ (aa ae (aa ae ag ir) ir) (by decide) (ah (ah len0))) (@aa _ _ _ _ _ _ _ _ (@de _ _ _ _ _ _ _ _ (aa ae (aa ae ag ir) ir) (by decide) (ah (ah len0))) (@aa _ _ _ _ _ _ _ _ (@de _ _ _ _ _ _ _ _ (aa ae (aa ae ag ir) ir) (by decide) (ah (ah len0))) ag ir) ir) ir) ir) ir) ir) (by decide) (@ah _ _ _ (@ah _ _ _ (@ah _ _ _ (ah (ah (ah len0)))))))) (@fo _ _ _ _ _ _ _ (bh (aB 8 rfl (by decide) (by decide)) (bh (aB 9 rfl (by decide) (by decide)) eH)) (bA (bA fm)) ir) (@af _ _ _ _ _ _ _ (@gQ _ _ _ ([(10,WJ,.cell,false),(11,Zx,.local,false)]) ([_,_]) _ _ _ _ _ _ _ ⟨by decide+kernel,by decide+kernel⟩ rfl (@fX.dat _ _ _ _ _ _ _ _ (aF (ab 5 rfl rfl rfl) (ac (ab 8 rfl rfl rfl)) cz) (@fX.dat _ _ _ _ _ _ _ _ (aF (ab 5 rfl rfl rfl) (ac (ab 9 rfl rfl rfl)) cz) fX.nil ir) ir) (by decide) (ah (ah len0)) kt.len ir (MS (K:=B6) (i:=10) (j:=0) rfl rfl)) (@af _ _ _ _ _ _ _ (@aN _ _ _ _ _ _ _ _ _ _ (@ay _ _ _ _ _ _ _ _ _ _ wk (@ac _ _ _ _ _ (@fQ _ _ _ _ _ _ (@fW _ _ _ (KW) _ _ _ _ _ _ _ _ _ _ (1) ([10]) (@cL _ _ _ _ _ _ _ rfl aX (@aa _ _ _ _ _ _ _ _ ae (aa (al cm (ab 7 rfl rfl rfl) ae) ag ir) ir) ir (ca _ _)) (cu (by decide+kernel)) (aB 0 rfl (by decide) (by decide)) e6 (bc W (ab 1 rfl rfl rfl) bt aL bu (by decide+kernel) bv (aa (ab 0 rfl rfl rfl) ag ir) ir (by decide) rfl ir) cz))) (@fb _ _ _ _ _ _ _ _ _ _ _ _ _ _ (@aF _ _ _ _ _ _ _ _ _ (aF (ac (ab 6 rfl rfl rfl)) (ac (ab 8 rfl rfl rfl)) cz) ae cz) cF (@e7 _ _ _ _ _ (al cm (ac (ab 7 rfl rfl rfl)) ae)) cF) rfl) (af (aW eX) ai) ai) (@af _ _ _ _ _ _ _ (@aI _ _ _ 12 _ _ _ _ _ _ rfl (by decide) (@fQ _ _ _ _ _ _ (@wL _ _ _ _ _ _ _ _ _ _ _ _ _ rfl aX rfl iH rfl vI (@aa _ _ _ _ _ _ _ _ ae (@aa _ _ _ _ _ _ _ _ (@al _ _ _ _ _ _ _ _ _ _ _ cm (@aJ _ _ _ _ _ _ _ _ _ _ _ rfl fg rfl uq (@aa _ _ _ _ _ _ _ _ (@aF _ _ _ _ _ _ _ _ _ (aF (ab 6 rfl rfl rfl) (ac (ab 8 rfl rfl rfl)) cz) ae cz) (@aa _ _ _ _ _ _ _ _ (@aF _ _ _ _ _ _ _ _ _ (aF (ab 6 rfl rfl rfl) (ac (ab 9 rfl rfl rfl)) cz) ae cz) ag ir) ir) ir (ca _ _)) ae) ag ir) ir) (@aa _ _ _ _ _ _ _ _ (@aF _ _ _ _ _ _ _ _ _ (aF (ab 6 rfl rfl rfl) (ac (ab 8 rfl rfl rfl)) cz) ae cz) (@aa _ _ _ _ _ _ _ _ (@aF _ _ _ _ _ _ _ _ _ (aF (ab 6 rfl rfl rfl) (ac (ab 9 rfl rfl rfl)) cz) ae cz) ag ir) ir) ir ir ir ir)) cz) (@af _ _ _ _ _ _ _ (@gP _ _ _ (KV) 13 _ _ _ _ _ _ _ _ _ _ _ _ _ _ (1) ([]) rfl (dH (ab 12 rfl rfl rfl)) (cu (by decide+kernel)) (aB 0 rfl (by decide) (by decide)) (@gO _ _ _ _ _ (@ay _ _ _ _ _ _ _ _ _ _ Hu (aF (ac (ab 0 rfl rfl rfl)) ae cz) (aF (ac (ab 0 rfl rfl rfl)) ae cz) rfl)) (ab 0 rfl rfl rfl) cz rfl rfl) (@af _ _ _ _ _ _ _ (@gP _ _ _ (KU) 14 _ _ _ _ _ _ _ _ _ _ _ _ _ _ (1) ([]) rfl (dH (ab 12 rfl rfl rfl)) (cu (by decide+kernel)) (aB 0 rfl (by decide) (by decide)) (@gO _ _ _ _ _ (@ay _ _ _ _ _ _ _ _ _ _ wk (aF (ac (ab 0 rfl rfl rfl)) ae cz) (aF (ac (ab 0 rfl rfl rfl)) ae cz) rfl)) (ab 0 rfl rfl rfl) cz rfl rfl) (@af _ _ _ _ _ _ _ (@aN _ _ _ _ _ _ _ _ _ _ (@sh.or _ _ _ _ _ _ _ _ (@ay _ _ _ _ _ _ _ _ _ _ wk (@bc _ _ _ _ _ _ _ W _ _ _ _ _ _ _ _ _ (ac (ab 10 rfl rfl rfl)) pR dm _ pS (by decide+kernel) pT (aa (ac (ab 11 rfl rfl rfl)) ag ir) ir (by decide) rfl ir) (ac (ab 13 rfl rfl rfl)) rfl) (@ay _ _ _ _ _ _ _ _ _ _ wk (@bc _ _ _ _ _ _ _ W _ _ _ _ _ _ _ _ _ (ac (ab 10 rfl rfl rfl)) oN cY _ oO (by decide+kernel) oP (aa (ac (ab 11 rfl rfl rfl)) ag ir) ir (by decide) rfl ir) (ac (ab 14 rfl rfl rfl)) rfl)) (af (aW eX) ai) ai) (@af _ _ _ _ _ _ _ (@aN _ _ _ _ _ _ _ _ _ _ (@sh.or _ _ _ _ _ _ _ _ (@ay _ _ _ _ _ _ _ _ _ _ ya (@bc _ _ _ _ _ _ _ W _ _ _ _ _ _ _ _ _ (ac (ab 10 rfl rfl rfl)) Rg vL _ Rh (by decide+kernel) Eh (aa (ac (ab 11 rfl rfl rfl)) ag ir) ir (by decide) rfl ir) (i9 fk (ac (ab 13 rfl rfl rfl)) (cQ ag (by decide) len0) rfl) rfl) (@ay _ _ _ _ _ _ _ _ _ _ ya (@bc _ _ _ _ _ _ _ W _ _ _ _ _ _ _ _ _ (ac (ab 10 rfl rfl rfl)) Np qB _ Nq (by decide+kernel) zR (aa (ac (ab 11 rfl rfl rfl)) ag ir) ir (by decide) rfl ir) (i9 fk (ac (ab 14 rfl rfl rfl)) (cQ ag (by decide) len0) rfl) rfl)) (af (aW eX) ai) ai) ai))))))) cz) (@Bo _ _ _ _ _ (af (aW eX) ai))))))))))⟩
theorem jM{i:Nat}{f:ao->Option V}{g:ao->Option V}{ρ:ao}{v:V}{w}(h:f ρ=some v)(hg:g (upd ρ i v)=w):Js (fun ρ=>Option.map (fun y=>(upd ρ i y,.next)) (f ρ)) g ρ=w:=DX (cB h rfl) hg
noncomputable def nc(cy:List Int):Int:=(cy.take 63).sum % 1000000
theorem KY{ρ:ao}{cy:List Int}(hs:cy.length<=63)(h0:ρ 0=some (.list (cy.map .int))):
  iW CP (jm O6 (cW (ul (fun ρ=>ρ 0) (fun x=>some none) (fun ρ=>(some (V.int 63)).bind Ar) fun x=>some none) fun x=>some [])) (iW OH (fun x=>some (V.int 10)) fun x=>some (V.int 6)) ρ=some (.int (nc cy)):=
 md (bY (n0 h0 rfl rfl rfl (pE _ 63 (by rw[List.length_map];exact az hs (by decide)))) (by rw[<-List.map_take,O7,sb];rfl)) rfl
noncomputable abbrev wc(r:List Nat×Nat)(n:Nat):V:=.list (((List.range n).map fun(j:Nat)=>cp r (j+1)).map .int)
noncomputable abbrev lC(r:List Nat×Nat):V:=.tup [wc r 8,.int (jN r)]
theorem KZ(l:List Int):Hh (.list (l.map .int)) (.list (l.map .int))=some false:=by
 have h:=depthAll_ints l;unfold Hh;rw[x9 _ _ rfl];simp only[CR,V.wT,V.wU,V.wV,V.wW,V.wX,qr,pv,lN,PyData.depth,PyData.eqv,j6];rw[aw (by omega)];simp
theorem xC(l:List (List Int)):np (fU l) (.list [])=some (decide (l=[])):=by
 have h:=kJ l;unfold fU;rw[x9 _ _ rfl];simp only[CR,V.wT,V.wU,V.wV,V.wW,V.wX,V.x8,v3,pv,lN];rw[aw]
 ·cases l<;>rfl
 ·simp only[PyData.depth];omega
theorem Ce(a:Bool):Hs (.bool a) (.bool a)=some false:=by cases a<;>rfl
noncomputable abbrev Cf(a b:Nat->Int)(j:Nat):V:=.tup [.int ((j+1:Nat):Int),.int (a (j+1)),.int (b (j+1))]
theorem zip_rows(a b:Nat->Int):∀K,K<=8->KQ ((List.range K).map fun(j:Nat)=>V.int ((j+1:Nat):Int)) (((List.range 8).map fun(j:Nat)=>a (j+1)).map .int) (((List.range 8).map fun(j:Nat)=>b (j+1)).map .int)=(List.range K).map (Cf a b)
 |0,_=>rfl
 |1,_=>rfl
 |2,_=>rfl
 |3,_=>rfl
 |4,_=>rfl
 |5,_=>rfl
 |6,_=>rfl
 |7,_=>rfl
 |8,_=>rfl
 |n+9,h=>absurd h (Nat.not_le.mpr (fw (by decide:8<9) (tV 9 n)))
theorem zS(a b:Nat->Int)(K:Nat):V.list (((List.range K).filter fun j=>decide (b (j+1)<=a (j+1))).map (Cf a b))=fU (em a b K):=by
 rw[v5,fU,iL];rfl
theorem Ei(a b:Nat->Int)(K:Nat):V.list (((List.range K).filter fun j=>!decide (a (j+1)=b (j+1))).map (Cf a b))=fU (gG a b K):=by
 rw[B0,fU,iL];rfl
inductive U8(cy:List Int)(F1 F2 F3 F4 F5 F6 F7 F8 F9 R0 R1 R2:List V->Option V):Prop
 |mk (row txt bg ends:V) (nm:Nat->V) (O:Nat->List V) (R:Nat->List Nat×Nat)
  (f1:F1 [.list (cy.map .int)]=some row) (f3:F3 [row,.int (nc cy)]=some txt) (f2:F2 [txt]=some bg) (f4:F4 [bg]=some ends)
  (f5:F5 [.int (nc cy)]=some (.list [nm 0,nm 1,nm 2])) (f6:∀w,w<3->F6 [bg,ends,nm w]=some (.obj (O w))) (f7:∀w:Nat,w<3->F7 [row,.int w]=some (lC (R w)))
  (l5:∀w,w<3->(O w).length=5) (w7:∀w,w<3->jN (R w)<=7) (f12:∀w t:Nat,w<3->0<t->t<=8->R2 [.obj (O w),.int t]=some (.int (cp (R w) t)))
  (f8:∀a b,a<3->b<3->F8 [.obj (O a),.obj (O b)]=some (.bool (decide (em (cp (R a)) (cp (R b)) (eE (R a) (R b))=[]))))
  (f9:∀a b,a<3->b<3->F9 [.obj (O a),.obj (O b)]=some (.bool (decide (gG (cp (R a)) (cp (R b)) (eE (R a) (R b))=[]))))
  (f10:∀a b,a<3->b<3->R0 [.obj (O a),.obj (O b)]=some (fU (em (cp (R a)) (cp (R b)) (eE (R a) (R b)))))
  (f11:∀a b,a<3->b<3->R1 [.obj (O a),.obj (O b)]=some (fU (gG (cp (R a)) (cp (R b)) (eE (R a) (R b)))))
inductive LwI(O:Nat->List V)(R:Nat->List Nat×Nat)(L:Nat)(ρ:ao):Prop
 |mk (h5:ρ 5=some (.list [.obj (O 0),.obj (O 1),.obj (O 2)])) (h6:ρ 6=some (.list [lC (R 0),lC (R 1),lC (R 2)])) (h7:ρ 7=some (.int L))
noncomputable abbrev Ej:List (Nat×Nat):=[(0,1),(0,2),(1,0),(1,2),(2,0),(2,1)]
theorem K0:∀p∈Ej,p.1<3/\p.2<3:=by decide
theorem Nr{f:Nat->V}{w:Nat}(h:w<3):iP (.list [f 0,f 1,f 2]) (.int w)=some (f w):=iu (by
 match w,h with
 |0,_=>rfl
 |1,_=>rfl
 |2,_=>rfl) (show 3<=most by decide)
theorem Nt{P:Pk}{n:Nat}{C N:Addr}{mN:Str->Option Value}{W:dJ P C N mN}{vH}{a1 F1 g1 h1 c1}{a2 F2 g2 h2 c2}{a3 F3 g3 h3 c3}{a4 F4 g4 h4 c4}{a5 F5 g5 h5 c5}{aX}{fg}{iH}{vI}{a6 F6 g6 h6 c6}{a7 F7 g7 h7 c7}{a8 F8 m8 o8 l8 c8}{a9 F9 m9 o9 l9 c9}{a10 R0 m10 o10 l10 U9}{a11 R1 m11 o11 l11 Va}{a12 R2 m12 o12 l12 Vb}{ρ:ao}
  {cy:List Int} (H:U8 cy F1 F2 F3 F4 F5 F6 F7 F8 F9 R0 R1 R2) (hs:cy.length<=63) (k0:ρ 0=some (.list (cy.map .int))):
  (B7 (P:=P) (n:=n) (C:=C) (N:=N) (mN:=mN) W vH (mP:=a1) (v9:=F1) g1 h1 c1 (gX:=a2) (ph:=F2) g2 h2 c2 (j8:=a3) (sK:=F3) g3 h3 c3 (j9:=a4) (sL:=F4) g4 h4 c4 (da:=a5) (gE:=F5) g5 h5 c5 aX fg iH vI (gY:=a6) (pi:=F6) g6 h6 c6 (i8:=a7) (qJ:=F7) g7 h7 c7 (zQ:=a8) (KX:=F8) m8 o8 l8 c8 (tl:=a9) (Fu:=F9) m9 o9 l9 c9 (eJ:=a10) (jL:=R0) m10 o10 l10 U9 (dY:=a11) (iV:=R1) m11 o11 l11 Va (aP:=a12) (bN:=R2) m12 o12 l12 Vb).1 ρ=some (.bool true):=by
 obtain⟨row,txt,bg,ends,nm,O,R,f1,f3,f2,f4,f5,f6,f7,l5,w7,f12,f8,f9,f10,f11⟩:=H;obtain⟨L,hL,Wo⟩:∃L:Nat,L=[jN (R 1),jN (R 2)].foldr max (jN (R 0))/\L<=7:=⟨_,rfl,rg.mpr ⟨w7 1 (by decide),rg.mpr ⟨w7 2 (by decide),w7 0 (by decide)⟩⟩⟩;have Za:Db [.list [.int (jN (R 0)),.int (jN (R 1)),.int (jN (R 2))]]=some (.int L):=by
  have:=xx (jN (R 0):Nat) (([jN (R 1),jN (R 2)]:List Nat).map fun(k:Nat)=>(k:Int));rw[sa,<-hL]at this;exact this
 have wg:oy [.int 1,.int ((L:Int)+2)]=some ((List.range (L+1)).map fun(j:Nat)=>V.int ((j+1:Nat):Int)):=Fs (k:=L+1) (az (eW Wo) (by decide));unfold B7;dsimp only;refine jM (KY hs k0) (jM (bY k0 f1) (jM (bY (cN (ap rfl (ap rfl rfl)) f3) f2) (jM (bY rfl f4)
  (jM (v:=.list [.obj (O 0),.obj (O 1),.obj (O 2)]) (gn (fun ρ=>ρ 1=some bg/\ρ 2=some ends) [0,1,2] nm (fun w=>.obj (O w)) (cN (bY rfl f5) rfl) (by decide) (fun w hw ρ hI=>ex2 ρ hI.1 hI.2 fun σ=>⟨_,rfl,⟨rfl,rfl⟩,cN (ap rfl (ap rfl (ap rfl rfl))) (f6 w ((by decide:∀w∈[0,1,2],w<3) w hw))⟩) ⟨rfl,rfl⟩)
  (jM (v:=.list [lC (R 0),lC (R 1),lC (R 2)]) (gn (fun ρ=>ρ 1=some row) [0,1,2] (fun(w:Nat)=>V.int w) (fun(w:Nat)=>lC (R w)) rfl (by decide) (fun w hw ρ hI=>ex1 ρ hI fun σ=>⟨_,rfl,rfl,cN (ap rfl (ap rfl rfl)) (f7 w ((by decide:∀w∈[0,1,2],w<3) w hw))⟩) rfl)
  (jM (bY (gn (fun ø=>True) [0,1,2] (fun(w:Nat)=>lC (R w)) (fun(w:Nat)=>.int (jN (R w))) rfl (by decide) (fun w hw ρ ø=>⟨_,rfl,trivial,rfl⟩) trivial) Za)
  (xy (LwI O R L) (eT (xs:=Ej.map fun p=>.tup [.int p.1,.int p.2]) rfl (lu (fun p:Nat×Nat=>V.tup [.int p.1,.int p.2]) Ej (fun ø=>LwI O R L) (fun l p ρ hp ø hR=>?_) ⟨rfl,rfl,rfl⟩)) fun am ø=>rfl)))))))
 obtain⟨i5,i6,i7⟩:=hR;obtain⟨pa,pb⟩:=K0 p hp;obtain⟨a,b⟩:=p;have ia:=Nr (f:=fun w=>V.obj (O w)) pa;have ib:=Nr (f:=fun w=>V.obj (O w)) pb;have ta:=Nr (f:=fun w=>lC (R w)) pa;have tb:=Nr (f:=fun w=>lC (R w)) pb;have wa:=w7 a pa;have wb:=w7 b pb;have Vc:=l5 a pa;have e12:=f12 a;have e8:=f8 a b pa pb;have e9:=f9 a b pa pb;have e10:=f10 a b pa pb;have e11:=f11 a b pa pb;dsimp only at pa pb;generalize R a=ra at*;generalize R b=rb at*;have Ri:eE ra rb<=8:=eW (rg.mpr ⟨wa,wb⟩);have hz:oy [.int 1,.int (max (jN ra:Int) (jN rb)+2)]=some ((List.range (eE ra rb)).map fun(j:Nat)=>V.int ((j+1:Nat):Int)):=by
  rw[<-Fs (az Ri (by decide))];rw[vZ];rfl
 have Zj:Re ((List.range (eE ra rb)).map fun(j:Nat)=>V.int ((j+1:Nat):Int)) [wc ra 8,wc rb 8]=some (.list ((List.range (eE ra rb)).map (Cf (cp ra) (cp rb)))):=by
  rw[Rf,Rd,aw,zip_rows _ _ _ Ri];rw[List.length_map,eM];exact⟨g9 _,Ri,Ri,az Ri (by decide)⟩
 have Zk:(((List.range 8).map fun(j:Nat)=>cp ra (j+1)).map V.int).take (L+1)=((List.range (L+1)).map fun(j:Nat)=>cp ra (j+1)).map V.int:=by
  rw[<-List.map_take,<-List.map_take,List.take_range,xX (eW Wo)]
 refine ex3 ρ i5 i6 i7 fun σ=>⟨_,_,rfl,cf (cB (ap (bF rfl rfl ia) (ap (bF rfl rfl ib) rfl)) rfl) (cf (iq (aG (x:=wc ra (L+1)) (y:=wc ra (L+1)) ?_ (n0 (bF (bF rfl rfl ta) rfl rfl) rfl (cN (ad rfl rfl) rfl) rfl ((pE _ (L+1) (by show 8<=most;decide)).trans (congrArg (fun z=>some (V.list z)) Zk))) (KZ _)) rfl) (mx (cN (ap rfl (ap (ad (cN (ap (bF (bF rfl rfl ta) rfl rfl) (ap (bF (bF rfl rfl tb) rfl rfl) rfl)) (BW _ _)) rfl) rfl)) (cN hz (cN (ap (bF (bF rfl rfl ta) rfl rfl) (ap (bF (bF rfl rfl tb) rfl rfl) rfl)) Zj)))
  (mx (v:=fU (em (cp ra) (cp rb) (eE ra rb))) ?_ (mx (v:=fU (gG (cp ra) (cp rb) (eE ra rb))) ?_ (cf (iq (Bu (a:=false) (b:=false) (aG (bQ rfl Vc rfl e10) rfl (BV _)) (aG (bQ rfl Vc rfl e11) rfl (BV _))) rfl) (cf (iq (Bu (a:=false) (b:=false) (aG (bQ rfl Vc rfl e8) (cB (aG rfl rfl (xC _)) rfl) (Ce _)) (aG (bQ rfl Vc rfl e9) (cB (aG rfl rfl (xC _)) rfl) (Ce _))) rfl) rfl)))))),rfl,rfl,rfl⟩
 ·refine(gn (fun ρ=>ρ 1=some (.obj (O a))) (List.range (L+1)) (fun(j:Nat)=>V.int ((j+1:Nat):Int)) (fun(j:Nat)=>.int (cp ra (j+1))) (cN (ap rfl (ap (ad rfl rfl) rfl)) wg) (by rw[eM];exact Yz (eW Wo)) (fun j hj ρ hI=>ex1 ρ hI fun σ=>⟨_,rfl,rfl,bQ rfl Vc rfl (e12 (j+1) pa (g9 j) (az (ec.mp hj) (eW Wo)))⟩) rfl).trans ?_
  rw[wc,iL];rfl
 ·exact(jt (fun ø=>True) (List.range (eE ra rb)) (Cf (cp ra) (cp rb)) (fun j=>decide (cp rb (j+1)<=cp ra (j+1))) (Cf (cp ra) (cp rb)) (cN rfl rfl) (by rw[eM];exact Yz Ri) (fun j hj ρ ø=>⟨_,rfl,trivial,aG (x:=.int (cp ra (j+1))) (y:=.int (cp rb (j+1))) rfl rfl rfl,fun ø=>rfl⟩) trivial).trans (congrArg some (zS ..))
 ·exact(jt (fun ø=>True) (List.range (eE ra rb)) (Cf (cp ra) (cp rb)) (fun j=>!decide (cp ra (j+1)=cp rb (j+1))) (Cf (cp ra) (cp rb)) (cN rfl rfl) (by rw[eM];exact Yz Ri) (fun j hj ρ ø=>⟨_,rfl,trivial,aG (x:=.int (cp ra (j+1))) (y:=.int (cp rb (j+1))) rfl rfl (Du _ _),fun ø=>rfl⟩) trivial).trans (congrArg some (Ei ..))
noncomputable abbrev sV(raw:V)(r:List Nat×Nat):List V:=[raw,.int (cp r 1),.int (r.1.length:Nat),.tup [.tup ((r.1.foldl bump []).map .int),.int r.2],.bool (decide ((r.1.foldl bump []).length<=1))]
structure Ek(r:List Nat×Nat):Prop where
 le:∀x∈r.1,x<=7
 len:r.1.length<=7
 fr:r.2<=7
theorem Ek.jN{r:List Nat×Nat}(h:Ek r):jN r<=7:=Q0 h.le h.fr
theorem Ek.cnt{r:List Nat×Nat}(h:Ek r):(r.1.foldl bump []).length<=1000/\(∀z∈r.1.foldl bump [],0<=z/\z<=1000)/\r.1.length<=1000:=by
 refine⟨?_,fun z hz=>?_,az h.len (by decide)⟩
 ·rw[jh,gy,Nat.zero_max]
  exact az (QZ fun x hx=>ri (h.le x hx)) (by decide)
 ·have:=GV r.1 z hz
  exact⟨this.1,kf this.2 (jU.mpr (az h.len (by decide)))⟩
theorem Rj{nm:List Nat}(h:DH nm)(r:List Nat×Nat):QO (DU r nm)=sV (.str (DU r nm)) r:=by
 obtain⟨c,l,rfl⟩:=xE h.ne;have hc:c≠32/\c≠9:=by
  rcases h.sg c (.head _)with q|⟨_,e,he,rfl⟩
  ·have:=q.1;omega
  ·have:=BA he;omega
 unfold QO;rw[Kv hc.1 hc.2,Nj]
theorem se(r r':List Nat×Nat):max ((jN r:Nat):Int) ((jN r':Nat):Int)+1=(eE r r':Nat):=by
 rw[vZ];rfl
theorem Rk{s:oM}{r:List Nat×Nat}(h:Told 7 s r):BM s=lC r/\Ek r:=by
 refine⟨(Ky h).trans ?_,h.4,h.5,h.6⟩;rw[lC,wc,iL];rfl
inductive EvH(t:List Nat)(us ws:List (List Nat))(M:CM)(tk:Nat->Option Nat)(bg:List sA):Prop
 |mk (h1:nj us=true) (h2:us.flatten=t++[59,34,92]) (h3:us.flatten.length<=10000) (h4:us.length<=10000) (h5:fG us=ws) (h6:nj ws=true) (h7:ws.flatten.length<=10000) (h8:∀u∈ws,u.length=2\/∃c,u=[c]/\(mh [c]).length<10)
  (h9:(ws.map (iy M)).flatten.length<=1000) (Zl:ws.foldl (cG tk M) ([],[])=(bg,[34,92])) (h11:t.length<=10000)
theorem K2{M:CM}{total:Int}{SP:Nat->Int->List Nat}{its:List Item}(hg:j0 its)(hn:sF M total SP its){tk:Nat->Option Nat}(ht:zA tk):
  EvH (eC SP false its).flatten (eC SP false its++[[59],[34],[92]]) (oj SP false its++[[59],[34],[92]]) M tk (vN total tk its):=by
 have hw:∀e∈its,e.2.1<3:=fun e he=>(hg.ok e he).2.1
 obtain⟨l1,l2⟩:=rZ (b:=false) hn;have l1:=az l1 (jk 11 hg.len);have l2:=az l2 (jk 11 hg.len);have h3:(eC SP false its++[[59],[34],[92]]).flatten.length<=10000:=by
  rw[bR,aY];exact az (jS l1 3) (by decide)
 have h5:=Gz hn;have h7:=qt (eC SP false its++[[59],[34],[92]]);rw[h5]at h7;refine⟨qE (Fg hn) rfl,bR,h3,?_,h5,qE (fun u hu=>(zB hn u hu).1) rfl,az h7 h3,fun u hu=>?_,?_,QN ht hw hn,az l1 (by decide)⟩
 ·rw[aY]
  exact az (jS l2 3) (by decide)
 ·rcases bZ.mp hu with hu|hu
  ·exact(zB hn u hu).2
  ·have hl:∀c∈n7,(mh [c]).length<10:=fun c hc=>cV (cH.mp xt c hc)
   rcases bI.mp hu with rfl|hu
   ·exact .inr ⟨59,rfl,hl 59 (by decide)⟩
   ·rcases bI.mp hu with rfl|hu
    ·exact .inr ⟨34,rfl,hl 34 (by decide)⟩
    ·rw[cq.mp hu]
     exact .inr ⟨92,rfl,hl 92 (by decide)⟩
 ·have ha:=BH (b:=false) hw hn
  have e:(([[59],[34],[92]]:List (List Nat)).map (iy M)).flatten=[59,34,92]:=by
   show M.f 59++(M.f 34++(M.f 92++[]))=_;rw[M.sign 59 (by decide),M.sign 34 (by decide),M.sign 92 (by decide)];rfl
  rw[List.map_append,bR,aY,e];exact az (jS (az ha (jk 5 hg.len)) 3) (by decide)
theorem El(bg:List sA)(hl:bg.length<=24):(iT (bg.map (·.2))).length<=24/\((iT (bg.map (·.2))).map (·.1)).Nodup/\∀e∈iT (bg.map (·.2)),e.1<bg.length:=by
 obtain⟨h1,h2⟩:=xw (bg.map (·.2));refine⟨az h2 (by rw[List.length_map];exact hl),h1,fun e he=>?_⟩;obtain⟨m,h3,_⟩:=vV.mp he;have:=(gH.mp h3).1;rwa[List.length_map]at this
section
noncomputable def G9(ps:List Str)(f:ao->Option (ao×Fl)):List V->Option V:=fun xs=>if xs.length=ps.length then(f (nf xs)).bind Sx else none
theorem fO{ps:List Str}{f:ao->Option (ao×Fl)}{xs:List V}{v:V}(hl:xs.length=ps.length)(h:Ends f (nf xs) v):G9 ps f xs=some v:=by
 obtain⟨aQ,e⟩:=h;unfold G9;rw[aw hl,e];rfl
theorem Ow{ps:List Str}{f:ao->Option (ao×Fl)}{xs:List V}{Q:V->Prop}(hl:xs.length=ps.length)(h:rS f (nf xs) Q):∃v,Q v/\G9 ps f xs=some v:=by
 obtain⟨v,q,e⟩:=h;exact⟨v,q,fO hl e⟩
theorem Ox(P:Params):zA (MB P)where
 par:=by refine⟨?_,?_,?_,?_,?_⟩<;>kernel_rfl
 op:=fun c hc=>by
  have h:(zv.all fun c=>(MB P c).elim false fun k=>k != 7&&k != 8)=true:=by kernel_rfl
  obtain⟨k,h1,h2⟩:=vh (cH.mp h c hc);obtain⟨h3,h4⟩:=(bX _ _).mp h2;exact⟨k,h1,oS.mp h3,oS.mp h4⟩
 low:=fun c h0 h1=>by
  have h:((List.range 26).all fun i=>(MB P (97+i)).isNone)=true:=by kernel_rfl
  have:=cH.mp h (c-97) (ec.mpr h1);rw[re h0]at this;exact Option.isNone_iff_eq_none.mp this
 edge:=fun e he=>by
  have h:(fY.all fun e=>(MB P e.toNat).isNone)=true:=by kernel_rfl
  exact Option.isNone_iff_eq_none.mp (cH.mp h e he)
theorem Rl(P:Params):J4 (MB P) (MA P) (Qr P):=fun c=>by
 unfold MB MA Qr
 cases h:findBy (fun(k:Str) v=>v.isStrOf k) (ents (fc P)) (pyStr [c])with
 |none=>exact⟨rfl,nofun⟩
 |some v=>
  obtain⟨p,h1,h2⟩:=MC h;show true=(((vInt v).map (·.1)).map Int.toNat).isSome/\∀k,((vInt v).map (·.1)).map Int.toNat=some k->(vInt v).map (·.1)=some (k:Int);rw[h1];exact⟨rfl,fun k hk=>by rw[<-Option.some.inj hk];exact congrArg some (Int.toNat_of_nonneg h2).symm⟩
theorem size_le{r r':List Nat×Nat}(h:Ek r)(h':Ek r'):eE r r'<=8:=eW (rg.mpr ⟨h.jN,h'.jN⟩)
section
variable{P:Pk}
theorem fj{n:Nat}{a:Addr}{fd:FuncData}{st:Stmt}{ps:List Str}{K:Cx}{f:ao->Option (ao×Fl)}(Cg:∀h,P.G h->(∃o,h.get? a=some o/\o.cls= .type "function"/\o.data= .func fd)/\h.CodeRec fd.code fd.qualname)(F:ls fd st ps)(ok:LM K (kA st) ps=true)(C4:ps.Nodup)
  (Ms:(kA st).isCoroutine=false) (sO:(kA st).isGenerator=false) (h:ow P n K (dW st) f):aZ P (n+1) (.ref a) (G9 ps f):=
 aZ.fn (fd:=fd) (fun h G=>by
  obtain⟨⟨o,h1,h2,h3⟩,h4⟩:=Cg h G;exact⟨⟨o,h1,h3⟩,h4⟩) F.body F.gl F.bl F.clo F.bind (by rw[F.scope];exact ui.of ok) C4 (by rw[F.scope];exact Ms) (by rw[F.scope];exact sO) h
variable(X:bG P)
include X
theorem bG.Fv:∃F,aZ P 1 (.ref 92) F/\∀us,nj us=true->us.flatten.length<=10000->us.length<=10000->F [.str us.flatten]=some (.str (fG us).flatten):=
 ⟨_,fj (fun h G=>NZ (X.top h G) fun ø ø e=>e) (TB P.w.params) (by decide+kernel) (by decide+kernel) (by kernel_rfl) (by kernel_rfl) (dN (n:=0) X.dK X.gen X.cA).2,fun us h1 h2 h3=>fO rfl (Gl h1 h2 h3 rfl)⟩
theorem bG.Zm:∃F,aZ P 1 (.ref 32) F/\∀c:Nat,F [.str [c]]=some (.bool (decide ((c:Int)∈Uk))):=
 ⟨_,fj (fun h G=>N1 (X.top h G) fun ø ø e=>e) (TH P.w.params) (by decide+kernel) (by decide+kernel) (by kernel_rfl) (by kernel_rfl) (QI (n:=0) X.vt X.M5 (Qq X.top)).2,fun c=>fO rfl (QK rfl)⟩
theorem bG.Zn:∃F,aZ P 1 (.ref 78) F/\∀c:Nat,(mh [c]).length<10->F [.str [c]]=some (.str ((Ln ER c).getD (mh [c]))):=
 ⟨_,fj (fun h G=>N2 (X.top h G) fun ø ø e=>e) (TK P.w.params) (by decide+kernel) (by decide+kernel) (by kernel_rfl) (by kernel_rfl) (QJ (n:=0) X.vt X.vG (P7 X.top)).2,fun c hc=>fO rfl (QL hc rfl)⟩
theorem bG.Vd:∃F,aZ P 1 (.ref 173) F/\∀cy:List Int,cy.length<=63->∃its,j0 its/\F [.list (cy.map .int)]=some (.list (its.map Hl)):=
 ⟨_,fj (fun h G=>IO (X.top h G) fun ø ø e=>e) (PT P.w.params) (by decide+kernel) (by decide+kernel) (by kernel_rfl) (by kernel_rfl) (rW (n:=0) X.cA X.aX).2,fun cy hs=>by
  obtain⟨v,⟨its,h1,rfl⟩,h2⟩:=Ow (ps:=IP) (xs:=[.list (cy.map .int)]) rfl (MN hs rfl);exact⟨its,h1,h2⟩⟩
theorem bG.Fw:∃F,aZ P 1 (.ref 180) F/\∀total:Int,F [.int total]=some (.list [.str (aH 0 total),.str (aH 1 total),.str (aH 2 total)]):=by
 have hr:∀total:Int,Ends (iw (P:=P) (n:=0) X.m7).1 (nf [.int total]) (.list [.str (aH 0 total),.str (aH 1 total),.str (aH 2 total)]):=fun total=>Gq rfl
 have hB:ow P 0 n6 (dW (aO pq.main.body 62)) (iw (P:=P) (n:=0) X.m7).1:=x5 _;generalize(iw (P:=P) (n:=0) X.m7).1=f at*;exact⟨G9 IR f,fj (K:=n6) (f:=f) (fun h G=>IQ (X.top h G) fun ø ø e=>e) (PU P.w.params) (by decide+kernel) (by decide+kernel) (by kernel_rfl) (by kernel_rfl) (by assumption),fun total=>fO rfl (hr total)⟩
theorem bG.Ha(M:CM):∃F,aZ P 1 (.ref 185) F/\∀(total:Int) (w:Nat) (d:Int),w<3->0<=d->∃l,bV M (aH w total) l/\F [.str (aH w total),.int total,.int d]=some (.str l):=by
 have hr:∀(total:Int) (w:Nat) (d:Int),w<3->0<=d->rS (fT (P:=P) (n:=0) X.iH X.aX X.cA X.m7 X.vt).1 (nf [.str (aH w total),.int total,.int d]) fun v=>∃l,bV M (aH w total) l/\v= .str l:=fun total w d hw hd=>BB (M:=M) hw hd rfl rfl rfl
 have hB:ow P 0 kF (dW (aO pq.main.body 63)) (fT (P:=P) (n:=0) X.iH X.aX X.cA X.m7 X.vt).1:=x5 _;generalize(fT (P:=P) (n:=0) X.iH X.aX X.cA X.m7 X.vt).1=f at*;refine⟨G9 Di f,fj (K:=kF) (f:=f) (fun h G=>IS (X.top h G) fun ø ø e=>e) (PV P.w.params) (by decide+kernel) (by decide+kernel) (by kernel_rfl) (by kernel_rfl) (by assumption),fun total w d hw hd=>?_⟩;obtain⟨v,⟨l,h1,rfl⟩,h2⟩:=Ow (ps:=Di) (xs:=[.str (aH w total),.int total,.int d]) rfl (hr total w d hw hd);exact⟨l,h1,h2⟩
theorem bG.Rm(M:CM):∃F,aZ P 2 (.ref 192) F/\∀total:Int,∃SP:Nat->Int->List Nat,(∀w d,w<3->0<=d->bV M (aH w total) (SP w d))/\∀its,j0 its->F [.list (its.map Hl),.int total]=some (.str (eC SP false its).flatten):=by
 obtain⟨F1,c1,s1⟩:=X.Ha M;obtain⟨F2,c2,s2⟩:=X.Fw;refine⟨_,fj (fun h G=>IT (X.top h G) fun ø ø e=>e) (PX P.w.params) (by decide+kernel) (by decide+kernel) (by kernel_rfl) (by kernel_rfl) (pG (n:=1) X.wC X.wD c1 X.j1 X.j3 c2).2,fun total=>?_⟩;have hex:∀(w:Nat) (d:Int),∃l,w<3->0<=d->bV M (aH w total) l/\F1 [.str (aH w total),.int total,.int d]=some (.str l):=fun w d=>by
  by_cases q:w<3/\0<=d
  ·obtain⟨l,h1,h2⟩:=s1 total w d q.1 q.2
   exact⟨l,fun ø ø=>⟨h1,h2⟩⟩
  ·exact⟨[],fun h1 h2=>absurd ⟨h1,h2⟩ q⟩
 have Tf:∀w d,w<3->0<=d->bV M (aH w total) (Classical.choose (hex w d))/\F1 [.str (aH w total),.int total,.int d]=some (.str (Classical.choose (hex w d))):=fun w d=>Classical.choose_spec (hex w d)
 exact⟨fun w d=>Classical.choose (hex w d),fun w d h1 h2=>(Tf w d h1 h2).1,fun its hg=>fO rfl (J3 hg (fun w d h1 h2=>⟨(Tf w d h1 h2).2,(Tf w d h1 h2).1⟩) (s2 total) rfl rfl)⟩
theorem bG.Nu:∃F,aZ P 2 (.ref 99) F/\QS F:=by
 obtain⟨F1,c1,s1⟩:=X.Fv;exact⟨_,fj (fun h G=>N0 (X.top h G) fun ø ø e=>e) (TF P.w.params) (by decide+kernel) (by decide+kernel) (by kernel_rfl) (by kernel_rfl) (fE (n:=1) X.dP X.dQ c1 X.dK X.gen).2,UJ s1 fun t ws h1 h2 h3=>fO rfl (Gm (us:=[]) h1 h2 h3 rfl)⟩
theorem bG.K3:∃F,aZ P 2 (.ref 199) F/\∀t us ws bg,EvH t us ws UE (MB P.w.params) bg->F [.str t]=some (.list (bg.map sB)):=by
 obtain⟨F1,c1,s1⟩:=X.Fv;obtain⟨F2,c2,s2⟩:=X.Zm;obtain⟨F3,c3,s3⟩:=X.Zn;have hM:Fe UE F2 F3:=fun c hc=>by
  by_cases q:(c:Int)∈Uk
  ·refine .inl ⟨by rw[s2,bo q],?_⟩
   show J0 c=[];unfold J0;rw[aw q]
  ·refine .inr ⟨by rw[s2,db q],?_⟩
   rw[s3 c hc];show _=some (V.str (J0 c));unfold J0;rw[au q]
 refine⟨_,fj (fun h G=>IU (X.top h G) fun ø ø e=>e) (PZ P.w.params) (by decide+kernel) (by decide+kernel) (by kernel_rfl) (by kernel_rfl) (mC (n:=1) X.dP X.dQ c1 X.dK X.gen X.cA X.qz X.qA c2 X.pf X.pg c3 X.jI (E2 X.top) (by decide) (Jx X.top)).2,fun t us ws bg h=>?_⟩;obtain⟨h1,h2,h3,h4,h5,h6,h7,h8,h9,Zl,h11⟩:=h;have hs:=s1 us h1 h3 h4;rw[h2,h5]at hs;have:=DN (tk:=MB P.w.params) (M:=UE) hs h11 h6 h7 hM (Rl _) h8 h9 (by rw[Zl]) (ρ:=nf [.str t]) rfl (P:=P) (n:=1) (g1:=X.dP) (h1:=X.dQ) (c1:=c1) (g2:=X.dK) (UC:=X.gen) (g3:=X.cA) (g3':=X.qz) (h3:=X.qA) (c3:=c2) (g4:=X.pf) (h4:=X.pg) (c4:=c3) (g5:=X.jI) (t5:=E2 X.top) (s5:=by decide) (i5:=Jx X.top);rw[Zl]at this;exact fO rfl this
theorem bG.Rn:∃F,aZ P 3 (.ref 204) F/\∀bg:List sA,bg.length<=40->F [.list (bg.map sB)]=some (dV (iT (bg.map (·.2)))):=by
 obtain⟨F1,c1,s1⟩:=X.Nu;exact⟨_,fj (fun h G=>IV (X.top h G) fun ø ø e=>e) (P1 P.w.params) (by decide+kernel) (by decide+kernel) (by kernel_rfl) (by kernel_rfl) (pN (n:=2) X.aX X.cA X.oH X.oJ c1).2,fun bg hl=>fO rfl (Kh hl s1 rfl)⟩
theorem bG.Nv:∃F,aZ P 1 (.ref 214) F/\∀(its:List Item) (w:Nat),j0 its->F [.list (its.map Hl),.int w]=some (BM (GJ w its)):=by
 have F:=P4 P.w.params;refine⟨_,aZ.fnT (n:=0) (K:=sI) (fd:=fdOf jC) (ps:=IY) (fun h G=>by
  obtain⟨⟨o,h1,h2,h3⟩,h4⟩:=IX (X.top h G) fun ø ø e=>e
  exact⟨⟨o,h1,h3⟩,h4⟩) F.body F.gl F.bl F.clo F.bind (by rw[F.scope];exact ui.of (by decide+kernel)) (by decide+kernel) (by rw[F.scope];kernel_rfl) (by rw[F.scope];kernel_rfl) (ol (n:=0) X.aX X.fg X.cA).2,fun its w hg=>?_⟩
 exact(aw rfl).trans (GM hg rfl rfl)
theorem bG.sf:∃F,aZ P 1 (.ref 123) F/\∀raw r,Ek r->F [.obj (sV raw r)]=some (.int (jN r:Nat)):=
 ⟨_,fj (fun h G=>II (X.top h G) fun ø ø e=>e) (PI P.w.params) (by decide+kernel) (by decide+kernel) (by kernel_rfl) (by kernel_rfl) (ei (n:=0) (mu X.ob X.top) X.fg X.cA).2,fun raw r h=>by rw[<-Kz];exact fO rfl (BX h.cnt.1 rfl)⟩
theorem bG.tm:∃F,aZ P 1 (.ref 130) F/\∀raw r (t:Nat),Ek r->0<t->t<=100->F [.obj (sV raw r),.int t]=some (.int (cp r t)):=
 ⟨_,fj (fun h G=>IJ (X.top h G) fun ø ø e=>e) (PK P.w.params) (by decide+kernel) (by decide+kernel) (by kernel_rfl) (by kernel_rfl) (jJ (n:=0) (mu X.ob X.top) X.aX X.cA).2,fun raw r t h h1 h2=>by rw[cp,<-D3 r h1];exact fO rfl (GG h.cnt.1 h.cnt.2.1 h.cnt.2.2 h1 (az h2 (by decide)) rfl rfl)⟩
theorem bG.zR:∃F,aZ P 1 (.ref 137) F/\∀raw r sd r',F [.obj (sV raw r),.obj (sV sd r')]=some (.bool (decide (gG (cp r) (cp r') (eE r r')=[]))):=
 ⟨_,fj (fun h G=>IK (X.top h G) fun ø ø e=>e) (PM P.w.params) (by decide+kernel) (by decide+kernel) (by kernel_rfl) (by kernel_rfl) (zD (n:=0) (mu X.ob X.top)).2,fun raw r sd r'=>by rw[<-KD];exact fO rfl (GZ rfl rfl)⟩
theorem bG.Hb:∃F,aZ P 2 (.ref 144) F/\∀raw r sd r',Ek r->Ek r'->F [.obj (sV raw r),.obj (sV sd r')]=some (fU (gG (cp r) (cp r') (eE r r'))):=by
 obtain⟨F1,c1,s1⟩:=X.tm;obtain⟨F2,c2,s2⟩:=X.sf;exact⟨_,fj (fun h G=>IL (X.top h G) fun ø ø e=>e) (PO P.w.params) (by decide+kernel) (by decide+kernel) (by kernel_rfl) (by kernel_rfl) (fL (n:=1) (mu X.ob X.top) X.fg X.aX (dC _) X.aL dD c1 (dR _) X.aK dS c2).2,
  fun raw r sd r' h h'=>fO rfl (BY (az (size_le h h') (by decide)) ⟨_,rfl,rfl⟩ ⟨_,rfl,rfl⟩ (se r r') (s2 _ _ h) (s2 _ _ h') (fun ts z1 z2=>⟨s1 _ _ _ h z1 (az z2 (az (size_le h h') (by decide))),s1 _ _ _ h' z1 (az z2 (az (size_le h h') (by decide)))⟩) rfl rfl)⟩
theorem bG.Eh:∃F,aZ P 2 (.ref 151) F/\∀raw r sd r',Ek r->Ek r'->F [.obj (sV raw r),.obj (sV sd r')]=some (.bool (decide (em (cp r) (cp r') (eE r r')=[]))):=by
 obtain⟨F1,c1,s1⟩:=X.tm;obtain⟨F2,c2,s2⟩:=X.sf;exact⟨_,fj (fun h G=>IM (X.top h G) fun ø ø e=>e) (PQ P.w.params) (by decide+kernel) (by decide+kernel) (by kernel_rfl) (by kernel_rfl) (D5 (n:=1) (mu X.ob X.top) X.fg X.aX (dC _) X.aL dD c1 (dR _) X.aK dS c2).2,
  fun raw r sd r' h h'=>by rw[<-Nl];exact fO rfl (KC (az (size_le h h') (by decide)) (se r r') (s2 _ _ h) (s2 _ _ h') (fun ts z1 z2=>⟨s1 _ _ _ h z1 (az z2 (az (size_le h h') (by decide))),s1 _ _ _ h' z1 (az z2 (az (size_le h h') (by decide)))⟩) rfl rfl)⟩
theorem bG.Ve:∃F,aZ P 2 (.ref 158) F/\∀raw r sd r',Ek r->Ek r'->F [.obj (sV raw r),.obj (sV sd r')]=some (fU (em (cp r) (cp r') (eE r r'))):=by
 obtain⟨F1,c1,s1⟩:=X.tm;obtain⟨F2,c2,s2⟩:=X.sf;exact⟨_,fj (fun h G=>IN (X.top h G) fun ø ø e=>e) (PS P.w.params) (by decide+kernel) (by decide+kernel) (by kernel_rfl) (by kernel_rfl) (gc (n:=1) (mu X.ob X.top) X.fg X.aX (dC _) X.aL dD c1 (dR _) X.aK dS c2).2,
  fun raw r sd r' h h'=>fO rfl (BZ (az (size_le h h') (by decide)) ⟨_,rfl,rfl⟩ ⟨_,rfl,rfl⟩ (se r r') (s2 _ _ h) (s2 _ _ h') (fun ts z1 z2=>⟨s1 _ _ _ h z1 (az z2 (az (size_le h h') (by decide))),s1 _ _ _ h' z1 (az z2 (az (size_le h h') (by decide)))⟩) rfl rfl)⟩
noncomputable def Oy(xs:List V):Option (List V):=(one? xs).bind fun x=>x.jO.bind fun l=>if l.length<=1000 then some (QO l)else none
theorem bG.made:Dt P 2 161 Oy where
 ok:=fun hx hv Qn hs he=>by
  have F:=PG P.w.params;refine Ds (n:=0) (mu X.ob X.top) (K':=DO) (fI:=116) (fd:=fdOf im) (ps:=IH) (F0:=(DP (P:=P) (n:=0) (C:=161) (N:=160) (mN:=MD P.w.params) (YZ:=2264) (Y0:=2265) (mu X.ob X.top) X.sE X.cA X.zx (fun h G=>⟨Qs P.w.params,_,E3 X.top h G,Bp _,Yx _⟩) (fun h G=>⟨Qs P.w.params,_,E3 X.top h G,Bp _,Yy _⟩)).1) (F:=Oy) hx hv Qn (MG _) (fun h G=>?_) (fun h G=>?_) F.body F.gl F.bl F.clo F.bind (by rw[F.scope];exact ui.of (by decide+kernel)) (by decide+kernel) (by rw[F.scope];kernel_rfl) (by rw[F.scope];kernel_rfl) (x5 _) (fun x xs r hf=>?_) hs he
  ·obtain⟨⟨o,h1,h2,h3⟩,h4⟩:=IG (X.top h G) fun ø ø e=>e
   exact⟨o,h1,h2⟩
  ·obtain⟨⟨o,h1,h2,h3⟩,h4⟩:=IG (X.top h G) fun ø ø e=>e
   exact⟨⟨o,h1,h3⟩,h4⟩
  ·refine ak hf fun x hx hf=>ak hf fun l l7 hf=>eR hf fun hl e=>?_
   cases jq hx;cases V.kW l7;subst e;exact⟨rfl,rfl,Kb hl rfl rfl⟩
theorem bG.K4:∃F,aZ P 3 (.ref 209) F/\∀(bg:List sA) st nm,bg.length<=24->st.length<=24->(st.map (·.1)).Nodup->(∀e∈st,e.1<bg.length)->nm.length<=3->F [.list (bg.map sB),dV st,.str nm]=some (.obj (QO (DU (mK bg st nm) nm))):=
 ⟨_,fj (fun h G=>IW (X.top h G) fun ø ø e=>e) (P3 P.w.params) (by decide+kernel) (by decide+kernel) (by kernel_rfl) (by kernel_rfl) (mJ (n:=2) X.aX X.cA X.sE X.made).2,fun bg st nm h1 h2 h3 h4 h5=>fO rfl (DV h1 h2 h3 h4 h5 (fun l hl=>aw hl) rfl rfl rfl)⟩
end
end
theorem Vf:cJ 4 callerA:=⟨rfl,by decide,by decide⟩
theorem K5:∀(w:World) (aj:Heap) (mg mb:Str->Option Value) (hg:aj.Ns mainGlobals mg) (hb:aj.Ns builtinsNs mb) (nl:aj.NoLimit),(∀x:Str,x≠"__name__"->mb x=bootBuiltins x)->YP w aj->
  ∀(a:Addr) (o:Obj) (pm cd doc dV kV:Value),aj.get? a=some o->o.data= .func {docDef oA.name oA.params oA.body oA.scope pm cd doc with defaults:=dV,kwdefaults:=kV}->aj.CodeRec cd oA.name->Dflts mg aj oA.params [] dV kV->
   ∃n F,aZ (IF RW.toRowW.prog w (Dq 161) (Dq.ok 161) aj mg mb hg hb nl) n (.ref a) F/\cJ n callerA/\∀ns:List Int,ns.length<=63->F [.list (ns.map .int)]=some (.bool true):=by
 intro w aj mg mb hg hb nl hB y a o pm cd doc dV kV ho hd hc hD;have e0:oA.params.defaults=[]:=by kernel_rfl
 obtain rfl:dV= .none:=by
  rcases hD.pos with h|h
  ·exact h.2
  ·exact absurd e0 h.1
 obtain rfl:kV= .none:=by
  rcases hD.kw with h|h
  ·exact h.2
  ·exact absurd rfl h.1
 have X:=Qt w aj mg mb hg hb nl hB y;have hG:∀h,(IF RW.toRowW.prog w (Dq 161) (Dq.ok 161) aj mg mb hg hb nl).G h->∀b o,aj.get? b=some o->h.get? b=some o:=fun h G=>G
 generalize IF RW.toRowW.prog w (Dq 161) (Dq.ok 161) aj mg mb hg hb nl=P at X hG ⊢;obtain⟨F1,c1,s1⟩:=X.Vd;obtain⟨F2,c2,s2⟩:=X.K3;obtain⟨F3,c3,s3⟩:=X.Rm UE;obtain⟨F4,c4,s4⟩:=X.Rn;obtain⟨F5,c5,s5⟩:=X.Fw;obtain⟨F6,c6,s6⟩:=X.K4;obtain⟨F7,c7,s7⟩:=X.Nv;obtain⟨F8,c8,s8⟩:=X.Eh;obtain⟨F9,c9,s9⟩:=X.zR;obtain⟨R0,U9,Em⟩:=X.Ve;obtain⟨R1,Va,Hc⟩:=X.Hb;obtain⟨R2,Vb,CN⟩:=X.tm;have W:=mu X.ob X.top;have hH:∀ns:List Int,ns.length<=63->U8 ns F1 F2 F3 F4 F5 F6 F7 F8 F9 R0 R1 R2:=fun ns zT=>by
  obtain⟨its,hg,uA⟩:=s1 ns zT;obtain⟨SP,hSP,RH⟩:=s3 (nc ns);have YX:=s2 _ _ _ _ (K2 (M:=UE) hg (fun e he=>hSP e.2.1 e.2.2 (hg.ok e he).2.1 (hg.ok e he).2.2.1) (Ox P.w.params));have V4:=fun(w:Nat) (hw:w<3)=>Kq (total:=nc ns) hg (Ox P.w.params) hw
  generalize vN (nc ns) (MB P.w.params) its=bg at*;have hl:=(V4 0 (by decide)).1;have Zo:=(V4 0 (by decide)).2.1;obtain⟨en1,en2,en3⟩:=El bg hl;have hT:=fun(w:Nat) (hw:w<3)=>Rk (V4 w hw).2.2
  have hN:=fun(w:Nat) (hw:w<3)=>(iY hw (nc ns)).1
  exact⟨_,_,_,_,fun w=>.str (aH w (nc ns)),fun w=>sV (.str (DU (Kn (aH w (nc ns)) bg).2 (aH w (nc ns)))) (Kn (aH w (nc ns)) bg).2,fun w=>(Kn (aH w (nc ns)) bg).2,
   uA,RH its hg,YX,s4 bg (az hl (by decide)),s5 _,fun w hw=>(s6 bg _ _ hl en1 en2 en3 (hN w hw).len).trans (by rw[BL Zo (hN w hw).ne,<-Rj (hN w hw)]),fun w hw=>(s7 its w hg).trans (congrArg some (hT w hw).1),
   fun w hw=>rfl,fun w hw=>(hT w hw).2.jN,fun w t hw h0 h8=>CN _ _ t (hT w hw).2 h0 (az h8 (by decide)),fun a b ha hb=>s8 _ _ _ _ (hT a ha).2 (hT b hb).2,fun a b ha hb=>s9 _ _ _ _,fun a b ha hb=>Em _ _ _ _ (hT a ha).2 (hT b hb).2,fun a b ha hb=>Hc _ _ _ _ (hT a ha).2 (hT b hb).2⟩
 have Vg:∀ns:List Int,ns.length<=63->(B7 (P:=P) (n:=3) W X.vH X.r6 X.r7 (c1.pU 2) X.mD X.mF (c2.pU 1) X.pI X.pK (c3.pU 1) X.pJ X.pL c4 X.j1 X.j3 (c5.pU 2) X.aX X.fg X.iH X.vI X.mE X.mG c6 X.oe X.og (c7.pU 2) (zy _) X.vL zz (c8.pU 1) (vJ _) X.qB vK (c9.pU 2) (fH _) X.dm fJ (U9.pU 1) (fh _) X.cY fi (Va.pU 1) (dC _) X.aL dD (Vb.pU 2)).1 (nf [.list (ns.map .int)])=some (.bool true):=fun ns zT=>Nt (hH ns zT) zT rfl
 have hB:My P 3 B6 (dW (aO pq.main.body 69)) (B7 (P:=P) (n:=3) W X.vH X.r6 X.r7 (c1.pU 2) X.mD X.mF (c2.pU 1) X.pI X.pK (c3.pU 1) X.pJ X.pL c4 X.j1 X.j3 (c5.pU 2) X.aX X.fg X.iH X.vI X.mE X.mG c6 X.oe X.og (c7.pU 2) (zy _) X.vL zz (c8.pU 1) (vJ _) X.qB vK (c9.pU 2) (fH _) X.dm fJ (U9.pU 1) (fh _) X.cY fi (Va.pU 1) (dC _) X.aL dD (Vb.pU 2)).1:=x5 _;generalize(B7 (P:=P) (n:=3) W X.vH X.r6 X.r7 (c1.pU 2) X.mD X.mF (c2.pU 1) X.pI X.pK (c3.pU 1) X.pJ X.pL c4 X.j1 X.j3 (c5.pU 2) X.aX X.fg X.iH X.vI X.mE X.mG c6 X.oe X.og (c7.pU 2) (zy _) X.vL zz (c8.pU 1) (vJ _) X.qB vK (c9.pU 2) (fH _) X.dm fJ (U9.pU 1) (fh _) X.cY fi (Va.pU 1) (dC _) X.aL dD (Vb.pU 2)).1=f at Vg hB;refine⟨4,fun xs=>if xs.length=1 then f (nf xs)else none,aZ.fnT (n:=3) (K:=B6) (ps:=[Vl]) (body:=dW (aO pq.main.body 69)) (fun h G=>⟨⟨o,hG h G _ _ ho,hd⟩,?_⟩) rfl rfl rfl rfl (fun vs h=>by
  obtain⟨v,rfl⟩:=List.length_eq_one_iff.mp h;rfl) (ui.of (by
  show LM B6 (kA (aO pq.main.body 69)) _=true
  decide+kernel)) (by decide+kernel) (by
  show(kA (aO pq.main.body 69)).isCoroutine=false
  kernel_rfl) (by
  show(kA (aO pq.main.body 69)).isGenerator=false
  kernel_rfl) (by assumption),Vf,fun ns zT=>?_⟩
 ·exact hc.keeps (hG h G)
 ·show(if 1=1 then f (nf [.list (ns.map .int)])else none)=_
  rw[aw rfl,Vg ns zT]
theorem all_holds:PySem.Challenge.rw_sl0032_02.Holds:=top_holds prom (Mi (Dq 161) (Dq.ok 161) K5)
end
end Mine
theorem PySem.Challenge.cw_sl0032_02_holds : PySem.Challenge.rw_sl0032_02.Holds :=
  Mine.all_holds
