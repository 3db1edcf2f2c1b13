import PyProof.Rows.All
import PyProof.DefCall
import PyProof.ListNew
import PyProof.Rows.CallKwBuiltin
import KE.KNest
import KE.KLam
import KE.KSortKey
import KE.KRevSl
import KE.KSortTup
import KE.KSuper
import Wide.FinOn
import OpenK.AllK
import Wide.All
import Lean
import PySem.Challenge.RW_xr0025_02
set_option Elab.async false
set_option maxRecDepth 100000
set_option maxHeartbeats 8000000
set_option linter.unusedVariables false
set_option linter.unusedSectionVars false
section
namespace Mine
noncomputable def aa:=@_root_.List.mem_append_right
noncomputable def af:=@_root_.List.mem_append_left
noncomputable def ah:=@_root_.PySem.wpAny_bind
noncomputable def ai:=@_root_.List.mem_cons_of_mem
noncomputable def aj:=@_root_.List.mem_cons_self
noncomputable def ak:=@_root_.PySem.wpAny_pure
noncomputable def ao:=@_root_.List.mem_singleton
noncomputable def aq:=@_root_.if_neg
noncomputable def au:=@_root_.List.mem_append
noncomputable def ay:=@_root_.if_pos
noncomputable def az:=@_root_.List.length_map
noncomputable def aA:=@_root_.PySem.Heap.get?_push_of_some
noncomputable def aE:=@_root_.List.mem_map
noncomputable def aG:=@_root_.List.mem_cons
noncomputable def aH:=@_root_.List.append_assoc
noncomputable def aI:=@_root_.PySem.Heap.get?_push_size
noncomputable def aJ:=@_root_.List.nodup_append
noncomputable def aK:=@_root_.List.size_toArray
noncomputable def aL:=@_root_.List.mem_range
noncomputable def aM:=@_root_.List.getElem?_eq_some_iff
noncomputable def aQ:=@_root_.List.getElem?_map
noncomputable def aS:=@_root_.Option.map_eq_some_iff
noncomputable def aU:=@_root_.List.map_cons
noncomputable def aV:=@_root_.List.mem_of_getElem?
noncomputable def aX:=@_root_.List.getElem?_eq_getElem
noncomputable def aY:=@_root_.beq_eq_false_iff_ne
noncomputable def aZ:=@_root_.List.perm_append_comm
noncomputable def bf:=@_root_.List.append_nil
noncomputable def bg:=@_root_.List.length_cons
noncomputable def bh:=@_root_.List.map_congr_left
noncomputable def bl:=@_root_.List.length_append
noncomputable def bq:=@_root_.List.map_append
noncomputable def br:=@_root_.List.map_map
noncomputable def bu:=@_root_.Bool.false_eq_true
noncomputable def bw:=@_root_.PySem.wpAny_holding
noncomputable def bx:=@_root_.PySem.wpAny_mono
noncomputable def bz:=@_root_.List.lookup_cons
noncomputable def bA:=@_root_.List.getD_eq_getElem?_getD
noncomputable def bB:=@_root_.decide_eq_false
noncomputable def bC:=@_root_.Nat.le_trans
noncomputable def bD:=@_root_.List.sum_cons
noncomputable def bE:=@_root_.Option.some.inj
noncomputable def bF:=@_root_.Nat.le_refl
noncomputable def bG:=@_root_.Array.length_toList
noncomputable def bH:=@_root_.PySem.Heap.lt_size
noncomputable def bK:=@_root_.List.mem_flatMap
noncomputable def bL:=@_root_.Int.toNat_natCast
noncomputable def bM:=@_root_.List.take_add_one
noncomputable def bN:=@_root_.List.find?_cons
noncomputable def bO:=@_root_.List.length_nil
noncomputable def bP:=@_root_.List.take_length
noncomputable def bQ:=@_root_.List.flatMap_cons
noncomputable def bR:=@_root_.Nat.zero_le
noncomputable def bS:=@_root_.PySem.wpAny_of_eq
noncomputable def bT:=@_root_.List.pairwise_cons
noncomputable def bU:=@_root_.decide_eq_true
noncomputable def bV:=@_root_.List.nodup_cons
noncomputable def bW:=@_root_.List.filter_cons_of_pos
noncomputable def bX:=@_root_.List.filter_cons_of_neg
noncomputable def bY:=@_root_.PySem.wpAny_standAt
noncomputable def bZ:=@_root_.List.cons.inj
noncomputable def b7:=@_root_.Bool.false_ne_true
noncomputable def b8:=@_root_.Bool.and_eq_true
noncomputable def b9:=@_root_.PySem.Heap.SameBut.update
noncomputable def cg:=@_root_.if_false
noncomputable def cj:=@_root_.List.filterMap_cons_some
noncomputable def ck:=@_root_.List.length_eq_zero_iff
noncomputable def cu:=@_root_.PySem.wpAny_loadName_local
noncomputable def cy:=@_root_.List.mem_reverse
noncomputable def cz:=@_root_.Nat.ne_of_lt
noncomputable def cA:=@_root_.PySem.W.looks_findIn
noncomputable def cB:=@_root_.List.filter_eq_nil_iff
noncomputable def cC:=@_root_.PySem.Calls.callWith_builtin
noncomputable def cD:=@_root_.PySem.wpAny_assign_Name
noncomputable def cE:=@_root_.PySem.wpAny_newObj_type
noncomputable def cF:=@_root_.decide_eq_true_eq
noncomputable def cG:=@_root_.of_decide_eq_true
noncomputable def cH:=@_root_.List.mem_filter
noncomputable def cI:=@_root_.beq_iff_eq
noncomputable def cJ:=@_root_.Int.natCast_add
noncomputable def cK:=@_root_.List.foldl_cons
noncomputable def cL:=@_root_.PySem.wpAny_Call_Name_kw
noncomputable def cM:=@_root_.PySem.Txt.slice_le
noncomputable def cN:=@_root_.List.lookup_append
noncomputable def cO:=@_root_.List.any_eq_true
noncomputable def cP:=@_root_.PySem.sizeLine_eq
noncomputable def cQ:=@_root_.PySem.wpAny_loadPart
noncomputable def cR:=@_root_.List.getElem?_range
noncomputable def cS:=@_root_.List.sum_append_nat
noncomputable def cT:=@_root_.List.take_of_length_le
noncomputable def cU:=@_root_.PySem.strLen_append
noncomputable def cV:=@_root_.PySem.wpAny_call_entry
noncomputable def cW:=@_root_.PySem.Heap.get?_update_self
noncomputable def cX:=@_root_.List.getElem?_eq_none
noncomputable def cY:=@_root_.Option.isSome_iff_exists
noncomputable def cZ:=@_root_.PySem.F.plainAttrs_list
noncomputable def c7:=@_root_.PySem.evalPart_none
noncomputable def c8:=@_root_.List.flatMap_append
noncomputable def c9:=@_root_.PySem.wpAny_items_cons
noncomputable def dc:=@_root_.PySem.wpAny_rule
noncomputable def dg:=@_root_.PySem.wpAny_field
noncomputable def dh:=@_root_.PySem.wpAny_Constant_str
noncomputable def di:=@_root_.PySem.slot_listiter_next
noncomputable def dj:=@_root_.PyProof.Rows.assignInOrder_cons
noncomputable def dm:=@_root_.PySem.wpAny_execs_nil
noncomputable def dw:=@_root_.List.forIn_cons
noncomputable def dz:=@_root_.List.range_succ
noncomputable def dB:=@_root_.PySem.Calls.Name_function_global
noncomputable def dD:=@_root_.PySem.evalPart_some
noncomputable def dF:=@_root_.PySem.wpAny_call
noncomputable def dG:=@_root_.PySem.typeIs_str
noncomputable def dH:=@_root_.PySem.Heap.get?_none_of_le
noncomputable def dI:=@_root_.List.all_eq_true
noncomputable def dJ:=@_root_.List.filter_cons
noncomputable def dK:=@_root_.decide_eq_decide
noncomputable def dM:=@_root_.List.filterMap_cons_none
noncomputable def dN:=@_root_.PySem.wpAny_Call_method_lateS
noncomputable def dO:=@_root_.decide_eq_false_iff_not
noncomputable def dP:=@_root_.Nat.lt_irrefl
noncomputable def dR:=@_root_.PySem.Heap.IsSliceOf.new
noncomputable def dU:=@_root_.PySem.wpAny_Slice
noncomputable def dW:=@_root_.List.foldl_append
noncomputable def dX:=@_root_.List.map_nil
noncomputable def dY:=@_root_.Array.toList_map
end Mine
end
section
open PySem PySem.W PyProof.Rows
namespace Mine
noncomputable def fE (p:Program) (w:World) (N:Nat):Option Shared :=
 ((Fast.tw10274390034422433532 Fast.tw14364793385576792824 (opening p) w N (Fast.tw1435165496053646825 (opening p)).1 (Fast.tw1435165496053646825 (opening p)).2).bind (Fast.tw14289696077712309145 p)).bind fun dZ =>
   match dZ.heap.isNs mainGlobals && dZ.gens.size == 0 with
   | true=>(Fast.tw14082659384304107361 Fast.tw14364793385576792824 p w dZ.heap.objs.size (Fast.tw8920871248978507458 dZ.heap mainGlobals "__annotations__") N dZ (topStub p)).bind fun ee=>match staticsOk (importedModules p.main.body) dZ.heap ee.heap && namesBound p ee.heap && gensDone ee && laidKept dZ.heap ee.heap with
     | true=>some ee
     | false=>none
   | false=>none
theorem Bv {p:Program} {w:World} {N:Nat}:openEnds treeTable p w N=fE p w N:=by
 unfold openEnds fencedOpening fE;rw [<- Fast.te10274390034422433532,<- Fast.te14364793385576792824,<- Fast.te1435165496053646825,<- Fast.te14289696077712309145,<- Fast.te14082659384304107361,<- Fast.te8920871248978507458]
 rfl
theorem zL {p q:Program} {loose:List Str} {Xt:Shared->Bool} {α:Type} {Yf:Shared->α} {Ya:World->α} {N:Nat} {g0:Bool} (h:∀ w,(fE p w N).map (fun s=>Fast.tw4187177175401517315 q loose (importedModules p.main.body) Xt g0 s)=some (openGood q loose))
  (h':∀ w,(fE p w N).map Yf=some (Ya w)):LeftO p q loose Xt Yf Ya N g0:=fun w=>by
 have a:=h w;have b:=h' w;rw [<- Bv,<- Fast.te4187177175401517315] at a;rw [<- Bv] at b;obtain ⟨s,e,x⟩:=aS.mp a;rw [e] at b ⊢;exact congrArg some (Prod.ext x (bE b))
section
local macro_rules | `(tactic| refine $e)=>`(tactic| assumption)
theorem hx0 (h:PySem.Challenge.rw_xr0025_02.row.Holds):PySem.Challenge.rw_xr0025_02.row.Holds:=by x_head
end
noncomputable def yM:List Str:=[Str.ofString "_Accumulator", Str.ofString "insort_right", Str.ofString "bisect_right", Str.ofString "insort_left", Str.ofString "bisect_left", Str.ofString "IPV4_RE"]
theorem hl1:∀ w,(fE PySem.Challenge.rw_xr0025_02.row.toRowW.prog w 3526).map (fun s=>Fast.tw4187177175401517315 hx0.view_1 yM (importedModules PySem.Challenge.rw_xr0025_02.row.toRowW.prog.main.body) (fun s=>xlAt hx0.view_1 [] s && recOk (RowW.records PySem.Challenge.rw_xr0025_02.row.toRowW) s) true s)=some (openGood hx0.view_1 yM):=fun w=>by kernel_rfl
theorem hl2:∀ w,(fE PySem.Challenge.rw_xr0025_02.row.toRowW.prog w 3526).map (fun s=>([0,1,2,3,4,5,6,7,8,9,10,11,12,13,14,15,32,35,40,41,42,43,44,45,46,47,48,49,50,51,52,53,54,55,56,57,58,59,60,61,62,63,64,65,66,67,68,69,70,71,72,73,74,75,76,77,78,79,80,81,82,83,84,85,86,87,88,89,90,91,92,93,94,95,96,97,98,99,100,101,102,103,104,105,106,107,108,109,110,111,112,113,116,117,118,119,120,121,122,123,124,125,126,127,128,129,130,131,132,133,134,135,136,137,138,139,140,141,142,143,144,145,146,147,148,149,150,151,155,156,157,158,159,160,161,162,163,164,165,166,167,168,169,170,171,172,173,174,175,176,177,185,186,187,188,189,190,191,192,193,194,195,196,197,198,199,200,201,202,203,204,205,206,207,208,209,210,211,212,213,214,215,216,217,218,219,220,221,222,223,224,225,226,227,228,229,230,231,232,233,234,235,236,237,238,239,240,241,242,243,244,245,246,247,248,249,250,251,252,253,256,257,258,259,260,261,262,263,264,265,266,267,268,269,270,271,272,273,274,275,276,277,278,279,280,281,282,283,284,285,286,287,288,289,290,291,292,293,294,295,296,297,298,299,300,301,302,303,304,305,306,307,308,309,310,311,312,313,314,315,316,317,318,319,320,321,322,323,324,325,326,327,328,329]:List Addr).map s.heap.get?)=some ((hx0.heap_1 w.params).map fun p=>some p.2):=fun w=>by kernel_rfl
local macro_rules | `(tactic| k_head)=>`(tactic| x_head)
local macro_rules | `(tactic| o_law)=>`(tactic| refine' holds_law (by kernel_rfl) fun said=>?_)
local macro_rules | `(tactic| refine $e)=>`(tactic| (refine' $e;(case hl=>exact zL hl1 hl2)))
open_top hx1 for PySem.Challenge.rw_xr0025_02
end Mine
end
section
set_option tactic.hygienic false
namespace Mine
theorem o0_2 {p0 p1 G:Prop} (h:p0/\p1) (k:p0->p1->G):G:=k h.1 h.2
theorem o0_3 {p0 p1 p2 G:Prop} (h:p0/\p1/\p2) (k:p0->p1->p2->G):G:=k h.1 h.2.1 h.2.2
theorem o0_4 {p0 p1 p2 p3 G:Prop} (h:p0/\p1/\p2/\p3) (k:p0->p1->p2->p3->G):G:=k h.1 h.2.1 h.2.2.1 h.2.2.2
theorem o0_5 {p0 p1 p2 p3 p4 G:Prop} (h:p0/\p1/\p2/\p3/\p4) (k:p0->p1->p2->p3->p4->G):G:=k h.1 h.2.1 h.2.2.1 h.2.2.2.1 h.2.2.2.2
theorem o0_6 {p0 p1 p2 p3 p4 p5 G:Prop} (h:p0/\p1/\p2/\p3/\p4/\p5) (k:p0->p1->p2->p3->p4->p5->G):G:=k h.1 h.2.1 h.2.2.1 h.2.2.2.1 h.2.2.2.2.1 h.2.2.2.2.2
theorem o1_2.{u0} {α0:Sort u0} {p0:α0->Prop} {G:Prop} (h:∃ a:α0,p0 a) (k:∀ (a:α0),p0 a->G):G:=h.elim fun a h=>k a h
theorem o1_3.{u0} {α0:Sort u0} {p0 p1:α0->Prop} {G:Prop} (h:∃ a:α0,p0 a/\p1 a) (k:∀ (a:α0),p0 a->p1 a->G):G:=h.elim fun a h=>k a h.1 h.2
theorem o1_4.{u0} {α0:Sort u0} {p0 p1 p2:α0->Prop} {G:Prop} (h:∃ a:α0,p0 a/\p1 a/\p2 a) (k:∀ (a:α0),p0 a->p1 a->p2 a->G):G:=h.elim fun a h=>k a h.1 h.2.1 h.2.2
theorem o1_5.{u0} {α0:Sort u0} {p0 p1 p2 p3:α0->Prop} {G:Prop} (h:∃ a:α0,p0 a/\p1 a/\p2 a/\p3 a) (k:∀ (a:α0),p0 a->p1 a->p2 a->p3 a->G):G:=h.elim fun a h=>k a h.1 h.2.1 h.2.2.1 h.2.2.2
theorem o2_3.{u0,u1} {α0:Sort u0} {α1:Sort u1} {p0:α0->α1->Prop} {G:Prop} (h:∃ a:α0,∃ b:α1,p0 a b) (k:∀ (a:α0) (b:α1),p0 a b->G):G:=h.elim fun a h=>h.elim fun b h=>k a b h
theorem o2_4.{u0,u1} {α0:Sort u0} {α1:Sort u1} {p0 p1:α0->α1->Prop} {G:Prop} (h:∃ a:α0,∃ b:α1,p0 a b/\p1 a b) (k:∀ (a:α0) (b:α1),p0 a b->p1 a b->G):G:=h.elim fun a h=>h.elim fun b h=>k a b h.1 h.2
theorem o2_5.{u0,u1} {α0:Sort u0} {α1:Sort u1} {p0 p1 p2:α0->α1->Prop} {G:Prop} (h:∃ a:α0,∃ b:α1,p0 a b/\p1 a b/\p2 a b) (k:∀ (a:α0) (b:α1),p0 a b->p1 a b->p2 a b->G):G:=h.elim fun a h=>h.elim fun b h=>k a b h.1 h.2.1 h.2.2
theorem o2_6.{u0,u1} {α0:Sort u0} {α1:Sort u1} {p0 p1 p2 p3:α0->α1->Prop} {G:Prop} (h:∃ a:α0,∃ b:α1,p0 a b/\p1 a b/\p2 a b/\p3 a b) (k:∀ (a:α0) (b:α1),p0 a b->p1 a b->p2 a b->p3 a b->G):G:=h.elim fun a h=>h.elim fun b h=>k a b h.1 h.2.1 h.2.2.1 h.2.2.2
theorem o2_7.{u0,u1} {α0:Sort u0} {α1:Sort u1} {p0 p1 p2 p3 p4:α0->α1->Prop} {G:Prop} (h:∃ a:α0,∃ b:α1,p0 a b/\p1 a b/\p2 a b/\p3 a b/\p4 a b) (k:∀ (a:α0) (b:α1),p0 a b->p1 a b->p2 a b->p3 a b->p4 a b->G):G:=h.elim fun a h=>h.elim fun b h=>k a b h.1 h.2.1 h.2.2.1 h.2.2.2.1 h.2.2.2.2
theorem o2_8.{u0,u1} {α0:Sort u0} {α1:Sort u1} {p0 p1 p2 p3 p4 p5:α0->α1->Prop} {G:Prop} (h:∃ a:α0,∃ b:α1,p0 a b/\p1 a b/\p2 a b/\p3 a b/\p4 a b/\p5 a b) (k:∀ (a:α0) (b:α1),p0 a b->p1 a b->p2 a b->p3 a b->p4 a b->p5 a b->G):G:=h.elim fun a h=>h.elim fun b h=>k a b h.1 h.2.1 h.2.2.1 h.2.2.2.1 h.2.2.2.2.1 h.2.2.2.2.2
theorem o2_9.{u0,u1} {α0:Sort u0} {α1:Sort u1} {p0 p1 p2 p3 p4 p5 p6:α0->α1->Prop} {G:Prop} (h:∃ a:α0,∃ b:α1,p0 a b/\p1 a b/\p2 a b/\p3 a b/\p4 a b/\p5 a b/\p6 a b) (k:∀ (a:α0) (b:α1),p0 a b->p1 a b->p2 a b->p3 a b->p4 a b->p5 a b->p6 a b->G):G:=h.elim fun a h=>h.elim fun b h=>k a b h.1 h.2.1 h.2.2.1 h.2.2.2.1 h.2.2.2.2.1 h.2.2.2.2.2.1 h.2.2.2.2.2.2
theorem o3_4.{u0,u1,u2} {α0:Sort u0} {α1:Sort u1} {α2:Sort u2} {p0:α0->α1->α2->Prop} {G:Prop} (h:∃ a:α0,∃ b:α1,∃ c:α2,p0 a b c) (k:∀ (a:α0) (b:α1) (c:α2),p0 a b c->G):G:=h.elim fun a h=>h.elim fun b h=>h.elim fun c h=>k a b c h
theorem o3_5.{u0,u1,u2} {α0:Sort u0} {α1:Sort u1} {α2:Sort u2} {p0 p1:α0->α1->α2->Prop} {G:Prop} (h:∃ a:α0,∃ b:α1,∃ c:α2,p0 a b c/\p1 a b c) (k:∀ (a:α0) (b:α1) (c:α2),p0 a b c->p1 a b c->G):G:=h.elim fun a h=>h.elim fun b h=>h.elim fun c h=>k a b c h.1 h.2
theorem o3_6.{u0,u1,u2} {α0:Sort u0} {α1:Sort u1} {α2:Sort u2} {p0 p1 p2:α0->α1->α2->Prop} {G:Prop} (h:∃ a:α0,∃ b:α1,∃ c:α2,p0 a b c/\p1 a b c/\p2 a b c) (k:∀ (a:α0) (b:α1) (c:α2),p0 a b c->p1 a b c->p2 a b c->G):G:=h.elim fun a h=>h.elim fun b h=>h.elim fun c h=>k a b c h.1 h.2.1 h.2.2
theorem o3_7.{u0,u1,u2} {α0:Sort u0} {α1:Sort u1} {α2:Sort u2} {p0 p1 p2 p3:α0->α1->α2->Prop} {G:Prop} (h:∃ a:α0,∃ b:α1,∃ c:α2,p0 a b c/\p1 a b c/\p2 a b c/\p3 a b c) (k:∀ (a:α0) (b:α1) (c:α2),p0 a b c->p1 a b c->p2 a b c->p3 a b c->G):G:=h.elim fun a h=>h.elim fun b h=>h.elim fun c h=>k a b c h.1 h.2.1 h.2.2.1 h.2.2.2
theorem o3_8.{u0,u1,u2} {α0:Sort u0} {α1:Sort u1} {α2:Sort u2} {p0 p1 p2 p3 p4:α0->α1->α2->Prop} {G:Prop} (h:∃ a:α0,∃ b:α1,∃ c:α2,p0 a b c/\p1 a b c/\p2 a b c/\p3 a b c/\p4 a b c) (k:∀ (a:α0) (b:α1) (c:α2),p0 a b c->p1 a b c->p2 a b c->p3 a b c->p4 a b c->G):G:=h.elim fun a h=>h.elim fun b h=>h.elim fun c h=>k a b c h.1 h.2.1 h.2.2.1 h.2.2.2.1 h.2.2.2.2
theorem o3_9.{u0,u1,u2} {α0:Sort u0} {α1:Sort u1} {α2:Sort u2} {p0 p1 p2 p3 p4 p5:α0->α1->α2->Prop} {G:Prop} (h:∃ a:α0,∃ b:α1,∃ c:α2,p0 a b c/\p1 a b c/\p2 a b c/\p3 a b c/\p4 a b c/\p5 a b c) (k:∀ (a:α0) (b:α1) (c:α2),p0 a b c->p1 a b c->p2 a b c->p3 a b c->p4 a b c->p5 a b c->G):G:=h.elim fun a h=>h.elim fun b h=>h.elim fun c h=>k a b c h.1 h.2.1 h.2.2.1 h.2.2.2.1 h.2.2.2.2.1 h.2.2.2.2.2
theorem o4_6.{u0,u1,u2,u3} {α0:Sort u0} {α1:Sort u1} {α2:Sort u2} {α3:Sort u3} {p0 p1:α0->α1->α2->α3->Prop} {G:Prop} (h:∃ a:α0,∃ b:α1,∃ c:α2,∃ d:α3,p0 a b c d/\p1 a b c d) (k:∀ (a:α0) (b:α1) (c:α2) (d:α3),p0 a b c d->p1 a b c d->G):G:=h.elim fun a h=>h.elim fun b h=>h.elim fun c h=>h.elim fun d h=>k a b c d h.1 h.2
theorem o4_7.{u0,u1,u2,u3} {α0:Sort u0} {α1:Sort u1} {α2:Sort u2} {α3:Sort u3} {p0 p1 p2:α0->α1->α2->α3->Prop} {G:Prop} (h:∃ a:α0,∃ b:α1,∃ c:α2,∃ d:α3,p0 a b c d/\p1 a b c d/\p2 a b c d) (k:∀ (a:α0) (b:α1) (c:α2) (d:α3),p0 a b c d->p1 a b c d->p2 a b c d->G):G:=h.elim fun a h=>h.elim fun b h=>h.elim fun c h=>h.elim fun d h=>k a b c d h.1 h.2.1 h.2.2
theorem o4_8.{u0,u1,u2,u3} {α0:Sort u0} {α1:Sort u1} {α2:Sort u2} {α3:Sort u3} {p0 p1 p2 p3:α0->α1->α2->α3->Prop} {G:Prop} (h:∃ a:α0,∃ b:α1,∃ c:α2,∃ d:α3,p0 a b c d/\p1 a b c d/\p2 a b c d/\p3 a b c d) (k:∀ (a:α0) (b:α1) (c:α2) (d:α3),p0 a b c d->p1 a b c d->p2 a b c d->p3 a b c d->G):G:=h.elim fun a h=>h.elim fun b h=>h.elim fun c h=>h.elim fun d h=>k a b c d h.1 h.2.1 h.2.2.1 h.2.2.2
theorem o4_9.{u0,u1,u2,u3} {α0:Sort u0} {α1:Sort u1} {α2:Sort u2} {α3:Sort u3} {p0 p1 p2 p3 p4:α0->α1->α2->α3->Prop} {G:Prop} (h:∃ a:α0,∃ b:α1,∃ c:α2,∃ d:α3,p0 a b c d/\p1 a b c d/\p2 a b c d/\p3 a b c d/\p4 a b c d) (k:∀ (a:α0) (b:α1) (c:α2) (d:α3),p0 a b c d->p1 a b c d->p2 a b c d->p3 a b c d->p4 a b c d->G):G:=h.elim fun a h=>h.elim fun b h=>h.elim fun c h=>h.elim fun d h=>k a b c d h.1 h.2.1 h.2.2.1 h.2.2.2.1 h.2.2.2.2
theorem o4_10.{u0,u1,u2,u3} {α0:Sort u0} {α1:Sort u1} {α2:Sort u2} {α3:Sort u3} {p0 p1 p2 p3 p4 p5:α0->α1->α2->α3->Prop} {G:Prop} (h:∃ a:α0,∃ b:α1,∃ c:α2,∃ d:α3,p0 a b c d/\p1 a b c d/\p2 a b c d/\p3 a b c d/\p4 a b c d/\p5 a b c d) (k:∀ (a:α0) (b:α1) (c:α2) (d:α3),p0 a b c d->p1 a b c d->p2 a b c d->p3 a b c d->p4 a b c d->p5 a b c d->G):G:=h.elim fun a h=>h.elim fun b h=>h.elim fun c h=>h.elim fun d h=>k a b c d h.1 h.2.1 h.2.2.1 h.2.2.2.1 h.2.2.2.2.1 h.2.2.2.2.2
theorem o5_8.{u0,u1,u2,u3,u4} {α0:Sort u0} {α1:Sort u1} {α2:Sort u2} {α3:Sort u3} {α4:Sort u4} {p0 p1 p2:α0->α1->α2->α3->α4->Prop} {G:Prop} (h:∃ a:α0,∃ b:α1,∃ c:α2,∃ d:α3,∃ e:α4,p0 a b c d e/\p1 a b c d e/\p2 a b c d e) (k:∀ (a:α0) (b:α1) (c:α2) (d:α3) (e:α4),p0 a b c d e->p1 a b c d e->p2 a b c d e->G):G:=h.elim fun a h=>h.elim fun b h=>h.elim fun c h=>h.elim fun d h=>h.elim fun e h=>k a b c d e h.1 h.2.1 h.2.2
theorem o5_9.{u0,u1,u2,u3,u4} {α0:Sort u0} {α1:Sort u1} {α2:Sort u2} {α3:Sort u3} {α4:Sort u4} {p0 p1 p2 p3:α0->α1->α2->α3->α4->Prop} {G:Prop} (h:∃ a:α0,∃ b:α1,∃ c:α2,∃ d:α3,∃ e:α4,p0 a b c d e/\p1 a b c d e/\p2 a b c d e/\p3 a b c d e) (k:∀ (a:α0) (b:α1) (c:α2) (d:α3) (e:α4),p0 a b c d e->p1 a b c d e->p2 a b c d e->p3 a b c d e->G):G:=h.elim fun a h=>h.elim fun b h=>h.elim fun c h=>h.elim fun d h=>h.elim fun e h=>k a b c d e h.1 h.2.1 h.2.2.1 h.2.2.2
theorem o5_10.{u0,u1,u2,u3,u4} {α0:Sort u0} {α1:Sort u1} {α2:Sort u2} {α3:Sort u3} {α4:Sort u4} {p0 p1 p2 p3 p4:α0->α1->α2->α3->α4->Prop} {G:Prop} (h:∃ a:α0,∃ b:α1,∃ c:α2,∃ d:α3,∃ e:α4,p0 a b c d e/\p1 a b c d e/\p2 a b c d e/\p3 a b c d e/\p4 a b c d e) (k:∀ (a:α0) (b:α1) (c:α2) (d:α3) (e:α4),p0 a b c d e->p1 a b c d e->p2 a b c d e->p3 a b c d e->p4 a b c d e->G):G:=h.elim fun a h=>h.elim fun b h=>h.elim fun c h=>h.elim fun d h=>h.elim fun e h=>k a b c d e h.1 h.2.1 h.2.2.1 h.2.2.2.1 h.2.2.2.2
theorem o5_13.{u0,u1,u2,u3,u4} {α0:Sort u0} {α1:Sort u1} {α2:Sort u2} {α3:Sort u3} {α4:Sort u4} {p0 p1 p2 p3 p4 p5 p6 p7:α0->α1->α2->α3->α4->Prop} {G:Prop} (h:∃ a:α0,∃ b:α1,∃ c:α2,∃ d:α3,∃ e:α4,p0 a b c d e/\p1 a b c d e/\p2 a b c d e/\p3 a b c d e/\p4 a b c d e/\p5 a b c d e/\p6 a b c d e/\p7 a b c d e) (k:∀ (a:α0) (b:α1) (c:α2) (d:α3) (e:α4),p0 a b c d e->p1 a b c d e->p2 a b c d e->p3 a b c d e->p4 a b c d e->p5 a b c d e->p6 a b c d e->p7 a b c d e->G):G:=h.elim fun a h=>h.elim fun b h=>h.elim fun c h=>h.elim fun d h=>h.elim fun e h=>k a b c d e h.1 h.2.1 h.2.2.1 h.2.2.2.1 h.2.2.2.2.1 h.2.2.2.2.2.1 h.2.2.2.2.2.2.1 h.2.2.2.2.2.2.2
theorem o6_17.{u0,u1,u2,u3,u4,u5} {α0:Sort u0} {α1:Sort u1} {α2:Sort u2} {α3:Sort u3} {α4:Sort u4} {α5:Sort u5} {p0 p1 p2 p3 p4 p5 p6 p7 p8 p9 p10:α0->α1->α2->α3->α4->α5->Prop} {G:Prop} (h:∃ a:α0,∃ b:α1,∃ c:α2,∃ d:α3,∃ e:α4,∃ f:α5,p0 a b c d e f/\p1 a b c d e f/\p2 a b c d e f/\p3 a b c d e f/\p4 a b c d e f/\p5 a b c d e f/\p6 a b c d e f/\p7 a b c d e f/\p8 a b c d e f/\p9 a b c d e f/\p10 a b c d e f) (k:∀ (a:α0) (b:α1) (c:α2) (d:α3) (e:α4) (f:α5),p0 a b c d e f->p1 a b c d e f->p2 a b c d e f->p3 a b c d e f->p4 a b c d e f->p5 a b c d e f->p6 a b c d e f->p7 a b c d e f->p8 a b c d e f->p9 a b c d e f->p10 a b c d e f->G):G:=h.elim fun a h=>h.elim fun b h=>h.elim fun c h=>h.elim fun d h=>h.elim fun e h=>h.elim fun f h=>k a b c d e f h.1 h.2.1 h.2.2.1 h.2.2.2.1 h.2.2.2.2.1 h.2.2.2.2.2.1 h.2.2.2.2.2.2.1 h.2.2.2.2.2.2.2.1 h.2.2.2.2.2.2.2.2.1 h.2.2.2.2.2.2.2.2.2.1 h.2.2.2.2.2.2.2.2.2.2
theorem o8_14.{u0,u1,u2,u3,u4,u5,u6,u7} {α0:Sort u0} {α1:Sort u1} {α2:Sort u2} {α3:Sort u3} {α4:Sort u4} {α5:Sort u5} {α6:Sort u6} {α7:Sort u7} {p0 p1 p2 p3 p4 p5:α0->α1->α2->α3->α4->α5->α6->α7->Prop} {G:Prop} (h:∃ a:α0,∃ b:α1,∃ c:α2,∃ d:α3,∃ e:α4,∃ f:α5,∃ i:α6,∃ j:α7,p0 a b c d e f i j/\p1 a b c d e f i j/\p2 a b c d e f i j/\p3 a b c d e f i j/\p4 a b c d e f i j/\p5 a b c d e f i j) (k:∀ (a:α0) (b:α1) (c:α2) (d:α3) (e:α4) (f:α5) (i:α6) (j:α7),p0 a b c d e f i j->p1 a b c d e f i j->p2 a b c d e f i j->p3 a b c d e f i j->p4 a b c d e f i j->p5 a b c d e f i j->G):G:=h.elim fun a h=>h.elim fun b h=>h.elim fun c h=>h.elim fun d h=>h.elim fun e h=>h.elim fun f h=>h.elim fun i h=>h.elim fun j h=>k a b c d e f i j h.1 h.2.1 h.2.2.1 h.2.2.2.1 h.2.2.2.2.1 h.2.2.2.2.2
theorem o9_18.{u0,u1,u2,u3,u4,u5,u6,u7,u8} {α0:Sort u0} {α1:Sort u1} {α2:Sort u2} {α3:Sort u3} {α4:Sort u4} {α5:Sort u5} {α6:Sort u6} {α7:Sort u7} {α8:Sort u8} {p0 p1 p2 p3 p4 p5 p6 p7 p8:α0->α1->α2->α3->α4->α5->α6->α7->α8->Prop} {G:Prop} (h:∃ a:α0,∃ b:α1,∃ c:α2,∃ d:α3,∃ e:α4,∃ f:α5,∃ i:α6,∃ j:α7,∃ l:α8,p0 a b c d e f i j l/\p1 a b c d e f i j l/\p2 a b c d e f i j l/\p3 a b c d e f i j l/\p4 a b c d e f i j l/\p5 a b c d e f i j l/\p6 a b c d e f i j l/\p7 a b c d e f i j l/\p8 a b c d e f i j l) (k:∀ (a:α0) (b:α1) (c:α2) (d:α3) (e:α4) (f:α5) (i:α6) (j:α7) (l:α8),p0 a b c d e f i j l->p1 a b c d e f i j l->p2 a b c d e f i j l->p3 a b c d e f i j l->p4 a b c d e f i j l->p5 a b c d e f i j l->p6 a b c d e f i j l->p7 a b c d e f i j l->p8 a b c d e f i j l->G):G:=h.elim fun a h=>h.elim fun b h=>h.elim fun c h=>h.elim fun d h=>h.elim fun e h=>h.elim fun f h=>h.elim fun i h=>h.elim fun j h=>h.elim fun l h=>k a b c d e f i j l h.1 h.2.1 h.2.2.1 h.2.2.2.1 h.2.2.2.2.1 h.2.2.2.2.2.1 h.2.2.2.2.2.2.1 h.2.2.2.2.2.2.2.1 h.2.2.2.2.2.2.2.2
end Mine
end
section
open PySem PySem.W PySem.Calls PyProof.Rows
open PySem.W.X (tableObj)
set_option tactic.hygienic false
namespace Mine
theorem or5:∀ i,i<5->i=0\/i=1\/i=2\/i=3\/i=4:=by decide
inductive AV where
 | none | bool (b:Bool) | int (i:Int) | str (s:Str) | tup (l:List AV) | lst (l:List AV) | raw (v:Value) | rng (a b c:Int) | qn (c:Addr) (x:Str) | ob (o:Obj) (more:Frag)
mutual
inductive VR (h:Heap) (X:List Addr):Value->AV->Prop
 | none:VR h X .none .none
 | bool (b:Bool):VR h X (.bool b) (.bool b)
 | int (i:Int) (t:Tok):VR h X (.int i t) (.int i)
 | str (x:Str) (t:Tok):VR h X (.str x t) (.str x)
 | raw (v:Value):VR h X v (.raw v)
 | tup {a:Addr} {vs:List Value} {n:Nat} {l:List AV}:h.get? a=some ⟨.type "tuple", Option.none,.seq vs.toArray n,#[]⟩->a ∉ X->VRs h X vs l->VR h X (.ref a) (.tup l)
 | lst {a:Addr} {vs:List Value} {n:Nat} {l:List AV}:h.get? a=some ⟨.type "list", Option.none,.seq vs.toArray n,#[]⟩->a ∉ X->VRs h X vs l->VR h X (.ref a) (.lst l)
 | rng {r:Addr} {a b c:Int} {t u v:Tok}:IsRange h r a b c t u v->r ∉ X->VR h X (.ref r) (.rng a b c)
 | qn {r c d:Addr} {x:Str} {t:Tok} {o:Obj}:h.get? r=some ⟨.ref c,some d,.plain,#[]⟩->h.get? d=some o->PySem.W.lookIn (Str.ofString "text") o=some (some (.str x t))->r ∉ X->d ∉ X->VR h X (.ref r) (.qn c x)
 | ob {a:Addr} {o:Obj} {more:Frag}:h.get? a=some o->a ∉ X->(a == sysModules)=false->(∀ p ∈ more,h.get? p.1=some p.2/\p.1 ∉ X)->VR h X (.ref a) (.ob o more)
inductive VRs (h:Heap) (X:List Addr):List Value->List AV->Prop
 | nil:VRs h X [] []
 | cons {v:Value} {a:AV} {vs:List Value} {l:List AV}:VR h X v a->VRs h X vs l->VRs h X (v::vs) (a::l)
end
structure Stp (T D:List Addr) (h h':Heap):Prop where
 keep:∀ a o,h.get? a=some o->a ∉ D->a ∉ T->h'.get? a=some o
 tabs:∀ a ∈ T,∀ vs,h.get? a=some (tableObj vs)->TriplesOk vs.toList->∃ vs',h'.get? a=some (tableObj vs')/\TriplesOk vs'.toList/\∃ more,vs'=vs++more
theorem Stp.refl (T D:List Addr) (h:Heap):Stp T D h h:=⟨fun _ _ e _ _=>e,fun _ _ vs e t=>⟨vs,e,t,#[],by simp⟩⟩
theorem Stp.trans {T D D':List Addr} {h h' h'':Heap} (x:Stp T D h h') (y:Stp T D' h' h'') (hD:∀ a ∈ D',a ∈ D\/h.get? a=none):Stp T D h h'':=by
 refine ⟨fun a o e n t=>y.keep a o (x.keep a o e n t) (fun q=>?_) t,fun a ha vs e tr=>?_⟩
 ·rcases hD a q with z | z
  ·exact n z
  ·rw [z] at e;cases e
 ·refine o1_4 (x.tabs a ha vs e tr) fun m1 e1 t1 zz=>?_;refine o1_2 zz fun k1 q1=>?_;refine o1_4 (y.tabs a ha _ e1 t1) fun m2 e2 t2 zz=>?_;refine o1_2 zz fun k2 q2=>?_;exact ⟨m2,e2,t2,k1++k2,by rw [q2,q1,Array.append_assoc]⟩
theorem Stp.mono {T D D':List Addr} {h h':Heap} (x:Stp T D h h') (hD:∀ a ∈ D,a ∈ D'):Stp T D' h h':=⟨fun a o e n t=>x.keep a o e (fun q=>n (hD a q)) t,x.tabs⟩
theorem Stp.of_keeps {T:List Addr} {h h':Heap} (k:∀ a o,h.get? a=some o->h'.get? a=some o):Stp T [] h h' :=
 ⟨fun a o e _ _=>k a o e,fun a _ vs e t=>⟨vs,k a _ e,t,#[],by simp⟩⟩
theorem Stp.push (T:List Addr) (h:Heap) (o:Obj):Stp T [] h (h.push o):=.of_keeps fun _ _ e=>aA _ e
theorem Stp.extBut {T:List Addr} {a:Addr} {h h':Heap} (x:Heap.ExtBut a h h') (ha:a ∉ T):Stp T [a] h h' :=
 ⟨fun b o e n _=>x b o (fun q=>n (by simp [q])) e,fun b hb vs e t=>⟨vs,x b _ (fun q=>ha (q▸hb)) e,t,#[],by simp⟩⟩
theorem Stp.sameBut {T:List Addr} {a:Addr} {h h':Heap} (x:Heap.SameBut a h h') (ha:a ∉ T):Stp T [a] h h':=.extBut x.extBut ha
theorem Stp.fresh {T D:List Addr} {h h':Heap} (x:Stp T D h h') (hD:∀ a ∈ D,h.get? a=none):Stp T [] h h' :=
 ⟨fun a o e _ t=>x.keep a o e (fun q=>by rw [hD a q] at e;cases e) t,x.tabs⟩
noncomputable def jr (h:Heap) (a:Addr):Prop:=∃ o,h.get? a=some o
theorem jr.lt {h:Heap} {a:Addr} (x:jr h a):a<h.objs.size:=let ⟨_,e⟩:=x;bH e
theorem jr.ne {h:Heap} {a b:Addr} (x:jr h a) (y:h.get? b=none):a≠b:=fun e=>by refine o1_2 x fun o q=>?_;clear x;rw [e,y] at q;cases q
theorem eH (h:Heap):h.get? h.objs.size=none:=by
 cases e:h.get? h.objs.size with
 | none=>rfl
 | some o=>exact absurd (bH e) (dP _)
theorem VR.both {X X':List Addr} {h h':Heap} (k:∀ a o,h.get? a=some o->a ∉ X->h'.get? a=some o/\a ∉ X') {v:Value} {a:AV} (r:VR h X v a):VR h' X' v a :=
 @VR.rec h X (fun v a _=>VR h' X' v a) (fun vs l _=>VRs h' X' vs l) .none (fun b=>.bool b) (fun i t=>.int i t) (fun x t=>.str x t) (fun v=>.raw v)
  (fun e n _ q=>.tup (k _ _ e n).1 (k _ _ e n).2 q) (fun e n _ q=>.lst (k _ _ e n).1 (k _ _ e n).2 q) (fun e n=>.rng (k _ _ e n).1 (k _ _ e n).2)
  (fun e e' l n n'=>.qn (k _ _ e n).1 (k _ _ e' n').1 l (k _ _ e n).2 (k _ _ e' n').2) (fun e n y m=>.ob (k _ _ e n).1 (k _ _ e n).2 y fun p hp=>k _ _ (m p hp).1 (m p hp).2) .nil (fun _ _ p q=>.cons p q) v a r
theorem VRs.ind {X:List Addr} {h:Heap} {P:List Value->List AV->Prop} (n:P [] []) (c:∀ v a vs l,VR h X v a->VRs h X vs l->P vs l->P (v::vs) (a::l)) {vs:List Value} {l:List AV} (r:VRs h X vs l):P vs l :=
 @VRs.rec h X (fun _ _ _=>True) (fun vs l _=>P vs l) trivial (fun _=>trivial) (fun _ _=>trivial) (fun _ _=>trivial) (fun _=>trivial) (fun _ _ _ _=>trivial) (fun _ _ _ _=>trivial) (fun _ _=>trivial) (fun _ _ _ _ _=>trivial) (fun _ _ _ _=>trivial)
  n (fun r rs _ q=>c _ _ _ _ r rs q) vs l r
theorem VRs.imp {h h':Heap} {X X':List Addr} (k:∀ v av,VR h X v av->VR h' X' v av) {vs:List Value} {l:List AV} (r:VRs h X vs l):VRs h' X' vs l :=
 r.ind .nil fun v a _ _ p _ q=>.cons (k v a p) q
theorem VR.stp {T D X:List Addr} {h h':Heap} (st:Stp T D h h') (hD:∀ a ∈ D,a ∈ X) (hT:∀ a ∈ T,a ∈ X) {v:Value} {a:AV} (r:VR h X v a):VR h' X v a :=
 r.both fun a o e n=>⟨st.keep a o e (fun z=>n (hD _ z)) (fun z=>n (hT _ z)),n⟩
theorem VRs.stp {T D X:List Addr} {h h':Heap} (st:Stp T D h h') (hD:∀ a ∈ D,a ∈ X) (hT:∀ a ∈ T,a ∈ X) {vs:List Value} {l:List AV} (r:VRs h X vs l):VRs h' X vs l :=
 r.imp fun _ _ q=>q.stp st hD hT
theorem VR.sub {X X':List Addr} {h:Heap} (hX:∀ a o,h.get? a=some o->a ∉ X->a ∉ X') {v:Value} {a:AV} (r:VR h X v a):VR h X' v a :=
 r.both fun a o e n=>⟨e,hX a o e n⟩
theorem VRs.sub {X X':List Addr} {h:Heap} (hX:∀ a o,h.get? a=some o->a ∉ X->a ∉ X') {vs:List Value} {l:List AV} (r:VRs h X vs l):VRs h X' vs l :=
 r.imp fun _ _ q=>q.sub hX
theorem VRs.length {h:Heap} {X:List Addr} {vs:List Value} {l:List AV} (r:VRs h X vs l):vs.length=l.length :=
 r.ind (P:=fun vs l=>vs.length=l.length) rfl fun _ _ _ _ _ _ e=>congrArg (· + 1) e
theorem VRs.get {h:Heap} {X:List Addr} {vs:List Value} {l:List AV} (r:VRs h X vs l):∀ {i:Nat} {a:AV},l[i]? = some a->∃ v,vs[i]? = some v/\VR h X v a :=
 r.ind (P:=fun vs l=>∀ {i:Nat} {a:AV},l[i]? = some a->∃ v,vs[i]? = some v/\VR h X v a) (fun e=>nomatch e) fun v a vs l p _ ih i b e=>by
  cases i with
  | zero=>exact ⟨v,rfl,bE (show some a=some b from e)▸p⟩
  | succ i=>exact ih (i:=i) e
theorem VRs.append {h:Heap} {X:List Addr} {vs:List Value} {l:List AV} {ws:List Value} {m:List AV} (r:VRs h X vs l) (q:VRs h X ws m):VRs h X (vs++ws) (l++m) :=
 r.ind (P:=fun vs l=>VRs h X (vs++ws) (l++m)) q fun _ _ _ _ p _ ih=>.cons p ih
theorem VRs.one {h:Heap} {X:List Addr} {v:Value} {a:AV} (p:VR h X v a):VRs h X [v] [a]:=.cons p .nil
inductive PRs {K:Type} (h:Heap) (X:List Addr):List (K×Value)->List (K×AV)->Prop
 | nil:PRs h X [] []
 | cons {k:K} {v:Value} {a:AV} {vs:List (K×Value)} {l:List (K×AV)}:VR h X v a->PRs h X vs l->PRs h X ((k,v)::vs) ((k,a)::l)
theorem PRs.imp {K:Type} {h h':Heap} {X X':List Addr} (k:∀ v av,VR h X v av->VR h' X' v av) {vs:List (K×Value)} {l:List (K×AV)} (r:PRs h X vs l):PRs h' X' vs l :=
 @PRs.rec K h X (fun vs l _=>PRs h' X' vs l) .nil (fun p _ q=>.cons (k _ _ p) q) vs l r
theorem PRs.stp {K:Type} {T D X:List Addr} {h h':Heap} (st:Stp T D h h') (hD:∀ a ∈ D,a ∈ X) (hT:∀ a ∈ T,a ∈ X) {vs:List (K×Value)} {l:List (K×AV)} (r:PRs h X vs l):PRs h' X vs l :=
 r.imp fun _ _ q=>q.stp st hD hT
theorem PRs.sub {K:Type} {X X':List Addr} {h:Heap} (hX:∀ a o,h.get? a=some o->a ∉ X->a ∉ X') {vs:List (K×Value)} {l:List (K×AV)} (r:PRs h X vs l):PRs h X' vs l :=
 r.imp fun _ _ q=>q.sub hX
inductive AO where
 | list (l:List AV)
 | eY (l:List (Str×AV))
 | pQ (l:List (Int×AV))
 | obj (c d:Addr) (kv:Option (Str×AV)) (sq:Option (List (Str×Str)))
 | fix (o:Obj)
noncomputable def AO.more:AO->List Addr
 | .obj _ d _ _=>[d]
 | _=>[]
noncomputable def foot (p:Addr×AO):List Addr:=p.1::p.2.more
noncomputable def fj (M:List (Addr×AO)):List Addr:=M.flatMap foot
structure Cx where
 prog:Program
 w:World
 K:Frag
 mg:Str->Option Value
 mb:Str->Option Value
 T:List Addr
 Dm:Addr
 qnC:Addr
 Z:Frag:=[]
noncomputable def Cx.Old (C:Cx) (a:Addr):Prop:=(∃ o,C.K.lookup a=some o)\/a=mainGlobals\/a=builtinsNs\/a=cStatics
structure Cx.Ok (C:Cx):Prop where
 old:∀ a,C.Old a->a ∉ C.T
 mb:∀ x:Str,x ≠ "__name__" -> C.mb x=bootBuiltins x
structure Bs (C:Cx) (h:Heap):Prop where
 K:C.K.In h
 g:h.Ns mainGlobals C.mg
 b:h.Ns builtinsNs C.mb
 lim:h.NoLimit
 tab:∀ t ∈ C.T,∃ vs,h.get? t=some (tableObj vs)/\TriplesOk vs.toList
theorem Bs.live {C:Cx} {h:Heap} (B:Bs C h) {a:Addr} (x:C.Old a):jr h a:=by
 rcases x with ⟨o,e⟩ | e | e | e
 ·exact ⟨o,B.K a o e⟩
 ·refine o3_5 B.g fun o _ _ q _=>?_;exact e▸⟨o,q⟩
 ·refine o3_5 B.b fun o _ _ q _=>?_;exact e▸⟨o,q⟩
 ·refine o1_3 B.lim fun mc hn _=>?_;refine o3_5 hn fun o _ _ q _=>?_;clear hn;exact e▸⟨o,q⟩
theorem Bs.iG {C:Cx} {h:Heap} (B:Bs C h) {a:Addr} (x:a ∈ C.T):jr h a:=let ⟨vs,e,_⟩:=B.tab a x;⟨_,e⟩
theorem Bs.stp {C:Cx} (ok:C.Ok) {D:List Addr} {h h':Heap} (B:Bs C h) (st:Stp C.T D h h') (hD:∀ a ∈ D,¬ C.Old a):Bs C h':=by
 have k:∀ a o,C.Old a->h.get? a=some o->h'.get? a=some o:=fun a o x e=>st.keep a o e (fun q=>hD a q x) (ok.old a x);refine ⟨fun a o e=>k a o (.inl ⟨o,e⟩) (B.K a o e),B.g.at' fun o e=>k _ o (.inr (.inl rfl)) e,B.b.at' fun o e=>k _ o (.inr (.inr (.inl rfl))) e,?_,fun t ht=>?_⟩
 ·refine o1_3 B.lim fun mc hn e=>?_;exact ⟨mc,hn.at' fun o e=>k _ o (.inr (.inr (.inr rfl))) e,e⟩
 ·refine o1_3 (B.tab t ht) fun vs e tr=>?_;refine o1_4 (st.tabs t ht vs e tr) fun vs' e' t' _=>?_;exact ⟨vs',e',t'⟩
noncomputable def gu (p:Str×Str):AV:=.tup [.str p.1,.str p.2]
noncomputable def Cc (sq:Option (List (Str×Str))) (vs:List Value) (k:Nat):Data:=match sq with
 | none=>.plain
 | some _=>.seq vs.toArray k
noncomputable def Aq (h:Heap) (X:List Addr) (d:Addr) (kv:Option (Str×AV)):Prop:=match kv with
 | none=>h.get? d=some ⟨.type "dict", none,.dict #[] 0,#[]⟩
 | some (y,a)=>∃ hs tk ep u,h.get? d=some ⟨.type "dict", none,.dict #[⟨hs,.str y tk,u⟩] ep,#[]⟩/\VR h X u a
noncomputable def OR (C:Cx) (h:Heap) (X:List Addr) (a:Addr):AO->Prop
 | .list l=>∃ vs n,h.get? a=some ⟨.type "list", none,.seq vs.toArray n,#[]⟩/\VRs h X vs l
 | .eY l=>∃ kvs,h.DictOf (PySem.strKind C.prog C.w) a kvs/\PRs h X kvs l
 | .pQ l=>∃ kvs,h.DictOf (PySem.intKind C.prog C.w) a kvs/\PRs h X kvs l
 | .obj c d kv sq=>(∃ vs k,h.get? a=some ⟨.ref c,some d,Cc sq vs k,#[]⟩/\∀ l,sq=some l->VRs h X vs (l.map gu))/\Aq h X d kv
 | .fix o=>h.get? a=some o
theorem pZ {prog:Program} {w:World} {K:Type} [DecidableEq K] {knd:KeyKind prog w K} {h h':Heap} {a:Addr} {kvs:List (K×Value)} (x:h.DictOf knd a kvs) (k:∀ o,h.get? a=some o->h'.get? a=some o):h'.DictOf knd a kvs :=
 let ⟨o,es,ep,ho,r⟩:=x;⟨o,es,ep,k o ho,r⟩
theorem OR.stp {C:Cx} {D X:List Addr} {h h':Heap} {a:Addr} {o:AO} (st:Stp C.T D h h') (hD:∀ a ∈ D,a ∈ X) (hT:∀ a ∈ C.T,a ∈ X) (hf:∀ b ∈ foot (a,o),b ∉ D/\b ∉ C.T) (R:OR C h X a o):OR C h' X a o:=by
 have ka:∀ x,h.get? a=some x->h'.get? a=some x:=fun x e=>st.keep a x e (hf a (by simp [foot])).1 (hf a (by simp [foot])).2
 cases o with
 | list l=>refine o2_4 R fun vs n e r=>?_;clear R;exact ⟨vs,n,ka _ e,r.stp st hD hT⟩
 | eY l=>refine o1_3 R fun kvs e r=>?_;clear R;exact ⟨kvs,pZ e ka,r.stp st hD hT⟩
 | pQ l=>refine o1_3 R fun kvs e r=>?_;clear R;exact ⟨kvs,pZ e ka,r.stp st hD hT⟩
 | obj c d kv sq =>
   refine o0_2 R fun z1 m=>?_;clear R;refine o2_4 z1 fun vs k e e2=>?_;clear z1;have q:=hf d (by simp [foot,AO.more])
   refine ⟨⟨vs,k,ka _ e,fun l el=>(e2 l el).stp st hD hT⟩,?_⟩;cases kv with
   | none=>exact st.keep d _ m q.1 q.2
   | some p=>refine o4_6 m fun hs tk ep u e3 r=>?_;clear m;exact ⟨hs,tk,ep,u,st.keep d _ e3 q.1 q.2,r.stp st hD hT⟩
 | fix o=>exact ka _ R
theorem OR.sub {C:Cx} {X X':List Addr} {h:Heap} {a:Addr} {o:AO} (hX:∀ a o,h.get? a=some o->a ∉ X->a ∉ X') (R:OR C h X a o):OR C h X' a o:=by
 cases o with
 | list l=>refine o2_4 R fun vs n e r=>?_;clear R;exact ⟨vs,n,e,r.sub hX⟩
 | eY l=>refine o1_3 R fun kvs e r=>?_;clear R;exact ⟨kvs,e,r.sub hX⟩
 | pQ l=>refine o1_3 R fun kvs e r=>?_;clear R;exact ⟨kvs,e,r.sub hX⟩
 | obj c d kv sq =>
   refine o0_2 R fun z2 m=>?_;clear R;refine o2_4 z2 fun vs k e e2=>?_;clear z2;refine ⟨⟨vs,k,e,fun l el=>(e2 l el).sub hX⟩,?_⟩;cases kv with
   | none=>exact m
   | some p=>refine o4_6 m fun hs tk ep u e3 r=>?_;clear m;exact ⟨hs,tk,ep,u,e3,r.sub hX⟩
 | fix o=>exact R
noncomputable def fa (env:Env):List Addr:=env.locals::(env.cells.filter fun p=>env.kindOf p.1 == some .cell && env.func.isSome).map (·.2)
noncomputable def Own (env:Env) (x:Str):Prop:=env.kindOf x=some .cell/\env.func.isSome=true
noncomputable def q9 (env:Env) (x:Str):Prop:=env.kindOf x=some .free\/(env.kindOf x=some .cell/\env.func.isSome=false)
theorem iO {env:Env} {x:Str} (k:env.kindOf x=some .cell\/env.kindOf x=some .free):Own env x\/q9 env x:=by
 rcases k with k | k
 ·cases h:env.func.isSome
  ·exact .inr (.inr ⟨k,h⟩)
  ·exact .inl ⟨k,h⟩
 ·exact .inr (.inl k)
structure FrA (X:List Addr) (env:Env) (h:Heap) (μ:List (Str×AV)):Prop where
 loc:∃ m,h.Ns env.locals m/\∀ x av,μ.lookup x=some av->env.kindOf x=some .local->∃ v,m x=some v/\VR h X v av
 cel:∀ x av,μ.lookup x=some av->(env.kindOf x=some .cell\/env.kindOf x=some .free)->∃ c v,env.cells.lookup x=some c/\h.IsCell c (some v)/\VR h X v av
 cells:∀ x c,Own env x->env.cells.lookup x=some c->∃ ov,h.IsCell c ov
 kind:∀ x av,μ.lookup x=some av->env.kindOf x=some .local\/env.kindOf x=some .cell\/env.kindOf x=some .free
structure B0 (env:Env):Prop where
 kind:env.scope.kind = .function
 glob:env.globals=mainGlobals
 wV:env.builtins=builtinsNs
 more:∀ x,env.kindOf x=some .free->(x == ("__classdict__" : Str))=false
theorem fB {env:Env} {x:Str} {c:Addr} (k:Own env x) (e:env.cells.lookup x=some c):c ∈ fa env :=
 ai _ (aE.mpr ⟨(x,c),cH.mpr ⟨mem_of_lookup e,by simp [k.1,k.2]⟩,rfl⟩)
theorem FrA.stp {T D X:List Addr} {env:Env} {h h':Heap} {μ:List (Str×AV)} (F:FrA X env h μ) (st:Stp T D h h') (hD:∀ a ∈ D,a ∈ X) (hT:∀ a ∈ T,a ∈ X) (hf:∀ b ∈ fa env,b ∉ D/\b ∉ T)
  (hfree:∀ x c,q9 env x->env.cells.lookup x=some c->c ∉ D/\c ∉ T):FrA X env h' μ:=by
 have ka:∀ b ∈ fa env,∀ o,h.get? b=some o->h'.get? b=some o:=fun b hb o e=>st.keep b o e (hf b hb).1 (hf b hb).2;refine ⟨?_,fun x av e k=>?_,fun x c k e=>?_,F.kind⟩
 ·refine o1_3 F.loc fun m hn q=>?_;refine ⟨m,hn.at' (ka _ (aj ..)),fun x av e k=>?_⟩;refine o1_3 (q x av e k) fun v e1 r=>?_;exact ⟨v,e1,r.stp st hD hT⟩
 ·refine o2_5 (F.cel x av e k) fun c v e1 z3 r=>?_;refine o1_3 z3 fun o ho hd=>?_;clear z3;refine ⟨c,v,e1,⟨o,?_,hd⟩,r.stp st hD hT⟩;rcases iO k with k | k
  ·exact ka c (fB k e1) o ho
  ·exact st.keep c o ho (hfree x c k e1).1 (hfree x c k e1).2
 ·refine o2_4 (F.cells x c k e) fun ov o ho hd=>?_;exact ⟨ov,o,ka c (fB k e) o ho,hd⟩
theorem FrA.sub {X X':List Addr} {env:Env} {h:Heap} {μ:List (Str×AV)} (hX:∀ a o,h.get? a=some o->a ∉ X->a ∉ X') (F:FrA X env h μ):FrA X' env h μ:=by
 refine ⟨?_,fun x av e k=>?_,F.cells,F.kind⟩
 ·refine o1_3 F.loc fun m hn q=>?_;exact ⟨m,hn,fun x av e k=>let ⟨v,e1,r⟩:=q x av e k;⟨v,e1,r.sub hX⟩⟩
 ·refine o2_5 (F.cel x av e k) fun c v e1 e2 r=>?_;exact ⟨c,v,e1,e2,r.sub hX⟩
structure St where
 μ:List (Str×AV)
 M:List (Addr×AO)
noncomputable def Xo (C:Cx) (Y:List Addr) (env:Env) (S:St):List Addr:=C.T++(fa env++(fj S.M++Y))
structure fC (T D:List Addr) (s s':Shared):Prop where
 heap:Stp T D s.heap s'.heap
 os:s'.os=s.os
 dr:s'.drawn=s.drawn
 bare:AllBare s.gens->AllBare s'.gens
theorem fC.refl (T D:List Addr) (s:Shared):fC T D s s:=⟨.refl ..,rfl,rfl,id⟩
theorem fC.trans {T D D':List Addr} {s s' s'':Shared} (x:fC T D s s') (y:fC T D' s' s'') (hD:∀ a ∈ D',a ∈ D\/s.heap.get? a=none):fC T D s s'' :=
 ⟨x.heap.trans y.heap hD,y.os.trans x.os,y.dr.trans x.dr,fun b=>y.bare (x.bare b)⟩
theorem fC.gP {T D:List Addr} {s s' s'':Shared} (x:fC T D s s') (y:fC T [] s' s''):fC T D s s'':=x.trans y fun _ h=>nomatch h
theorem fC.mono {T D D':List Addr} {s s':Shared} (x:fC T D s s') (hD:∀ a ∈ D,a ∈ D'):fC T D' s s':=⟨x.heap.mono hD,x.os,x.dr,x.bare⟩
structure Rel (C:Cx) (Y:List Addr) (dZ:Shared) (D:List Addr) (env:Env) (S:St) (s:Shared):Prop where
 bs:Bs C s.heap
 ev:B0 env
 fr:FrA (Xo C Y env S) env s.heap S.μ
 free:∀ x c,q9 env x->env.cells.lookup x=some c->c ∈ Y\/C.Old c
 ob:∀ p ∈ S.M,OR C s.heap (Xo C Y env S) p.1 p.2
 nd:(fa env++fj S.M).Nodup
 dis:∀ a ∈ Y,a ∉ fa env++fj S.M
 hi:∀ a ∈ fa env++(fj S.M++Y),¬ C.Old a/\a ∉ C.T/\jr s.heap a
 st:fC C.T D dZ s
 own:∀ a ∈ fa env++fj S.M,a ∈ D\/dZ.heap.get? a=none
 z:∀ p ∈ C.Z,dZ.heap.get? p.1=some p.2/\p.1 ∈ Y/\p.1 ∉ D
section
variable {C:Cx} {Y D:List Addr} {dZ s s':Shared} {env:Env} {S:St}
theorem Rel.hT (_:Rel C Y dZ D env S s):∀ a ∈ C.T,a ∈ Xo C Y env S:=fun a h=>af _ h
theorem Rel.tn (R:Rel C Y dZ D env S s) {a:Addr} (ha:a ∈ fa env++(fj S.M++Y)):a ∉ C.T:=(R.hi a ha).2.1
theorem Rel.zb (R:Rel C Y dZ D env S s):∀ p ∈ C.Z,s.heap.get? p.1=some p.2/\p.1 ∈ Y/\p.1 ∉ fa env++fj S.M:=fun p hp =>
 ⟨R.st.heap.keep _ _ (R.z p hp).1 (R.z p hp).2.2 (R.tn (aa _ (aa _ (R.z p hp).2.1))),(R.z p hp).2.1,R.dis _ (R.z p hp).2.1⟩
theorem Rel.live (R:Rel C Y dZ D env S s) {a:Addr} (ha:a ∈ Xo C Y env S):jr s.heap a:=by
 rcases au.mp ha with h | h
 ·exact R.bs.iG h
 ·exact (R.hi a h).2.2
theorem eU {M:List (Addr×AO)} {p:Addr×AO} (hp:p ∈ M) {b:Addr} (hb:b ∈ foot p):b ∈ fj M:=bK.mpr ⟨p,hp,hb⟩
theorem Rel.kZ (ok:C.Ok) (R:Rel C Y dZ D env S s) {x:Str} {c:Addr} (k:q9 env x) (e:env.cells.lookup x=some c):c ∉ C.T:=by
 rcases R.free x c k e with h | h
 ·exact R.tn (aa _ (aa _ h))
 ·exact ok.old c h
theorem Rel.x8 (R:Rel C Y dZ D env S s) {x:Str} {c:Addr} (k:q9 env x) (e:env.cells.lookup x=some c):c ∉ fa env++fj S.M:=by
 rcases R.free x c k e with h | h
 ·exact R.dis c h
 ·intro q;exact (R.hi c (by rw [<- aH];exact af _ q)).1 h
theorem Rel.go (ok:C.Ok) (R:Rel C Y dZ D env S s) (x:fC C.T [] s s'):Rel C Y dZ D env S s':=by
 have z:∀ a ∈ ([]:List Addr),a ∈ Xo C Y env S:=fun _ h=>nomatch h;refine ⟨R.bs.stp ok x.heap fun _ h=>(nomatch h),R.ev,R.fr.stp x.heap z R.hT (fun b hb=>⟨fun h=>(nomatch h),R.tn (af _ hb)⟩) (fun x c k e=>⟨fun h=>(nomatch h),R.kZ ok k e⟩),R.free,
  fun p hp=>(R.ob p hp).stp x.heap z R.hT fun b hb=>⟨fun h=>(nomatch h),R.tn (aa _ (af _ (eU hp hb)))⟩,R.nd,R.dis,
  fun a ha=>⟨(R.hi a ha).1,(R.hi a ha).2.1,let ⟨o,e⟩:=(R.hi a ha).2.2;⟨o,x.heap.keep a o e (fun h=>nomatch h) (R.hi a ha).2.1⟩⟩,R.st.gP x,R.own,R.z⟩
theorem VR.go {T X:List Addr} {v:Value} {a:AV} (x:fC T [] s s') (hT:∀ a ∈ T,a ∈ X) (r:VR s.heap X v a):VR s'.heap X v a:=r.stp x.heap (fun _ h=>nomatch h) hT
theorem fC.toks (T:List Addr) (s:Shared) (t:Nat):fC T [] s { s with toks:=t }:=⟨.refl ..,rfl,rfl,id⟩
theorem fC.alloc (T:List Addr) (s:Shared) (o:Obj):fC T [] s { s with heap:=s.heap.push o }:=⟨.push ..,rfl,rfl,id⟩
end
structure AOk (n:Nat) (A:Around):Prop where
 handled:A.handled=none
 depth:A.depth+n<900
 units:A.units+8 * n<9000
theorem AOk.in1 {n:Nat} {A:Around} (h:AOk (n+1) A):AOk n A.in1:=⟨h.1,by have:=h.2;simp;lia,by have:=h.3;simp;lia⟩
theorem AOk.deeper {n:Nat} {A:Around} (env:Env) (h:AOk (n+1) A):AOk n (A.deeper env):=⟨h.1,by have:=h.2;show A.depth+1+n<900;lia,by have:=h.3;show A.units+3+8 * n<9000;lia⟩
noncomputable def No:Value->Shared->Prop:=fun _ _=>False
noncomputable def Kp (C:Cx) (Y:List Addr) (env:Env) (S:St) (s:Shared) (S':St) (s':Shared):Prop:=∀ v av,VR s.heap (Xo C Y env S) v av->VR s'.heap (Xo C Y env S') v av
noncomputable def G {α β:Type} (C:Cx) (n:Nat) (env:Env) (RR:Heap->List Addr->α->β->Prop) (S:St) (m:Sem α) (P:β->St->Prop):Prop :=
 ∀ A Y dZ D s Q,AOk n A->Rel C Y dZ D env S s ->
   (∀ r s' b S',P b S'->Rel C Y dZ D env S' s'->Kp C Y env S s S' s'->RR s'.heap (Xo C Y env S') r b->Q r s') ->
   wpAny (model C.prog C.w) A m Q No s
noncomputable abbrev EV (C:Cx) (n:Nat) (env:Env) (S:St) (e:Expr) (P:AV->St->Prop):Prop:=G C n env VR S (eval e env) P
noncomputable abbrev BR (_:Heap) (_:List Addr) (a b:Bool):Prop:=a=b
noncomputable abbrev ET (C:Cx) (n:Nat) (env:Env) (S:St) (e:Expr) (P:Bool->St->Prop):Prop:=G C n env BR S (isTrue e env (eval e env)) P
noncomputable abbrev PE (C:Cx) (n:Nat) (env:Env) (S:St) (e:Expr) (av:AV):Prop:=EV C n env S e fun a S'=>a=av/\S'=S
noncomputable abbrev PT (C:Cx) (n:Nat) (env:Env) (S:St) (e:Expr) (b:Bool):Prop:=ET C n env S e fun a S'=>a=b/\S'=S
inductive AF where
 | next | brk | cont | ret (v:AV)
inductive FR (h:Heap) (X:List Addr):Flow->AF->Prop
 | next:FR h X .next .next
 | brk:FR h X .brk .brk
 | cont:FR h X .cont .cont
 | ret {v:Value} {av:AV}:VR h X v av->FR h X (.ret v) (.ret av)
noncomputable abbrev EX (C:Cx) (n:Nat) (env:Env) (S:St) (ss:List Stmt) (P:AF->St->Prop):Prop:=G C n env FR S (execs ss env) P
noncomputable abbrev E1 (C:Cx) (n:Nat) (env:Env) (S:St) (st:Stmt) (P:AF->St->Prop):Prop:=G C n env FR S (exec st env) P
section
variable {C:Cx} {n:Nat} {env:Env} {S:St}
theorem Kp.refl {Y:List Addr} {s:Shared}:Kp C Y env S s S s:=fun _ _ h=>h
theorem Kp.trans {Y:List Addr} {s s' s'':Shared} {S' S'':St} (a:Kp C Y env S s S' s') (b:Kp C Y env S' s' S'' s''):Kp C Y env S s S'' s'':=fun v av h=>b v av (a v av h)
theorem Kp.go {Y:List Addr} {dZ s s':Shared} {D:List Addr} (R:Rel C Y dZ D env S s) (x:fC C.T [] s s'):Kp C Y env S s S s':=fun _ _ h=>h.go x R.hT
theorem Kp.all {Y:List Addr} {s s':Shared} {S':St} (k:Kp C Y env S s S' s') {vs:List Value} {l:List AV} (r:VRs s.heap (Xo C Y env S) vs l):VRs s'.heap (Xo C Y env S') vs l:=r.imp k
theorem G.mono {α β:Type} {RR:Heap->List Addr->α->β->Prop} {m:Sem α} {P P':β->St->Prop} (h:G C n env RR S m P) (hp:∀ b S',P b S'->P' b S'):G C n env RR S m P' :=
 fun A Y dZ D s Q a R q=>h A Y dZ D s Q a R fun r s' b S' p=>q r s' b S' (hp b S' p)
theorem PE.then {e:Expr} {av:AV} {P:AV->St->Prop} (h:PE C n env S e av) (p:P av S):EV C n env S e P:=G.mono h fun _ _ x=>by rw [x.1,x.2];exact p
theorem PT.then {e:Expr} {b:Bool} {P:Bool->St->Prop} (h:PT C n env S e b) (p:P b S):ET C n env S e P:=G.mono h fun _ _ x=>by rw [x.1,x.2];exact p
theorem PE.cast {e:Expr} {a b:AV} (h:PE C n env S e a) (q:a=b):PE C n env S e b:=q▸h
theorem PT.cast {e:Expr} {a b:Bool} (h:PT C n env S e a) (q:a=b):PT C n env S e b:=q▸h
end
theorem eq2 {α β:Type} {P:α->β->Prop} {x:α} {y:β} (k:P x y) (a:α) (b:β) (e:a=x/\b=y):P a b:=by
 rw [e.1,e.2];exact k
theorem G.at {α β:Type} {C:Cx} {n:Nat} {env:Env} {RR:Heap->List Addr->α->β->Prop} {S jz:St} {m:Sem α} {b:β} {A:Around} {Y:List Addr} {dZ:Shared} {D:List Addr} {s:Shared} {Q:α->Shared->Prop}
  (h:G C n env RR S m fun b' S'=>b'=b/\S'=jz) (ha:AOk n A) (R:Rel C Y dZ D env S s) (q:∀ r s',Rel C Y dZ D env jz s'->Kp C Y env S s jz s'->RR s'.heap (Xo C Y env jz) r b->Q r s'):wpAny (model C.prog C.w) A m Q No s :=
 h A Y dZ D s Q ha R fun r s' b' S'=>eq2 (P:=fun b' S'=>Rel C Y dZ D env S' s'->Kp C Y env S s S' s'->RR s'.heap (Xo C Y env S') r b'->Q r s') (q r s') b' S'
theorem eqE {P:AV->St->Prop} {Q:AV->List (Addr×AO)->Prop} {μ:List (Str×AV)} (k:∀ a M,Q a M->P a ⟨μ,M⟩) (a:AV) (S:St) (e:S.μ=μ/\Q a S.M):P a S:=by
 have h:=k a S.M e.2;rw [<- e.1] at h;exact h
theorem eqS {P:AV->St->Prop} {x:AV} {μ:List (Str×AV)} {M:List (Addr×AO)} (k:P x ⟨μ,M⟩) (a:AV) (S:St) (e:S.μ=μ/\a=x/\S.M=M):P a S:=by
 rw [e.2.1,show S=⟨μ,M⟩ from by rw [<- e.1,<- e.2.2]];exact k
section
variable {C:Cx} (ok:C.Ok) {n:Nat} {env:Env} {S:St}
include ok
theorem PE.int {i:Int} {k:Nat} {pos:Pos}:PE C n env S (.Constant (.int i) k pos) (.int i):=fun _ _ _ _ _ _ _ R q =>
 wpAny_Constant_int (q _ _ _ _ ⟨rfl,rfl⟩ (R.go ok (.toks ..)) (Kp.go R (.toks ..)) (.int ..))
theorem PE.str {x:Str} {k:Nat} {pos:Pos}:PE C n env S (.Constant (.str x) k pos) (.str x):=fun _ _ _ _ _ _ _ R q =>
 dh (q _ _ _ _ ⟨rfl,rfl⟩ (R.go ok (.toks ..)) (Kp.go R (.toks ..)) (.str ..))
omit ok in
theorem PE.bool {b:Bool} {k:Nat} {pos:Pos}:PE C n env S (.Constant (.bool b) k pos) (.bool b):=fun _ _ _ _ _ _ _ R q =>
 wpAny_Constant_bool (q _ _ _ _ ⟨rfl,rfl⟩ R .refl (.bool ..))
omit ok in
theorem PE.nul {k:Nat} {pos:Pos}:PE C n env S (.Constant .none k pos) .none:=fun _ _ _ _ _ _ _ R q =>
 wpAny_Constant_none (q _ _ _ _ ⟨rfl,rfl⟩ R .refl .none)
omit ok in
theorem PE.name {x:Str} {av:AV} {pos:Pos} (h:S.μ.lookup x=some av) (hd:(x == ("__debug__" : Str))=false:=by decide):PE C n env S (.Name x pos) av:=fun _ _ _ _ _ _ _ R q=>by
 refine wpAny_Name ?_ hd;rcases R.fr.kind x av h with k | k | k
 ·refine o1_3 R.fr.loc fun m hn z=>?_;refine o1_3 (z x av h k) fun v e r=>?_;exact cu R.ev.kind k hn e (q _ _ _ _ ⟨rfl,rfl⟩ R .refl r)
 ·refine o2_5 (R.fr.cel x av h (.inl k)) fun c v e1 e2 r=>?_;exact wpAny_loadName_cell R.ev.kind k e1 e2 (q _ _ _ _ ⟨rfl,rfl⟩ R .refl r)
 ·refine o2_5 (R.fr.cel x av h (.inr k)) fun c v e1 e2 r=>?_;exact wpAny_loadName_free R.ev.kind k e1 e2 (q _ _ _ _ ⟨rfl,rfl⟩ R .refl r) (R.ev.more x k)
end
end Mine
end
section
open PySem PySem.W PySem.Calls PyProof.Rows
set_option tactic.hygienic false
namespace Mine
noncomputable def VRI (h:Heap) (X:List Addr) (v:Value):AV->Prop
 | .none=>.none=v
 | .bool b=>.bool b=v
 | .int i=>∃ t,.int i t=v
 | .str x=>∃ t,.str x t=v
 | .raw u=>u=v
 | .tup l=>∀ G:Prop,(∀ a vs n,h.get? a=some ⟨.type "tuple", Option.none,.seq vs.toArray n,#[]⟩->a ∉ X->VRs h X vs l->.ref a=v->G)->G
 | .lst l=>∀ G:Prop,(∀ a vs n,h.get? a=some ⟨.type "list", Option.none,.seq vs.toArray n,#[]⟩->a ∉ X->VRs h X vs l->.ref a=v->G)->G
 | .rng a b c=>∀ G:Prop,(∀ x t u w,IsRange h x a b c t u w->x ∉ X->.ref x=v->G)->G
 | .qn c x=>∀ G:Prop,(∀ r d t o,h.get? r=some ⟨.ref c,some d,.plain,#[]⟩->h.get? d=some o->PySem.W.lookIn (Str.ofString "text") o=some (some (.str x t))->r ∉ X->d ∉ X->.ref r=v->G)->G
 | .ob o more=>∀ G:Prop,(∀ a,h.get? a=some o->a ∉ X->(a == sysModules)=false->(∀ p ∈ more,h.get? p.1=some p.2/\p.1 ∉ X)->.ref a=v->G)->G
noncomputable def C5 (h:Heap) (X:List Addr) (vs:List Value):List AV->Prop
 | []=>[]=vs
 | a::l=>∀ G:Prop,(∀ v vs',VR h X v a->VRs h X vs' l->v::vs'=vs->G)->G
theorem VR.inv {h:Heap} {X:List Addr} {v:Value} {a:AV} (r:VR h X v a):VRI h X v a :=
 @VR.casesOn h X (fun v a _=>VRI h X v a) v a r rfl (fun _=>rfl) (fun _ t=>⟨t,rfl⟩) (fun _ t=>⟨t,rfl⟩) (fun _=>rfl) (fun e n rs _ k=>k _ _ _ e n rs rfl) (fun e n rs _ k=>k _ _ _ e n rs rfl)
  (fun e n _ k=>k _ _ _ _ e n rfl) (fun e e' l n n' _ k=>k _ _ _ _ e e' l n n' rfl) (fun e n y m _ k=>k _ e n y m rfl)
theorem VRs.inv {h:Heap} {X:List Addr} {vs:List Value} {l:List AV} (r:VRs h X vs l):C5 h X vs l :=
 @VRs.casesOn h X (fun vs l _=>C5 h X vs l) vs l r rfl (fun p q _ k=>k _ _ p q rfl)
theorem VRs.hd {h:Heap} {X:List Addr} {v:Value} {vs:List Value} {a:AV} {l:List AV} (r:VRs h X (v::vs) (a::l)):VR h X v a :=
 r.inv _ fun _ _ p _ e=>by injection e with e1;exact e1▸p
theorem VRs.tl {h:Heap} {X:List Addr} {v:Value} {vs:List Value} {a:AV} {l:List AV} (r:VRs h X (v::vs) (a::l)):VRs h X vs l :=
 r.inv _ fun _ _ _ q e=>by injection e with _ e1;exact e1▸q
theorem len_cons {α:Type} {l:List α} {n:Nat} (h:l.length=n+1):∃ a l',l=a::l'/\l'.length=n:=by
 cases l with
 | nil=>exact absurd h (Nat.succ_ne_zero n).symm
 | cons a l=>exact ⟨a,l,rfl,Nat.succ.inj h⟩
theorem len_nil {α:Type} {l:List α} (h:l.length=0):l=[]:=ck.mp h
theorem two_at {α:Type} {a b x:α} {i:Nat} (h:[a,b][i]? = some x):i=0/\x=a\/i=1/\x=b:=by
 cases i with
 | zero=>exact .inl ⟨rfl,(bE h).symm⟩
 | succ i =>
   cases i with
   | zero=>exact .inr ⟨rfl,(bE h).symm⟩
   | succ i=>exact absurd h (by simp)
section
variable {h:Heap} {X:List Addr} {v:Value}
theorem VR.gX {u:Value} {G:Prop} (r:VR h X v (.raw u)) (k:u=v->G):G:=k r.inv
theorem VR.vB {G:Prop} (r:VR h X v .none) (k : .none=v->G):G:=k r.inv
theorem VR.lY {b:Bool} {G:Prop} (r:VR h X v (.bool b)) (k : .bool b=v->G):G:=k r.inv
theorem VR.pK {i:Int} {G:Prop} (r:VR h X v (.int i)) (k:∀ t,.int i t=v->G):G:=r.inv.elim k
theorem VR.iW {x:Str} {G:Prop} (r:VR h X v (.str x)) (k:∀ t,.str x t=v->G):G:=r.inv.elim k
theorem VR.vA {l:List AV} {G:Prop} (r:VR h X v (.tup l)) (k:∀ a vs n,h.get? a=some ⟨.type "tuple", Option.none,.seq vs.toArray n,#[]⟩->a ∉ X->VRs h X vs l->.ref a=v->G):G:=r.inv G k
theorem VR.sD {l:List AV} {G:Prop} (r:VR h X v (.lst l)) (k:∀ a vs n,h.get? a=some ⟨.type "list", Option.none,.seq vs.toArray n,#[]⟩->a ∉ X->VRs h X vs l->.ref a=v->G):G:=r.inv G k
theorem VR.Bp {a b c:Int} {G:Prop} (r:VR h X v (.rng a b c)) (k:∀ x t u w,IsRange h x a b c t u w->x ∉ X->.ref x=v->G):G:=r.inv G k
theorem VR.tP {c:Addr} {x:Str} {G:Prop} (r:VR h X v (.qn c x)) (k:∀ r d t o,h.get? r=some ⟨.ref c,some d,.plain,#[]⟩->h.get? d=some o->PySem.W.lookIn (Str.ofString "text") o=some (some (.str x t))->r ∉ X->d ∉ X->.ref r=v->G):G:=r.inv G k
theorem VR.CF {o:Obj} {more:Frag} {G:Prop} (r:VR h X v (.ob o more)) (k:∀ a,h.get? a=some o->a ∉ X->(a == sysModules)=false->(∀ p ∈ more,h.get? p.1=some p.2/\p.1 ∉ X)->.ref a=v->G):G:=r.inv G k
theorem VRs.nq {vs:List Value} {G:Prop} (r:VRs h X vs []) (k:[]=vs->G):G:=k r.inv
theorem VRs.gT {vs:List Value} {a:AV} {l:List AV} {G:Prop} (r:VRs h X vs (a::l)) (k:∀ v vs',VR h X v a->VRs h X vs' l->v::vs'=vs->G):G:=r.inv G k
@[elab_as_elim] theorem VR.fM {u:Value} {P:Value->Prop} (r:VR h X v (.raw u)) (k:P u):P v:=r.gX fun e=>e▸k
@[elab_as_elim] theorem VR.mu {P:Value->Prop} (r:VR h X v .none) (k:P .none):P v:=r.vB fun e=>e▸k
@[elab_as_elim] theorem VR.kB {b:Bool} {P:Value->Prop} (r:VR h X v (.bool b)) (k:P (.bool b)):P v:=r.lY fun e=>e▸k
@[elab_as_elim] theorem VR.ff {i:Int} {P:Value->Prop} (r:VR h X v (.int i)) (k:∀ t,P (.int i t)):P v:=r.pK fun t e=>e▸k t
@[elab_as_elim] theorem VR.fO {x:Str} {P:Value->Prop} (r:VR h X v (.str x)) (k:∀ t,P (.str x t)):P v:=r.iW fun t e=>e▸k t
@[elab_as_elim] theorem VR.pW {l:List AV} {P:Value->Prop} (r:VR h X v (.tup l)) (k:∀ a vs n,h.get? a=some ⟨.type "tuple", Option.none,.seq vs.toArray n,#[]⟩->a ∉ X->VRs h X vs l->P (.ref a)):P v:=r.vA fun a vs n e nx rs q=>q▸k a vs n e nx rs
@[elab_as_elim] theorem VR.iL {l:List AV} {P:Value->Prop} (r:VR h X v (.lst l)) (k:∀ a vs n,h.get? a=some ⟨.type "list", Option.none,.seq vs.toArray n,#[]⟩->a ∉ X->VRs h X vs l->P (.ref a)):P v:=r.sD fun a vs n e nx rs q=>q▸k a vs n e nx rs
@[elab_as_elim] theorem VR.yR {a b c:Int} {P:Value->Prop} (r:VR h X v (.rng a b c)) (k:∀ x t u w,IsRange h x a b c t u w->x ∉ X->P (.ref x)):P v:=r.Bp fun x t u w e nx q=>q▸k x t u w e nx
@[elab_as_elim] theorem VR.tT {o:Obj} {more:Frag} {P:Value->Prop} (r:VR h X v (.ob o more)) (k:∀ a,h.get? a=some o->a ∉ X->(a == sysModules)=false->(∀ p ∈ more,h.get? p.1=some p.2/\p.1 ∉ X)->P (.ref a)):P v:=r.CF fun a e n y m q=>q▸k a e n y m
@[elab_as_elim] theorem VRs.fN {vs:List Value} {P:List Value->Prop} (r:VRs h X vs []) (k:P []):P vs:=r.nq fun e=>e▸k
@[elab_as_elim] theorem VRs.eW {vs:List Value} {a:AV} {l:List AV} {P:List Value->Prop} (r:VRs h X vs (a::l)) (k:∀ v vs,VR h X v a->VRs h X vs l->P (v::vs)):P vs:=r.gT fun v vs' p q e=>e▸k v vs' p q
end
end Mine
namespace Mine
noncomputable def G1 {α β:Type} (C:Cx) (n:Nat) (env:Env) (RR:Heap->List Addr->α->β->Prop) (S:St) (m:Value->Sem α) (a:AV) (P:β->St->Prop):Prop :=
 ∀ A Y dZ D s v Q,AOk n A->Rel C Y dZ D env S s->VR s.heap (Xo C Y env S) v a ->
   (∀ r s' b S',P b S'->Rel C Y dZ D env S' s'->Kp C Y env S s S' s'->RR s'.heap (Xo C Y env S') r b->Q r s')->wpAny (model C.prog C.w) A (m v) Q No s
noncomputable def G2 {α β:Type} (C:Cx) (n:Nat) (env:Env) (RR:Heap->List Addr->α->β->Prop) (S:St) (m:Value->Value->Sem α) (a a':AV) (P:β->St->Prop):Prop :=
 ∀ A Y dZ D s v v' Q,AOk n A->Rel C Y dZ D env S s->VR s.heap (Xo C Y env S) v a->VR s.heap (Xo C Y env S) v' a' ->
   (∀ r s' b S',P b S'->Rel C Y dZ D env S' s'->Kp C Y env S s S' s'->RR s'.heap (Xo C Y env S') r b->Q r s')->wpAny (model C.prog C.w) A (m v v') Q No s
noncomputable abbrev V1 (C:Cx) (n:Nat) (env:Env) (S:St) (m:Value->Sem Value) (a:AV) (P:AV->St->Prop):Prop:=G1 C n env VR S m a P
noncomputable abbrev V2 (C:Cx) (n:Nat) (env:Env) (S:St) (m:Value->Value->Sem Value) (a b:AV) (P:AV->St->Prop):Prop:=G2 C n env VR S m a b P
noncomputable abbrev P1 (C:Cx) (n:Nat) (env:Env) (S:St) (m:Value->Sem Value) (a c:AV):Prop:=V1 C n env S m a fun x S'=>x=c/\S'=S
noncomputable abbrev P2 (C:Cx) (n:Nat) (env:Env) (S:St) (m:Value->Value->Sem Value) (a b c:AV):Prop:=V2 C n env S m a b fun x S'=>x=c/\S'=S
noncomputable abbrev T1 (C:Cx) (n:Nat) (env:Env) (S:St) (a:AV) (b:Bool):Prop:=G1 C n env BR S truthy a fun x S'=>x=b/\S'=S
section
variable {C:Cx} (ok:C.Ok) {n:Nat} {env:Env} {S:St}
theorem G1.mono {α β:Type} {RR:Heap->List Addr->α->β->Prop} {m:Value->Sem α} {a:AV} {P P':β->St->Prop} (h:G1 C n env RR S m a P) (hp:∀ b S',P b S'->P' b S'):G1 C n env RR S m a P' :=
 fun A Y dZ D s v Q ha R r q=>h A Y dZ D s v Q ha R r fun r s' b S' p=>q r s' b S' (hp b S' p)
theorem G2.mono {α β:Type} {RR:Heap->List Addr->α->β->Prop} {m:Value->Value->Sem α} {a a':AV} {P P':β->St->Prop} (h:G2 C n env RR S m a a' P) (hp:∀ b S',P b S'->P' b S'):G2 C n env RR S m a a' P' :=
 fun A Y dZ D s v v' Q ha R r r' q=>h A Y dZ D s v v' Q ha R r r' fun r s' b S' p=>q r s' b S' (hp b S' p)
theorem EV.two {α β:Type} {RR:Heap->List Addr->α->β->Prop} {l r:Expr} {m:Value->Value->Sem α} {k:Sem α} {P:β->St->Prop}
  (hk:∀ (A:Around) s (Q:α->Shared->Prop),wpAny (model C.prog C.w) A (eval l env) (fun a ee=>wpAny (model C.prog C.w) A (eval r env) (fun b d8=>wpAny (model C.prog C.w) A (m a b) Q No d8) No ee) No s->wpAny (model C.prog C.w) A k Q No s)
  (h:EV C n env S l fun a d7=>EV C n env d7 r fun b eG=>G2 C n env RR eG m a b P):G C n env RR S k P :=
 fun A Y dZ D s Q ha R q=>hk A s Q <| h A Y dZ D s _ ha R fun v ee a d7 p d9 eE rv=>p A Y dZ D ee _ ha d9 fun v' d8 b eG fh eB eN rv' =>
  fh A Y dZ D d8 v v' Q ha eB (eN _ _ rv) rv' fun r ez c fk fF eV fG=>q r ez c fk fF eV ((eE.trans eN).trans fG)
theorem EV.one {α β:Type} {RR:Heap->List Addr->α->β->Prop} {e:Expr} {m:Value->Sem α} {k:Sem α} {P:β->St->Prop}
  (hk:∀ (A:Around) s (Q:α->Shared->Prop),wpAny (model C.prog C.w) A (eval e env) (fun a ee=>wpAny (model C.prog C.w) A (m a) Q No ee) No s->wpAny (model C.prog C.w) A k Q No s)
  (h:EV C n env S e fun a d7=>G1 C n env RR d7 m a P):G C n env RR S k P :=
 fun A Y dZ D s Q ha R q=>hk A s Q <| h A Y dZ D s _ ha R fun v ee a d7 p d9 eE rv=>p A Y dZ D ee v Q ha d9 rv fun r d8 c eG fh eB eN=>q r d8 c eG fh eB (eE.trans eN)
theorem EV.bin {l r:Expr} {op:Operator} {pos:Pos} {P:AV->St->Prop} (h:EV C n env S l fun a d7=>EV C n env d7 r fun b eG=>V2 C n env eG (binaryOp op) a b P):EV C n env S (.BinOp l op r pos) P :=
 EV.two (m:=binaryOp op) (fun _ _ _ x=>wpAny_BinOp x) h
theorem PE.bin {l r:Expr} {op:Operator} {pos:Pos} {a b c:AV} (hl:PE C n env S l a) (hr:PE C n env S r b) (o:P2 C n env S (binaryOp op) a b c):PE C n env S (.BinOp l op r pos) c :=
 EV.bin (hl.then (hr.then o))
theorem EV.cmp {l r:Expr} {op:CmpOp} {pos:Pos} {P:AV->St->Prop} (h:EV C n env S l fun a d7=>EV C n env d7 r fun b eG=>V2 C n env eG (compareOp op) a b P)
  (hm:behindInMarks op r=false:=by with_unfolding_all rfl):EV C n env S (.Compare l [op] [r] pos) P :=
 EV.two (m:=compareOp op) (fun _ _ _ x=>wpAny_Compare1 x hm) h
theorem PE.cmp {l r:Expr} {op:CmpOp} {pos:Pos} {a b c:AV} (hl:PE C n env S l a) (hr:PE C n env S r b) (o:P2 C n env S (compareOp op) a b c)
  (hm:behindInMarks op r=false:=by with_unfolding_all rfl):PE C n env S (.Compare l [op] [r] pos) c :=
 EV.cmp (hl.then (hr.then o)) hm
theorem ET.cmp {l r:Expr} {op:CmpOp} {pos:Pos} {P:Bool->St->Prop} (h:EV C n env S l fun a d7=>EV C n env d7 r fun b eG=>V2 C n env eG (compareOp op) a b fun c fk=>G1 C n env BR fk truthy c P)
  (hm:behindInMarks op r=false:=by with_unfolding_all rfl):ET C n env S (.Compare l [op] [r] pos) P :=
 fun A Y dZ D s Q ha R q=>wpAny_isTrue_Compare1 (hm:=hm) <| h A Y dZ D s _ ha R fun v ee a d7 p d9 eE rv=>p A Y dZ D ee _ ha d9 fun v' d8 b eG fh eB eN rv' =>
  fh A Y dZ D d8 v v' _ ha eB (eN _ _ rv) rv' fun r ez c fk fF eV fG rc=>fF A Y dZ D ez r Q ha eV rc fun t gC tb gU gY gm gK rr=>q t gC tb gU gY gm (((eE.trans eN).trans fG).trans gK) rr
theorem T1.bool {b:Bool}:T1 C n env S (.bool b) b:=fun A Y dZ D s v Q ha R r q=>by
 refine VR.kB r ?_;exact wpAny_truthy_bool (q _ _ _ _ ⟨rfl,rfl⟩ R .refl rfl)
theorem PT.cmp {l r:Expr} {op:CmpOp} {pos:Pos} {a b:AV} {t:Bool} (hl:PE C n env S l a) (hr:PE C n env S r b) (o:P2 C n env S (compareOp op) a b (.bool t))
  (hm:behindInMarks op r=false:=by with_unfolding_all rfl):PT C n env S (.Compare l [op] [r] pos) t :=
 ET.cmp (hl.then (hr.then (o.mono fun c fk e=>by rw [e.1,e.2];exact T1.bool))) hm
end
end Mine
namespace Mine
section
variable {C:Cx} (ok:C.Ok) {n:Nat} {env:Env} {S:St}
include ok
theorem P2.of {m:Value->Value->Sem Value} {a b c:AV}
  (h:∀ (A:Around) X s v v' (Q:Value->Shared->Prop),AOk n A->Bs C s.heap->VR s.heap X v a->VR s.heap X v' b->(∀ a ∈ X,a<s.heap.objs.size)->(∀ a ∈ C.T,a ∈ X)->(∀ r s',fC C.T [] s s'->VR s'.heap X r c->Q r s')->wpAny (model C.prog C.w) A (m v v') Q No s):P2 C n env S m a b c :=
 fun A Y dZ D s v v' Q ha R r r' q=>h A _ s v v' Q ha R.bs r r'
  (fun a hx=>(R.live hx).lt) R.hT
  fun r s' x rc=>q r s' _ S ⟨rfl,rfl⟩ (R.go ok x) (Kp.go R x) rc
theorem P1.of {m:Value->Sem Value} {a c:AV}
  (h:∀ (A:Around) X s v (Q:Value->Shared->Prop),AOk n A->Bs C s.heap->VR s.heap X v a->(∀ a ∈ X,a<s.heap.objs.size)->(∀ a ∈ C.T,a ∈ X)->(∀ r s',fC C.T [] s s'->VR s'.heap X r c->Q r s')->wpAny (model C.prog C.w) A (m v) Q No s):P1 C n env S m a c :=
 fun A Y dZ D s v Q ha R r q=>h A _ s v Q ha R.bs r
  (fun a hx=>(R.live hx).lt) R.hT
  fun r s' x rc=>q r s' _ S ⟨rfl,rfl⟩ (R.go ok x) (Kp.go R x) rc
namespace O
variable {a b:Int} {x y:Str}
theorem add:P2 C n env S (binaryOp .Add) (.int a) (.int b) (.int (a+b)):=.of ok fun _ _ _ _ _ _ _ _ r r' _ _ q=>by refine VR.ff r fun _=>?_;refine VR.ff r' fun _=>?_;exact add_int (q _ _ (.toks ..) (.int ..))
theorem fdiv (hb:b≠0) (hs:b.natAbs<2 ^ 30):P2 C n env S (binaryOp .FloorDiv) (.int a) (.int b) (.int (a.fdiv b)):=.of ok fun _ _ _ _ _ _ _ _ r r' _ _ q=>by
 refine VR.ff r fun _=>?_;refine VR.ff r' fun _=>?_;exact floordiv_int hb (q _ _ (.toks ..) (.int ..)) (.inl (PyProof.noPylong_small hs))
theorem fmod (hb:b≠0):P2 C n env S (binaryOp .Mod) (.int a) (.int b) (.int (a.fmod b)):=.of ok fun _ _ _ _ _ _ _ _ r r' _ _ q=>by
 refine VR.ff r fun _=>?_;refine VR.ff r' fun _=>?_;exact mod_int' hb (q _ _ (.toks ..) (.int ..))
theorem pow (hb:0<=b) (hb2:b<=1000000) (ha:a.natAbs<2 ^ 64):P2 C n env S (binaryOp .Pow) (.int a) (.int b) (.int (a ^ b.toNat)):=.of ok fun _ _ _ _ _ _ _ _ r r' _ _ q=>by
 refine VR.ff r fun _=>?_;refine VR.ff r' fun _=>?_;exact pow_int_small hb hb2 ha (q _ _ (.toks ..) (.int ..))
theorem shl (hb:0<=b) (hb2:b<=1000000) (ha:a.natAbs<2 ^ 64):P2 C n env S (binaryOp .LShift) (.int a) (.int b) (.int (a * 2 ^ b.toNat)):=.of ok fun _ _ _ _ _ _ _ _ r r' _ _ q=>by
 refine VR.ff r fun _=>?_;refine VR.ff r' fun _=>?_;exact lshift_int_small hb hb2 ha (q _ _ (.toks ..) (.int ..))
theorem and:P2 C n env S (binaryOp .BitAnd) (.int a) (.int b) (.int (Builtin.bitAnd a b)):=.of ok fun _ _ _ _ _ _ _ _ r r' _ _ q=>by
 refine VR.ff r fun _=>?_;refine VR.ff r' fun _=>?_;exact and_int (q _ _ (.toks ..) (.int ..))
theorem adds (hz:x.length+y.length<=sizeLine):P2 C n env S (binaryOp .Add) (.str x) (.str y) (.str (x++y)):=.of ok fun _ _ _ _ _ _ _ _ r r' _ _ q=>by
 refine VR.fO r fun _=>?_;refine VR.fO r' fun _=>?_;exact SB.add (fun t' k=>q _ _ (.toks ..) (.str ..)) hz
theorem iadd:P2 C n env S (inplaceOp .Add) (.int a) (.int b) (.int (a+b)):=.of ok fun _ _ _ _ _ _ _ _ r r' _ _ q=>by refine VR.ff r fun _=>?_;refine VR.ff r' fun _=>?_;exact wpAny_iadd_int (q _ _ (.toks ..) (.int ..))
theorem lt:P2 C n env S (compareOp .Lt) (.int a) (.int b) (.bool (decide (a<b))):=.of ok fun _ _ _ _ _ _ _ _ r r' _ _ q=>by refine VR.ff r fun _=>?_;refine VR.ff r' fun _=>?_;exact lt_int (q _ _ (.refl ..) (.bool ..))
theorem ge:P2 C n env S (compareOp .GtE) (.int a) (.int b) (.bool (decide (b<=a))):=.of ok fun _ _ _ _ _ _ _ _ r r' _ _ q=>by refine VR.ff r fun _=>?_;refine VR.ff r' fun _=>?_;exact ge_int (q _ _ (.refl ..) (.bool ..))
theorem eq:P2 C n env S (compareOp .Eq) (.int a) (.int b) (.bool (a == b)):=.of ok fun _ _ _ _ _ _ _ _ r r' _ _ q=>by refine VR.ff r fun _=>?_;refine VR.ff r' fun _=>?_;exact eq_int (q _ _ (.refl ..) (.bool ..))
theorem ne:P2 C n env S (compareOp .NotEq) (.int a) (.int b) (.bool (a != b)):=.of ok fun _ _ _ _ _ _ _ _ r r' _ _ q=>by refine VR.ff r fun _=>?_;refine VR.ff r' fun _=>?_;exact ne_int (q _ _ (.refl ..) (.bool ..))
theorem eqs:P2 C n env S (compareOp .Eq) (.str x) (.str y) (.bool (x == y)):=.of ok fun _ _ _ _ _ _ _ _ r r' _ _ q=>by refine VR.fO r fun _=>?_;refine VR.fO r' fun _=>?_;exact eq_str (q _ _ (.refl ..) (.bool ..))
theorem nes:P2 C n env S (compareOp .NotEq) (.str x) (.str y) (.bool (x != y)):=.of ok fun _ _ _ _ _ _ _ _ r r' _ _ q=>by refine VR.fO r fun _=>?_;refine VR.fO r' fun _=>?_;exact ne_str (q _ _ (.refl ..) (.bool ..))
theorem lts:P2 C n env S (compareOp .Lt) (.str x) (.str y) (.bool (decide (x.cps.toList<y.cps.toList))):=.of ok fun _ _ _ _ _ _ _ _ r r' _ _ q=>by refine VR.fO r fun _=>?_;refine VR.fO r' fun _=>?_;exact lt_str (q _ _ (.refl ..) (.bool ..))
theorem ins:P2 C n env S (compareOp .In) (.str y) (.str x) (.bool (Txt.contains x y)):=.of ok fun _ _ _ _ _ _ _ _ r r' _ _ q=>by refine VR.fO r fun _=>?_;refine VR.fO r' fun _=>?_;exact SB.contains (q _ _ (.refl ..) (.bool ..))
noncomputable def isNone:AV->Option Bool
 | .none=>some true
 | .raw (.ref _)=>some false
 | .raw _=>Option.none
 | _=>some false
omit ok in
theorem pL {h:Heap} {X:List Addr} {v:Value} {a:AV} {t:Bool} (r:VR h X v a) (e:isNone a=some t):(v == Value.none)=t:=by
 cases r <;> simp [isNone] at e <;> try (subst e;rfl)
 cases v <;> simp at e <;> (subst e;rfl)
theorem fY {c:AV} {t:Bool} (e:isNone c=some t):P2 C n env S (compareOp .Is) c .none (.bool t):=.of ok fun _ _ _ _ _ _ _ _ r r' _ _ q=>by
 refine VR.mu r' ?_;refine PySem.is_none ?_;rw [pL r e];exact q _ _ (.refl ..) (.bool ..)
theorem iI {c:AV} {t:Bool} (e:isNone c=some t):P2 C n env S (compareOp .IsNot) c .none (.bool (!t)):=.of ok fun _ _ _ _ _ _ _ _ r r' _ _ q=>by
 refine VR.mu r' ?_;refine PySem.isNot_none ?_;rw [pL r e];exact q _ _ (.refl ..) (.bool ..)
theorem jX {c d:Bool}:P2 C n env S (compareOp .IsNot) (.bool c) (.bool d) (.bool (c != d)):=.of ok fun _ _ _ _ _ _ _ _ r r' _ _ q=>by refine VR.kB r ?_;refine VR.kB r' ?_;exact PyProof.Rows.isnot_bool (q _ _ (.refl ..) (.bool ..))
end O
end
end Mine
namespace Mine
noncomputable def ins (x:Str) (v:AV):List (Str×AV)->List (Str×AV)
 | []=>[(x,v)]
 | (y,w)::r=>if x == y then (y,v)::r else (y,w)::ins x v r
theorem fq {x y:Str} {v:AV}:∀ {μ:List (Str×AV)},(ins x v μ).lookup y=if y=x then some v else μ.lookup y
 | []=>by
   simp only [ins,List.lookup];by_cases h:y=x
   ·subst h;simp
   ·have:(y == x)=false:=aY.mpr h;simp [this,h]
 | (z,w)::r=>by
   unfold ins;by_cases hz:x=z
   ·subst hz;simp only [beq_self_eq_true,if_true,List.lookup];by_cases h:y=x
    ·subst h;simp
    ·have:(y == x)=false:=aY.mpr h;simp [this,h]
   ·have e:(x == z)=false:=aY.mpr hz;simp only [e,bu,cg,List.lookup];rw [fq (μ:=r)];by_cases h:y=x
    ·subst h;simp [e]
    ·cases (y == z) <;> simp [h]
section
variable {C:Cx} {Y D:List Addr} {dZ s s':Shared} {env:Env} {S:St}
theorem Rel.one (ok:C.Ok) (R:Rel C Y dZ D env S s) {a:Addr} (ha:a ∈ fa env++fj S.M) (x:fC C.T [a] s s'):Bs C s'.heap/\fC C.T D dZ s'/\(∀ b ∈ fa env++(fj S.M++Y),b≠a->jr s'.heap b):=by
 have ha':a ∈ fa env++(fj S.M++Y):=by rw [<- aH];exact af _ ha
 refine ⟨R.bs.stp ok x.heap fun b hb=>?_,R.st.trans x fun b hb=>?_,fun b hb hne=>?_⟩
 ·have:b=a:=by simpa using hb
  exact this▸(R.hi a ha').1
 ·have:b=a:=by simpa using hb
  exact this▸R.own a ha
 ·refine o0_3 (R.hi b hb) fun _ h2 zz=>?_;refine o1_2 zz fun o e=>?_;exact ⟨o,x.heap.keep b o e (by simpa using hne) h2⟩
theorem Rel.inX (R:Rel C Y dZ D env S s) {a:Addr} (ha:a ∈ fa env++fj S.M):∀ b ∈ [a],b ∈ Xo C Y env S:=fun b hb=>by
 have:b=a:=by simpa using hb
 subst this;exact aa _ (by rw [<- aH];exact af _ ha)
theorem jD (env:Env):env.locals ∈ fa env:=aj ..
theorem lq (R:Rel C Y dZ D env S s):(fa env).Nodup:=(aJ.mp R.nd).1
theorem pG (R:Rel C Y dZ D env S s) {x:Str} {c:Addr} (k:Own env x) (e:env.cells.lookup x=some c):c≠env.locals:=by
 have h:=lq R;have m:c ∈ (env.cells.filter fun p=>env.kindOf p.1 == some .cell && env.func.isSome).map (·.2):=aE.mpr ⟨(x,c),cH.mpr ⟨mem_of_lookup e,by simp [k.1,k.2]⟩,rfl⟩
 exact fun q=>(bV.mp h).1 (q▸m)
theorem vP (R:Rel C Y dZ D env S s) {a:Addr} (ha:a ∈ fa env) {p:Addr×AO} (hp:p ∈ S.M):∀ b ∈ foot p,b ∉ [a]/\b ∉ C.T:=fun b hb=>by
 refine ⟨fun q=>?_,R.tn (aa _ (af _ (eU hp hb)))⟩;have:b=a:=by simpa using q
 subst this;exact (aJ.mp R.nd).2.2 b ha b (eU hp hb) rfl
theorem Rel.xu (ok:C.Ok) (R:Rel C Y dZ D env S s) {x:Str} {v:Value} {av:AV} {m:Str->Option Value} (k:env.kindOf x=some .local) (r:VR s.heap (Xo C Y env S) v av)
  (hm:∀ x av,S.μ.lookup x=some av->env.kindOf x=some .local->∃ v,m x=some v/\VR s.heap (Xo C Y env S) v av)
  (hn:s'.heap.Ns env.locals (fun y=>if y=x then some v else m y)) (st:fC C.T [env.locals] s s'):Rel C Y dZ D env ⟨ins x av S.μ,S.M⟩ s'/\Kp C Y env S s ⟨ins x av S.μ,S.M⟩ s':=by
 have hl:=af (fj S.M) (jD env);refine o0_3 (R.one ok hl st) fun bs st' li=>?_;have kp:∀ {v av},VR s.heap (Xo C Y env S) v av->VR s'.heap (Xo C Y env S) v av:=fun r=>r.stp st.heap (R.inX hl) R.hT;refine ⟨⟨bs,R.ev,⟨⟨_,hn,fun y bv e ky=>?_⟩,fun y bv e ky=>?_,fun y c ky e=>?_,fun y bv e=>?_⟩,R.free,fun p hp=>(R.ob p hp).stp st.heap (R.inX hl) R.hT (vP R (jD env) hp),R.nd,R.dis,fun a ha=>⟨(R.hi a ha).1,(R.hi a ha).2.1,?_⟩,st',R.own,R.z⟩,fun v av r=>kp r⟩
 ·rw [fq] at e;by_cases h:y=x
  ·subst h;simp at e;subst e;exact ⟨v,by simp,kp r⟩
  ·rw [aq h] at e;refine o1_3 (hm y bv e ky) fun w e1 r1=>?_;exact ⟨w,by simp [h,e1],kp r1⟩
 ·rw [fq] at e;by_cases h:y=x
  ·subst h;rw [k] at ky;rcases ky with q | q <;> cases q
  ·rw [aq h] at e;refine o2_5 (R.fr.cel y bv e ky) fun c w e1 z1 r1=>?_;refine o1_3 z1 fun o ho hd=>?_;clear z1;refine ⟨c,w,e1,⟨o,?_,hd⟩,kp r1⟩;rcases iO ky with ky | ky
   ·exact st.heap.keep c o ho (by simpa using pG R ky e1) (R.tn (af _ (fB ky e1)))
   ·exact st.heap.keep c o ho (fun q=>R.x8 ky e1 (by have:c=env.locals:=(by simpa using q);exact this▸hl)) (R.kZ ok ky e1)
 ·refine o2_4 (R.fr.cells y c ky e) fun ov o ho hd=>?_;exact ⟨ov,o,st.heap.keep c o ho (by simpa using pG R ky e) (R.tn (af _ (fB ky e))),hd⟩
 ·rw [fq] at e;by_cases h:y=x
  ·subst h;exact .inl k
  ·rw [aq h] at e;exact R.fr.kind y bv e
 ·by_cases h:a=env.locals
  ·subst h;refine o3_5 hn fun o _ _ q _=>?_;clear hn;exact ⟨o,q⟩
  ·exact li a ha h
theorem tZ (R:Rel C Y dZ D env S s) {x y:Str} {c:Addr} (kx:Own env x) (ky:Own env y) (ex:env.cells.lookup x=some c) (ey:env.cells.lookup y=some c):x=y:=by
 have h:=(bV.mp (lq R)).2;have mx:(x,c) ∈ env.cells.filter fun p=>env.kindOf p.1 == some .cell && env.func.isSome:=cH.mpr ⟨mem_of_lookup ex,by simp [kx.1,kx.2]⟩
 have my:(y,c) ∈ env.cells.filter fun p=>env.kindOf p.1 == some .cell && env.func.isSome:=cH.mpr ⟨mem_of_lookup ey,by simp [ky.1,ky.2]⟩
 generalize env.cells.filter (fun p=>env.kindOf p.1 == some .cell && env.func.isSome)=l at h mx my;induction l with
 | nil=>cases mx
 | cons p l ih =>
   simp only [aU,bV] at h;rcases aG.mp mx with ex | mx'
   ·rcases aG.mp my with ey | my'
    ·rw [<- ex] at ey;exact (congrArg Prod.fst ey).symm
    ·subst ex;exact absurd (aE.mpr ⟨(y,c),my',rfl⟩:c ∈ l.map (·.2)) h.1
   ·rcases aG.mp my with ey | my'
    ·subst ey;exact absurd (aE.mpr ⟨(x,c),mx',rfl⟩:c ∈ l.map (·.2)) h.1
    ·exact ih h.2 mx' my'
theorem Rel.setCell (ok:C.Ok) (R:Rel C Y dZ D env S s) {x:Str} {c:Addr} {v:Value} {av:AV} (k:Own env x) (hc:env.cells.lookup x=some c) (r:VR s.heap (Xo C Y env S) v av)
  (hn:s'.heap.IsCell c (some v)) (st:fC C.T [c] s s'):Rel C Y dZ D env ⟨ins x av S.μ,S.M⟩ s'/\Kp C Y env S s ⟨ins x av S.μ,S.M⟩ s':=by
 have hl:=af (fj S.M) (fB k hc);refine o0_3 (R.one ok hl st) fun bs st' li=>?_;have kp:∀ {v av},VR s.heap (Xo C Y env S) v av->VR s'.heap (Xo C Y env S) v av:=fun r=>r.stp st.heap (R.inX hl) R.hT;refine ⟨⟨bs,R.ev,⟨?_,fun y bv e ky=>?_,fun y c' ky e=>?_,fun y bv e=>?_⟩,R.free,fun p hp=>(R.ob p hp).stp st.heap (R.inX hl) R.hT (vP R (fB k hc) hp),R.nd,R.dis,fun a ha=>⟨(R.hi a ha).1,(R.hi a ha).2.1,?_⟩,st',R.own,R.z⟩,fun v av r=>kp r⟩
 ·refine o1_3 R.fr.loc fun m hm q=>?_;refine ⟨m,hm.at' fun o e=>st.heap.keep _ o e (by simpa using (pG R k hc).symm) (R.tn (af _ (jD env))),fun y bv e ky=>?_⟩
  rw [fq] at e;by_cases h:y=x
  ·subst h;rw [k.1] at ky;cases ky
  ·rw [aq h] at e;refine o1_3 (q y bv e ky) fun w e1 r1=>?_;exact ⟨w,e1,kp r1⟩
 ·rw [fq] at e;by_cases h:y=x
  ·subst h;simp at e;subst e;exact ⟨c,v,hc,hn,kp r⟩
  ·rw [aq h] at e;refine o2_5 (R.fr.cel y bv e ky) fun c' w e1 z2 r1=>?_;refine o1_3 z2 fun o ho hd=>?_;clear z2;refine ⟨c',w,e1,⟨o,?_,hd⟩,kp r1⟩;rcases iO ky with ky | ky
   ·exact st.heap.keep c' o ho (fun q=>h (by have:c'=c:=(by simpa using q);subst this;exact tZ R ky k e1 hc)) (R.tn (af _ (fB ky e1)))
   ·exact st.heap.keep c' o ho (fun q=>R.x8 ky e1 (by have:c'=c:=(by simpa using q);exact this▸hl)) (R.kZ ok ky e1)
 ·by_cases h:c'=c
  ·subst h;exact ⟨_,hn⟩
  ·refine o2_4 (R.fr.cells y c' ky e) fun ov o ho hd=>?_;exact ⟨ov,o,st.heap.keep c' o ho (by simpa using h) (R.tn (af _ (fB ky e))),hd⟩
 ·rw [fq] at e;by_cases h:y=x
  ·subst h;exact .inr (.inl k.1)
  ·rw [aq h] at e;exact R.fr.kind y bv e
 ·by_cases h:a=c
  ·subst h;refine o1_3 hn fun o q _=>?_;clear hn;exact ⟨o,q⟩
  ·exact li a ha h
theorem Rel.weak (R:Rel C Y dZ D env S s) {μ:List (Str×AV)} (h:∀ x av,μ.lookup x=some av->S.μ.lookup x=some av):Rel C Y dZ D env ⟨μ,S.M⟩ s :=
 ⟨R.bs,R.ev,⟨let ⟨m,a,b⟩:=R.fr.loc;⟨m,a,fun x av e k=>b x av (h x av e) k⟩,fun x av e k=>R.fr.cel x av (h x av e) k,R.fr.cells,fun x av e=>R.fr.kind x av (h x av e)⟩,R.free,R.ob,R.nd,R.dis,R.hi,R.st,R.own,R.z⟩
theorem yb {M:List (Addr×AO)} {i:Nat} {a:Addr} {o o':AO} (h:M[i]? = some (a,o)) (hm:o'.more=o.more):fj (M.set i (a,o'))=fj M:=by
 unfold fj;induction M generalizing i with
 | nil=>simp at h
 | cons p M ih =>
   cases i with
   | zero=>simp at h;subst h;simp [foot,hm]
   | succ i=>simp at h;simp [ih h]
theorem eu {M:List (Addr×AO)} {i:Nat} {p:Addr×AO} (h:M[i]? = some p):p ∈ M:=aV h
theorem tR {M:List (Addr×AO)} (nd:(fj M).Nodup) {i j:Nat} {p q:Addr×AO} (hi:M[i]? = some p) (hj:M[j]? = some q) (hij:i≠j) {b:Addr} (hb:b ∈ foot p):b ∉ foot q:=by
 unfold fj at nd;induction M generalizing i j with
 | nil=>simp at hi
 | cons r M ih =>
   rw [bQ,aJ] at nd;cases i with
   | zero =>
     cases j with
     | zero=>exact absurd rfl hij
     | succ j =>
       simp at hi hj;subst hi;exact fun hq=>nd.2.2 b hb b (eU (eu hj) hq) rfl
   | succ i =>
     cases j with
     | zero =>
       simp at hi hj;subst hj;exact fun hq=>nd.2.2 b hq b (eU (eu hi) hb) rfl
     | succ j=>simp at hi hj;exact ih nd.2.1 hi hj (by lia)
theorem Rel.kJ (ok:C.Ok) (R:Rel C Y dZ D env S s) {i:Nat} {a b:Addr} {o o':AO} (hM:S.M[i]? = some (a,o)) (hm:o'.more=o.more) (hb:b ∈ foot (a,o)) (st:fC C.T [b] s s') (lb:jr s'.heap b)
  (ob:OR C s'.heap (Xo C Y env S) a o'):Rel C Y dZ D env ⟨S.μ,S.M.set i (a,o')⟩ s'/\Kp C Y env S s ⟨S.μ,S.M.set i (a,o')⟩ s':=by
 have hmem:b ∈ fj S.M:=eU (eu hM) hb;have hl:=aa (fa env) hmem;refine o0_3 (R.one ok hl st) fun bs st' li=>?_;have ef:fj (S.M.set i (a,o'))=fj S.M:=yb hM hm;have eX:Xo C Y env ⟨S.μ,S.M.set i (a,o')⟩=Xo C Y env S:=by unfold Xo;rw [ef]
 have nf:∀ c ∈ fa env,c≠b:=fun c hc q=>(aJ.mp R.nd).2.2 c hc b hmem q;refine ⟨⟨bs,R.ev,eX▸R.fr.stp st.heap (R.inX hl) R.hT (fun c hc=>⟨by simpa using nf c hc,R.tn (af _ hc)⟩) (fun x c k e=>⟨fun q=>R.x8 k e ((show c=b by simpa using q)▸hl),R.kZ ok k e⟩),R.free,fun p hp=>?_,ef▸R.nd,ef▸R.dis,?_,st',ef▸R.own,R.z⟩,fun v av r=>eX▸r.stp st.heap (R.inX hl) R.hT⟩
 ·rw [eX];refine o1_2 (List.getElem?_of_mem hp) fun j hj=>?_;rw [List.getElem?_set] at hj;by_cases hij:i=j
  ·subst hij;rw [ay rfl] at hj;split at hj
   ·cases hj;exact ob
   ·cases hj
  ·rw [aq hij] at hj;refine (R.ob p (eu hj)).stp st.heap (R.inX hl) R.hT fun c hc=>⟨fun q=>?_,R.tn (aa _ (af _ (eU (eu hj) hc)))⟩;have:c=b:=by simpa using q
   subst this;exact tR (aJ.mp R.nd).2.1 hM hj hij hb hc
 ·intro c hc;rw [ef] at hc;refine ⟨(R.hi c hc).1,(R.hi c hc).2.1,?_⟩;by_cases h:c=b
  ·exact h▸lb
  ·exact li c hc h
theorem Rel.newObj (ok:C.Ok) (R:Rel C Y dZ D env S s) {a:Addr} {o:AO} (hf:∀ b ∈ foot (a,o),s.heap.get? b=none/\jr s'.heap b) (hnd:(foot (a,o)).Nodup) (st:fC C.T [] s s')
  (ob:OR C s'.heap (Xo C Y env ⟨S.μ,S.M++[(a,o)]⟩) a o):Rel C Y dZ D env ⟨S.μ,S.M++[(a,o)]⟩ s'/\Kp C Y env S s ⟨S.μ,S.M++[(a,o)]⟩ s':=by
 have R':=R.go ok st;have ef:fj (S.M++[(a,o)])=fj S.M++foot (a,o):=by unfold fj;simp
 have sub:∀ b o',s'.heap.get? b=some o'->b ∉ foot (a,o)->b ∉ Xo C Y env S->b ∉ Xo C Y env ⟨S.μ,S.M++[(a,o)]⟩:=fun b o' _ h1 h2 h3=>by
  unfold Xo at h2 h3;simp only [ef,au] at h2 h3;rcases h3 with h | h | (h | h) | h
  ·exact h2 (.inl h)
  ·exact h2 (.inr (.inl h))
  ·exact h2 (.inr (.inr (.inl h)))
  ·exact h1 h
  ·exact h2 (.inr (.inr (.inr h)))
 have z:∀ a ∈ ([]:List Addr),a ∈ Xo C Y env S:=fun _ h=>nomatch h;have grow:∀ {v av},VR s.heap (Xo C Y env S) v av->VR s'.heap (Xo C Y env ⟨S.μ,S.M++[(a,o)]⟩) v av:=fun r=>by
  have r1:VR s.heap (Xo C Y env ⟨S.μ,S.M++[(a,o)]⟩) _ _:=r.sub fun b o' e n=>by
   intro h3;unfold Xo at n h3;simp only [ef,au] at n h3;rcases h3 with h | h | (h | h) | h
   ·exact n (.inl h)
   ·exact n (.inr (.inl h))
   ·exact n (.inr (.inr (.inl h)))
   ·rw [(hf b h).1] at e;cases e
   ·exact n (.inr (.inr (.inr h)))
  exact r1.stp st.heap (fun _ h=>nomatch h) (fun a h=>af _ h)
 have hsub:∀ b o',s.heap.get? b=some o'->b ∉ Xo C Y env S->b ∉ Xo C Y env ⟨S.μ,S.M++[(a,o)]⟩:=fun b o' e n h3=>by
  unfold Xo at n h3;simp only [ef,au] at n h3;rcases h3 with h | h | (h | h) | h
  ·exact n (.inl h)
  ·exact n (.inr (.inl h))
  ·exact n (.inr (.inr (.inl h)))
  ·rw [(hf b h).1] at e;cases e
  ·exact n (.inr (.inr (.inr h)))
 have hT':∀ b ∈ C.T,b ∈ Xo C Y env ⟨S.μ,S.M++[(a,o)]⟩:=fun b h=>af _ h;have lv:∀ b ∈ fa env++(fj S.M++Y),b ∉ foot (a,o):=fun b hb q=>by
  refine o1_2 ((R.hi b hb).2.2) fun o' e=>?_;rw [(hf b q).1] at e;cases e
 refine ⟨⟨R'.bs,R.ev,(R.fr.sub hsub).stp st.heap (fun _ h=>nomatch h) hT' (fun b hb=>⟨fun h=>(nomatch h),R.tn (af _ hb)⟩) (fun x c k e=>⟨fun h=>(nomatch h),R.kZ ok k e⟩),R.free,fun p hp=>?_,?_,?_,?_,R'.st,?_,R.z⟩,fun v av r=>grow r⟩
 ·rcases au.mp hp with hp | hp
  ·exact ((R.ob p hp).sub hsub).stp st.heap (fun _ h=>nomatch h) hT' fun b hb=>⟨fun h=>(nomatch h),R.tn (aa _ (af _ (eU hp hb)))⟩
  ·have:p=(a,o):=by simpa using hp
   subst this;exact ob
 ·rw [ef,<- aH,aJ];refine ⟨R.nd,hnd,fun b hb c hc q=>?_⟩;subst q;exact lv b (by rw [<- aH];exact af _ hb) hc
 ·intro b hb;rw [ef,<- aH,au];rintro (h | h)
  ·exact R.dis b hb h
  ·exact lv b (aa _ (aa _ hb)) h
 ·intro b hb;rw [ef] at hb;simp only [au] at hb;have old:b ∈ fa env++(fj S.M++Y)->¬ C.Old b/\b ∉ C.T/\jr s'.heap b:=fun h=>R'.hi b h;rcases hb with h | (h | h) | h
  ·exact old (af _ h)
  ·exact old (aa _ (af _ h))
  ·exact ⟨fun q=>(R.bs.live q).ne (hf b h).1 rfl,fun q=>(R.bs.iG q).ne (hf b h).1 rfl,(hf b h).2⟩
  ·exact old (aa _ (aa _ h))
 ·intro b hb;rw [ef,<- aH,au] at hb;rcases hb with h | h
  ·exact R.own b h
  ·cases e:dZ.heap.get? b with
   | none=>exact .inr rfl
   | some o' =>
     by_cases hd:b ∈ D
     ·exact .inl hd
     ·have hbT:b ∉ C.T:=fun q=>(R.bs.iG q).ne (hf b h).1 rfl;have:=R.st.heap.keep b o' e hd hbT;rw [(hf b h).1] at this;cases this
end
end Mine
namespace Mine
noncomputable abbrev EL (C:Cx) (n:Nat) (env:Env) (S:St) (pos:Pos) (es:List Expr) (P:List AV->St->Prop):Prop:=G C n env VRs S (spliced (backTo pos (starEach es env))) P
noncomputable abbrev AT (C:Cx) (n:Nat) (env:Env) (S:St) (op:BoolOp) (es:List Expr) (P:Bool->St->Prop):Prop:=G C n env BR S (allTrue op es env) P
noncomputable abbrev PL (C:Cx) (n:Nat) (env:Env) (S:St) (pos:Pos) (es:List Expr) (l:List AV):Prop:=EL C n env S pos es fun l' S'=>l'=l/\S'=S
section
variable {C:Cx} {n:Nat} {env:Env} {S:St}
theorem PL.then {pos:Pos} {es:List Expr} {l:List AV} {P:List AV->St->Prop} (h:PL C n env S pos es l) (p:P l S):EL C n env S pos es P:=G.mono h fun _ _ x=>by rw [x.1,x.2];exact p
theorem EL.nil {pos:Pos} {P:List AV->St->Prop} (h:P [] S):EL C n env S pos [] P:=fun _ _ _ _ _ _ _ R q=>wpAny_items_nil (q _ _ _ _ h R .refl .nil)
theorem EL.cons {pos:Pos} {e:Expr} {es:List Expr} {P:List AV->St->Prop} (h:EV C n env S e fun a d7=>EL C n env d7 pos es fun l eG=>P (a::l) eG)
  (he:starEach (e::es) env=(false,eval e env)::starEach es env:=by rfl):EL C n env S pos (e::es) P :=
 fun A Y dZ D s Q ha R q=>c9 (h A Y dZ D s _ ha R fun v ee a d7 p d9 eE rv=>p A Y dZ D ee _ ha d9 fun vs d8 l eG fh eB eN rvs =>
  q (v::vs) d8 _ eG fh eB (eE.trans eN) (.cons (eN _ _ rv) rvs)) he
theorem PL.nil {pos:Pos}:PL C n env S pos [] []:=EL.nil ⟨rfl,rfl⟩
theorem PL.cons {pos:Pos} {e:Expr} {es:List Expr} {a:AV} {l:List AV} (h:PE C n env S e a) (t:PL C n env S pos es l)
  (he:starEach (e::es) env=(false,eval e env)::starEach es env:=by rfl):PL C n env S pos (e::es) (a::l) :=
 EL.cons (h.then (t.then ⟨rfl,rfl⟩)) he
theorem ET.val {e:Expr} {P:Bool->St->Prop} (h:EV C n env S e fun a d7=>G1 C n env BR d7 truthy a P)
  (he:isTrue e env (eval e env)=(do let v <- eval e env;standAt e.pos;holding [v] (truthy v)):=by rfl):ET C n env S e P :=
 EV.one (fun _ _ _ x=>wpAny_isTrue_value x he) h
theorem PT.val {e:Expr} {a:AV} {b:Bool} (h:PE C n env S e a) (t:T1 C n env S a b)
  (he:isTrue e env (eval e env)=(do let v <- eval e env;standAt e.pos;holding [v] (truthy v)):=by rfl):PT C n env S e b:=ET.val (h.then t) he
theorem ET.not {e:Expr} {pos:Pos} {P:Bool->St->Prop} (h:ET C n env S e fun b d7=>P (!b) d7):ET C n env S (.UnaryOp .Not e pos) P :=
 fun A Y dZ D s Q ha R q=>wpAny_isTrue_Not (h A Y dZ D s _ ha R fun r ee b d7 p d9 eE e=>q (!r) ee _ d7 p d9 eE (by rw [show r=b from e]))
theorem PT.not {e:Expr} {pos:Pos} {b:Bool} (h:PT C n env S e b):PT C n env S (.UnaryOp .Not e pos) (!b):=ET.not (h.then ⟨rfl,rfl⟩)
theorem AT.BS {P:Bool->St->Prop} (h:P true S):AT C n env S .And [] P:=fun _ _ _ _ _ _ _ R q=>wpAny_allTrue_And_nil (q _ _ _ _ h R .refl rfl)
theorem AT.A3 {P:Bool->St->Prop} (h:P false S):AT C n env S .Or [] P:=fun _ _ _ _ _ _ _ R q=>wpAny_allTrue_Or_nil (q _ _ _ _ h R .refl rfl)
theorem AT.and {e:Expr} {es:List Expr} {P:Bool->St->Prop} (h:ET C n env S e fun b d7=>if b then AT C n env d7 .And es P else P false d7):AT C n env S .And (e::es) P :=
 fun A Y dZ D s Q ha R q=>wpAny_allTrue_And_cons (h A Y dZ D s _ ha R fun r ee b d7 p d9 eE e=>by
  have e:r=b:=e;subst e;cases r
  ·exact q false ee _ d7 p d9 eE rfl
  ·exact p A Y dZ D ee _ ha d9 fun r d8 b eG fh eB eN e=>q r d8 b eG fh eB (eE.trans eN) e)
theorem AT.or {e:Expr} {es:List Expr} {P:Bool->St->Prop} (h:ET C n env S e fun b d7=>if b then P true d7 else AT C n env d7 .Or es P):AT C n env S .Or (e::es) P :=
 fun A Y dZ D s Q ha R q=>wpAny_allTrue_Or_cons (h A Y dZ D s _ ha R fun r ee b d7 p d9 eE e=>by
  have e:r=b:=e;subst e;cases r
  ·exact p A Y dZ D ee _ ha d9 fun r d8 b eG fh eB eN e=>q r d8 b eG fh eB (eE.trans eN) e
  ·exact q true ee _ d7 p d9 eE rfl)
theorem ET.wm {op:BoolOp} {es:List Expr} {pos:Pos} {P:Bool->St->Prop} (h:AT C n env S op es P):ET C n env S (.BoolOp op es pos) P :=
 fun A Y dZ D s Q ha R q=>wpAny_isTrue_BoolOp (h A Y dZ D s Q ha R q)
theorem PT.BU {x y:Expr} {pos:Pos} {a b:Bool} (hx:PT C n env S x a) (hy:a=true->PT C n env S y b):PT C n env S (.BoolOp .And [x,y] pos) (a && b):=by
 refine ET.wm (.and (hx.then ?_))
 cases a
 ·exact ⟨rfl,rfl⟩
 ·refine .and ((hy rfl).then ?_)
  cases b
  ·exact ⟨rfl,rfl⟩
  ·exact .BS ⟨rfl,rfl⟩
theorem PT.or2 {x y:Expr} {pos:Pos} {a b:Bool} (hx:PT C n env S x a) (hy:a=false->PT C n env S y b):PT C n env S (.BoolOp .Or [x,y] pos) (a || b):=by
 refine ET.wm (.or (hx.then ?_))
 cases a
 ·refine .or ((hy rfl).then ?_)
  cases b
  ·exact .A3 ⟨rfl,rfl⟩
  ·exact ⟨rfl,rfl⟩
 ·exact ⟨rfl,rfl⟩
theorem EV.CI {t x y:Expr} {pos:Pos} {P:AV->St->Prop} (h:ET C n env S t fun b d7=>if b then EV C n env d7 x P else EV C n env d7 y P):EV C n env S (.IfExp t x y pos) P :=
 fun A Y dZ D s Q ha R q=>wpAny_IfExp (h A Y dZ D s _ ha R fun r ee b d7 p d9 eE e=>by
  have e:r=b:=e;subst e;cases r
  ·exact p A Y dZ D ee _ ha d9 fun r d8 b eG fh eB eN e=>q r d8 b eG fh eB (eE.trans eN) e
  ·exact p A Y dZ D ee _ ha d9 fun r d8 b eG fh eB eN e=>q r d8 b eG fh eB (eE.trans eN) e)
theorem EV.sub {value slice:Expr} {pos:Pos} {P:AV->St->Prop} (h:EV C n env S value fun a d7=>EV C n env d7 slice fun b eG=>V2 C n env eG (subscriptTail value slice) a b P):EV C n env S (.Subscript value slice pos) P :=
 EV.two (m:=subscriptTail value slice) (fun _ _ _ x=>Subscript_ x) h
theorem PE.sub {value slice:Expr} {pos:Pos} {a b c:AV} (hl:PE C n env S value a) (hr:PE C n env S slice b) (o:P2 C n env S (subscriptTail value slice) a b c):PE C n env S (.Subscript value slice pos) c :=
 EV.sub (hl.then (hr.then o))
theorem PE.glob {x:Str} {v:Value} {pos:Pos} (hk:env.kindOf x=some .globalImplicit) (h:C.mg x=some v) (hd:(x == ("__debug__" : Str))=false:=by decide):PE C n env S (.Name x pos) (.raw v) :=
 fun A Y dZ D s Q ha R q=>dB R.ev.kind hk (Calls.loadGlobal_global (mg:=C.mg) (by rw [R.ev.glob];exact R.bs.g) h (q _ _ _ _ ⟨rfl,rfl⟩ R .refl (.raw _))) hd
theorem PE.gB {x:Str} {v:Value} {pos:Pos} (hk:env.kindOf x=some .globalImplicit) (h:C.mg x=Option.none) (hv:C.mb x=some v) (hd:(x == ("__debug__" : Str))=false:=by decide):PE C n env S (.Name x pos) (.raw v) :=
 fun A Y dZ D s Q ha R q=>dB R.ev.kind hk (Calls.loadGlobal_builtin (mg:=C.mg) (mb:=C.mb) (by rw [R.ev.glob];exact R.bs.g) h (by rw [R.ev.wV];exact R.bs.b) hv (q _ _ _ _ ⟨rfl,rfl⟩ R .refl (.raw _))) hd
end
section
variable {C:Cx} (ok:C.Ok) {n:Nat} {env:Env} {S:St}
include ok
theorem EV.tuple {es:List Expr} {k:Nat} {pos:Pos} {P:AV->St->Prop} (h:EL C n env S pos es fun l d7=>l.length<=sizeLine/\P (.tup l) d7):EV C n env S (.Tuple es k pos) P :=
 fun A Y dZ D s Q ha R q=>wpAny_Tuple (h A Y dZ D s _ ha R fun vs ee l d7 p d9 eE rv=>⟨by rw [rv.length];exact p.1,q _ _ _ d7 p.2 (d9.go ok (.alloc ..)) (eE.trans (Kp.go d9 (.alloc ..)))
  (.tup (aI _ rfl) (fun h=>(d9.live h).ne (eH _) rfl) (VRs.stp (Stp.push C.T ..) (fun _ h=>nomatch h) d9.hT rv))⟩)
theorem PE.tuple {es:List Expr} {k:Nat} {pos:Pos} {l:List AV} (h:PL C n env S pos es l) (hz:l.length<=sizeLine:=by decide):PE C n env S (.Tuple es k pos) (.tup l):=EV.tuple ok (h.then ⟨hz,rfl,rfl⟩)
theorem EV.list {es:List Expr} {pos:Pos} {P:AV->St->Prop} (h:EL C n env S pos es fun l d7=>l.length<=sizeLine/\P (.lst l) d7):EV C n env S (.List es pos) P :=
 fun A Y dZ D s Q ha R q=>wpAny_List (h A Y dZ D s _ ha R fun vs ee l d7 p d9 eE rv=>⟨by rw [rv.length];exact p.1,q _ _ _ d7 p.2 (d9.go ok (.alloc ..)) (eE.trans (Kp.go d9 (.alloc ..)))
  (.lst (aI _ rfl) (fun h=>(d9.live h).ne (eH _) rfl) (VRs.stp (Stp.push C.T ..) (fun _ h=>nomatch h) d9.hT rv))⟩)
theorem PE.list {es:List Expr} {pos:Pos} {l:List AV} (h:PL C n env S pos es l) (hz:l.length<=sizeLine:=by decide):PE C n env S (.List es pos) (.lst l):=EV.list ok (h.then ⟨hz,rfl,rfl⟩)
theorem EV.qE {es:List Expr} {pos:Pos} {P:AV->St->Prop} (h:EL C n env S pos es fun l d7=>l.length<=sizeLine/\∀ a,P (.raw (.ref a)) ⟨d7.μ,d7.M++[(a,.list l)]⟩):EV C n env S (.List es pos) P :=
 fun A Y dZ D s Q ha R q=>wpAny_List (h A Y dZ D s _ ha R fun vs ee l d7 p d9 eE rv=>by
  refine ⟨by rw [rv.length];exact p.1,?_⟩
  refine o0_2 (d9.newObj ok (a:=ee.heap.objs.size) (o:=.list l) (s':={ ee with heap:=ee.heap.push { cls:=.type "list", data:=.seq vs.toArray } })
   (fun b hb=>by have:b=ee.heap.objs.size:=(by simpa [foot,AO.more] using hb);subst this;exact ⟨eH _,_,aI _ rfl⟩) (by simp [foot,AO.more]) (.alloc ..)
   ⟨vs,0,aI _ rfl,by
    refine VRs.stp (Stp.push C.T ..) (fun _ h=>nomatch h) (fun b h=>af _ h) (rv.sub fun b o e n=>?_);intro h3;simp only [Xo,fj,au,c8,bQ,List.flatMap_nil,bf,foot,AO.more,ao] at n h3;rcases h3 with h | h | (h | h) | h
    ·exact n (.inl h)
    ·exact n (.inr (.inl h))
    ·exact n (.inr (.inr (.inl h)))
    ·subst h;rw [eH] at e;cases e
    ·exact n (.inr (.inr (.inr h)))⟩) fun eB eN=>?_
  exact q _ _ _ _ (p.2 _) eB (eE.trans eN) (.raw _))
omit ok in
theorem sF {h:Heap} {a:Addr} {vs:List Value} {k:Nat} (e:h.get? a=some ⟨.type "tuple", Option.none,.seq vs.toArray k,#[]⟩):IsTup h a vs.toArray:=⟨_,e,rfl,_,rfl⟩
omit ok in
theorem e8 {h:Heap} {a:Addr} {vs:List Value} {k:Nat} (e:h.get? a=some ⟨.type "list", Option.none,.seq vs.toArray k,#[]⟩):h.IsList a vs.toArray:=⟨_,e,rfl,_,rfl⟩
namespace O
variable {value slice:Expr}
theorem nS {l:List AV} {k:Int} {j:Nat} {c:AV} (hk:seqIndex? k l.length=some j) (hj:l[j]? = some c) (hlo : -2 ^ 63<=k:=by decide) (hhi:k<2 ^ 63:=by decide)
  (hs:∀ t u,subscripted slice false (.ref t) (.int k u)=operate [.ref t,.int k u] (getItem (.ref t) (.int k u)):=by intros;with_unfolding_all rfl):P2 C n env S (subscriptTail value slice) (.tup l) (.int k) c :=
 .of ok fun A X s v v' Q ha B r r' _ _ q=>by
  refine VR.pW r fun _ _ _ e nx rs=>?_
  ·
   refine VR.ff r' fun u=>?_
   ·
    refine o1_3 (rs.get hj) fun x hx rx=>?_;exact item_tupleT (sF e) hlo hhi (by rw [rs.length];exact hk) hx (q _ _ (.refl ..) rx) (hs _ _)
end O
end
end Mine
namespace Mine
noncomputable def ie {K:Type} [DecidableEq K] (l:List (K×AV)) (k:K):Option AV:=(l.find? fun kv=>kv.1=k).map (·.2)
noncomputable def iZ {K:Type} [DecidableEq K] (l:List (K×AV)) (k:K) (v:AV):List (K×AV):=if l.any (fun kv=>kv.1=k) then l.map (fun kv=>if kv.1=k then (kv.1,v) else kv) else l++[(k,v)]
section
variable {h:Heap} {X:List Addr} {K:Type} [DecidableEq K]
theorem PRs.any {kvs:List (K×Value)} {l:List (K×AV)} (r:PRs h X kvs l) (k:K):kvs.any (fun kv=>kv.1=k)=l.any (fun kv=>kv.1=k):=by
 induction r with
 | nil=>rfl
 | cons a b ih=>simp [ih]
theorem PRs.length {kvs:List (K×Value)} {l:List (K×AV)} (r:PRs h X kvs l):kvs.length=l.length:=by
 induction r with
 | nil=>rfl
 | cons a b ih=>simp [ih]
theorem PRs.at {kvs:List (K×Value)} {l:List (K×AV)} (r:PRs h X kvs l) {k:K} {a:AV} (e:ie l k=some a):∃ v,valueAt kvs k=some v/\VR h X v a:=by
 induction r with
 | nil=>simp [ie] at e
 | @cons k' v a' vs l' p q ih =>
   unfold ie at e;unfold valueAt;simp only [bN] at e ⊢;by_cases hk:k'=k
   ·subst hk;simp at e;subst e;exact ⟨v,by simp,p⟩
   ·simp only [hk,decide_false] at e ⊢;exact ih e
theorem PRs.none {kvs:List (K×Value)} {l:List (K×AV)} (r:PRs h X kvs l) {k:K} (e:ie l k=Option.none):valueAt kvs k=Option.none:=by
 induction r with
 | nil=>rfl
 | @cons k' v a' vs l' p q ih =>
   unfold ie at e;unfold valueAt;simp only [bN] at e ⊢;by_cases hk:k'=k
   ·subst hk;simp at e
   ·simp only [hk,decide_false] at e ⊢;exact ih e
theorem PRs.append {kvs kvs':List (K×Value)} {l l':List (K×AV)} (r:PRs h X kvs l) (r':PRs h X kvs' l'):PRs h X (kvs++kvs') (l++l'):=by
 induction r with
 | nil=>exact r'
 | cons a b ih=>exact .cons a ih
theorem PRs.put {kvs:List (K×Value)} {l:List (K×AV)} (r:PRs h X kvs l) {k:K} {v:Value} {a:AV} (ra:VR h X v a):PRs h X (kvs.map (fun kv=>if kv.1=k then (kv.1,v) else kv)) (l.map (fun kv=>if kv.1=k then (kv.1,a) else kv)):=by
 induction r with
 | nil=>exact .nil
 | @cons k' v a' vs l' p q ih =>
   simp only [aU];by_cases hk:k'=k
   ·simp only [hk,if_true];exact .cons ra ih
   ·simp only [hk,cg];exact .cons p ih
theorem PRs.stored {kvs:List (K×Value)} {l:List (K×AV)} (r:PRs h X kvs l) {k:K} {v:Value} {a:AV} (ra:VR h X v a):PRs h X (PySem.stored kvs k v) (iZ l k a):=by
 unfold PySem.stored iZ;rw [r.any k];cases l.any (fun kv=>decide (kv.1=k))
 ·exact r.append (.cons ra .nil)
 ·exact r.put ra
end
section
variable {C:Cx} (ok:C.Ok) {n:Nat} {env:Env} {S:St}
include ok
theorem xJ {α β:Type} {RR:Heap->List Addr->α->β->Prop} {Y:List Addr} {dZ s:Shared} {D:List Addr} {Q:α->Shared->Prop} {b:β}
  (R:Rel C Y dZ D env S s) (q:∀ r s' b' S',(b'=b/\S'=S)->Rel C Y dZ D env S' s'->Kp C Y env S s S' s'->RR s'.heap (Xo C Y env S') r b'->Q r s') (r:α) (s':Shared) (x:fC C.T [] s s')
  (rr:RR s'.heap (Xo C Y env S) r b):Q r s':=q r s' b S ⟨rfl,rfl⟩ (R.go ok x) (Kp.go R x) rr
namespace O
variable {value slice:Expr}
theorem ju {a:Addr} {l:List AV} {k:Int} {c:AV} (hM:(a,AO.list l) ∈ S.M) (h0:0<=k) (hk:l[k.toNat]? = some c) (hhi:k<2 ^ 63)
  (hs:∀ t u,subscripted slice false (.ref t) (.int k u)=operate [.ref t,.int k u] (getItem (.ref t) (.int k u)):=by intros;with_unfolding_all rfl)
  (hg:∀ t r,letTemporaryGo value (.ref t) r=pure ():=by intros;with_unfolding_all rfl):P2 C n env S (subscriptTail value slice) (.raw (.ref a)) (.int k) c :=
 fun A Y dZ D s v v' Q ha R r r' q=>by
  refine VR.fM r ?_
  ·
   refine VR.ff r' fun u=>?_
   ·
    refine o2_4 (R.ob _ hM) fun vs kk e rs=>?_;refine o1_3 (rs.get hk) fun x hx rx=>?_;exact item_listL (e8 e) h0 hhi hx (xJ ok R q _ _ (.refl ..) rx) (hs _ _) (hg _)
theorem nT {x:Str} {i:Int} (hr:fitsSsize i=true) (h1 : -(x.length:Int)<=i) (h2:i<x.length)
  (hs:∀ t u,subscripted slice false (.str x t) (.int i u)=operate [.str x t,.int i u] (getItem (.str x t) (.int i u)):=by intros;with_unfolding_all rfl)
  (ht:∀ t r,letTemporaryGo value (.str x t) r=pure ():=by intros;with_unfolding_all rfl):P2 C n env S (subscriptTail value slice) (.str x) (.int i) (.str (Txt.item x i)) :=
 .of ok fun A X s v v' Q ha B r r' _ _ q=>by
  refine VR.fO r fun _=>?_;refine VR.ff r' fun _=>?_;exact item_str hr h1 h2 (fun _=>q _ _ (.toks ..) (.str ..)) (hs _ _) (ht _)
end O
end
end Mine
namespace Mine
noncomputable def GN {α β:Type} (C:Cx) (n:Nat) (env:Env) (RR:Heap->List Addr->α->β->Prop) (S:St) (m:List Value->Sem α) (as:List AV) (P:β->St->Prop):Prop :=
 ∀ A Y dZ D s vs Q,AOk n A->Rel C Y dZ D env S s->VRs s.heap (Xo C Y env S) vs as ->
   (∀ r s' b S',P b S'->Rel C Y dZ D env S' s'->Kp C Y env S s S' s'->RR s'.heap (Xo C Y env S') r b->Q r s')->wpAny (model C.prog C.w) A (m vs) Q No s
noncomputable abbrev VN (C:Cx) (n:Nat) (env:Env) (S:St) (m:List Value->Sem Value) (as:List AV) (P:AV->St->Prop):Prop:=GN C n env VR S m as P
noncomputable abbrev PN (C:Cx) (n:Nat) (env:Env) (S:St) (m:List Value->Sem Value) (as:List AV) (c:AV):Prop:=VN C n env S m as fun x S'=>x=c/\S'=S
section
variable {C:Cx} {n:Nat} {env:Env} {S:St}
theorem GN.mono {α β:Type} {RR:Heap->List Addr->α->β->Prop} {m:List Value->Sem α} {a:List AV} {P P':β->St->Prop} (h:GN C n env RR S m a P) (hp:∀ b S',P b S'->P' b S'):GN C n env RR S m a P' :=
 fun A Y dZ D s v Q ha R r q=>h A Y dZ D s v Q ha R r fun r s' b S' p=>q r s' b S' (hp b S' p)
theorem EV.i6 {id:String} {x:Str} {e:Expr} {es:List Expr} {p pos:Pos} {P:AV->St->Prop} (hf:PE C n env S (.Name x p) (.raw (.builtin id)))
  (h:EL C n env S pos (e::es) fun l d7=>VN C n env d7 (fun vs=>call (.builtin id) vs) l P)
  (he:starEach (e::es) env=(false,eval e env)::starEach es env:=by rfl) (hplain:(backTo pos (starEach es env)).any (·.1)=false:=by rfl):EV C n env S (.Call (.Name x p) (e::es) [] pos) P :=
 fun A Y dZ D s Q ha R q=>cL (G.at hf ha R fun f ee d9 eE fy=>by
  refine VR.fM fy ?_;refine PyProof.Rows.callWith_builtin1 ?_ he hplain;exact h A Y dZ D ee _ ha d9 fun vs d8 l eG fh eB eN fz=>fh A Y dZ D d8 vs Q ha eB fz fun r ez b fk fF eV fG f7=>q r ez b fk fF eV ((eE.trans eN).trans fG) f7)
theorem EV.jo {T:String} {x:Str} {e:Expr} {p pos:Pos} {P:AV->St->Prop} (hf:PE C n env S (.Name x p) (.raw (.type T)))
  (h:EV C n env S e fun a d7=>V1 C n env d7 (fun v=>call (.type T) [v]) a P) (hs:starEach [e] env=[(false,eval e env)]:=by rfl):EV C n env S (.Call (.Name x p) [e] [] pos) P :=
 fun A Y dZ D s Q ha R q=>Call_name1 hs (G.at hf ha R fun f ee d9 eE fy=>by
  refine VR.fM fy ?_;refine callWith_type1 ?_;exact h A Y dZ D ee _ ha d9 fun v d8 a eG fh eB eN fz=>fh A Y dZ D d8 v Q ha eB fz fun r ez b fk fF eV fG f7=>q r ez b fk fF eV ((eE.trans eN).trans fG) f7)
theorem EV.j3 {f:Addr} {o:Obj} {fd:FuncData} {x:Str} {e:Expr} {es:List Expr} {p pos:Pos} {P:AV->St->Prop} (hf:PE C n env S (.Name x p) (.raw (.ref f))) (ho:C.K.lookup f=some o) (hd:o.data = .func fd)
  (h:EL C n env S pos (e::es) fun l d7=>VN C n env d7 (fun vs=>call (.ref f) vs) l P)
  (he:starEach (e::es) env=(false,eval e env)::starEach es env:=by rfl):EV C n env S (.Call (.Name x p) (e::es) [] pos) P :=
 fun A Y dZ D s Q ha R q=>cL (G.at hf ha R fun g ee d9 eE fy=>by
  refine VR.fM fy ?_;refine callWith_function_kw (o:=o) (fd:=fd) ?_;rw [he];refine evalArgs_plain ?_;have h':=h A Y dZ D ee (fun vs d8=>(d8.heap.get? f=some o/\o.data = .func fd)/\wpAny (model C.prog C.w) A (call (.ref f) vs) Q No d8) ha d9 fun vs d8 l eG fh eB eN fz=>⟨⟨eB.bs.K _ _ ho,hd⟩,fh A Y dZ D d8 vs Q ha eB fz fun r ez b fk fF eV fG f7=>q r ez b fk fF eV ((eE.trans eN).trans fG) f7⟩;rw [he] at h';exact h')
end
section
variable {C:Cx} (ok:C.Ok) {n:Nat} {env:Env} {S:St}
include ok
theorem sm0 {o:Expr} {name:Str} {apos pos:Pos} {x:Str} {c:AV} (ho:PE C n env S o (.str x))
  (h:∀ (A:Around) (s:Shared) t (Q:Value->Shared->Prop),(∀ r s',fC C.T [] s s'->(∀ X,VR s'.heap X r c)->Q r s')->MethodOnS C.prog C.w A No name (.str x t) pos [] Q s)
  (hbase:attributeBase o name env (eval o env)=eval o env:=by rfl) (hline:(apos.endLine == pos.line)=true:=by rfl):PE C n env S (.Call (.Attribute o name apos) [] [] pos) c :=
 fun A Y dZ D s Q ha R q=>Call_method0 hbase hline (G.at ho ha R fun f ee d9 eE fy=>by
  refine VR.fO fy fun _=>?_;exact h A ee _ Q fun r s' x rr=>q r s' _ S ⟨rfl,rfl⟩ (d9.go ok x) (eE.trans (Kp.go d9 x)) (rr _))
theorem sm1 {o e:Expr} {name:Str} {apos pos:Pos} {x y:Str} {c:AV} (ho:PE C n env S o (.str x)) (he:PE C n env S e (.str y))
  (h:∀ (A:Around) (s:Shared) t (a:Sem Value) (Q:Value->Shared->Prop),wpAny (model C.prog C.w) A a (fun v ee=>∃ u,v = .str y u/\∀ r s',fC C.T [] ee s'->(∀ X,VR s'.heap X r c)->Q r s') No s->MethodOnS C.prog C.w A No name (.str x t) pos [(false,a)] Q s)
  (hbase:attributeBase o name env (eval o env)=eval o env:=by rfl) (hs:starEach [e] env=[(false,eval e env)]:=by rfl) (hline:(apos.endLine == pos.line)=true:=by rfl):PE C n env S (.Call (.Attribute o name apos) [e] [] pos) c :=
 fun A Y dZ D s Q ha R q=>Call_method1 hbase hs hline (G.at ho ha R fun f ee d9 eE fy=>by
  refine VR.fO fy fun _=>?_;refine h A ee _ _ Q (G.at he ha d9 fun v d8 eB eN fz=>?_);refine VR.fO fz fun _=>?_;exact ⟨_,rfl,fun r s' x rr=>q r s' _ S ⟨rfl,rfl⟩ (eB.go ok x) ((eE.trans eN).trans (Kp.go eB x)) (rr _)⟩)
section
variable {o e:Expr} {apos pos:Pos} {x y:Str}
variable (hbase:∀ name,attributeBase o name env (eval o env)=eval o env:=by intro _;rfl) (hline:(apos.endLine == pos.line)=true:=by rfl)
theorem PE.lower (ho:PE C n env S o (.str x)) (hz:Builtin.Str.tooLong (Txt.lower x).length=false)
  (hbase:attributeBase o "lower" env (eval o env)=eval o env:=by rfl) (hline:(apos.endLine == pos.line)=true:=by rfl):PE C n env S (.Call (.Attribute o "lower" apos) [] [] pos) (.str (Txt.lower x)) :=
 sm0 ok ho (fun _ _ _ _ q=>SB.lower hz (q _ _ (.toks ..) fun _=>.str ..)) hbase hline
theorem PE.upper (ho:PE C n env S o (.str x)) (hz:Builtin.Str.tooLong (Txt.upper x).length=false)
  (hbase:attributeBase o "upper" env (eval o env)=eval o env:=by rfl) (hline:(apos.endLine == pos.line)=true:=by rfl):PE C n env S (.Call (.Attribute o "upper" apos) [] [] pos) (.str (Txt.upper x)) :=
 sm0 ok ho (fun _ _ _ _ q=>SB.upper hz (q _ _ (.toks ..) fun _=>.str ..)) hbase hline
theorem PE.find (ho:PE C n env S o (.str x)) (he:PE C n env S e (.str y))
  (hbase:attributeBase o "find" env (eval o env)=eval o env:=by rfl) (hs:starEach [e] env=[(false,eval e env)]:=by rfl) (hline:(apos.endLine == pos.line)=true:=by rfl):PE C n env S (.Call (.Attribute o "find" apos) [e] [] pos) (.int (Txt.find x y)) :=
 sm1 ok ho he (fun _ _ _ _ _ q=>SB.find (bx q (fun _ _ ⟨u,e,z⟩=>⟨_,u,e,z _ _ (.toks ..) fun _=>.int ..⟩) fun _ _ e=>e)) hbase hs hline
theorem PE.rfind (ho:PE C n env S o (.str x)) (he:PE C n env S e (.str y))
  (hbase:attributeBase o "rfind" env (eval o env)=eval o env:=by rfl) (hs:starEach [e] env=[(false,eval e env)]:=by rfl) (hline:(apos.endLine == pos.line)=true:=by rfl):PE C n env S (.Call (.Attribute o "rfind" apos) [e] [] pos) (.int (Txt.rfind x y)) :=
 sm1 ok ho he (fun _ _ _ _ _ q=>SB.rfind (bx q (fun _ _ ⟨u,e,z⟩=>⟨_,u,e,z _ _ (.toks ..) fun _=>.int ..⟩) fun _ _ e=>e)) hbase hs hline
theorem PE.startswith (ho:PE C n env S o (.str x)) (he:PE C n env S e (.str y))
  (hbase:attributeBase o "startswith" env (eval o env)=eval o env:=by rfl) (hs:starEach [e] env=[(false,eval e env)]:=by rfl) (hline:(apos.endLine == pos.line)=true:=by rfl):PE C n env S (.Call (.Attribute o "startswith" apos) [e] [] pos) (.bool (Txt.startswith x y)) :=
 sm1 ok ho he (fun _ _ _ _ _ q=>SB.startswith (bx q (fun _ _ ⟨u,e,z⟩=>⟨_,u,e,z _ _ (.refl ..) fun _=>.bool ..⟩) fun _ _ e=>e)) hbase hs hline
theorem PE.index {i:Nat} {rest:List Nat} (ho:PE C n env S o (.str x)) (he:PE C n env S e (.str y)) (hi:Builtin.Str.occurrences x y 0 x.length 1=i::rest)
  (hbase:attributeBase o "index" env (eval o env)=eval o env:=by rfl) (hs:starEach [e] env=[(false,eval e env)]:=by rfl) (hline:(apos.endLine == pos.line)=true:=by rfl):PE C n env S (.Call (.Attribute o "index" apos) [e] [] pos) (.int i) :=
 sm1 ok ho he (fun _ _ _ _ _ q=>SB.index (bx q (fun _ _ ⟨u,e,z⟩=>⟨_,u,e,i,rest,hi,z _ _ (.toks ..) fun _=>.int ..⟩) fun _ _ e=>e)) hbase hs hline
end
theorem oJ {o lo:Expr} {p pos:Pos} {x:Str} {i:Int} (ho:PE C n env S o (.str x)) (hi:PE C n env S lo (.int i)) (hz:x.length<=sizeLine)
  (hg:∀ o' r,letTemporaryGo o o' r=pure ():=by intros;with_unfolding_all rfl):PE C n env S (.Subscript o (.Slice (some lo) none none p) pos) (.str (Txt.slice x (some i) none)) :=
 fun A Y dZ D s Q ha R q=>wpAny_Subscript_str_slice (G.at ho ha R fun v ee d9 eE fy=>by
  refine VR.fO fy fun t=>?_
  ·
   rw [dD];refine G.at hi ha d9 fun v d8 eB eN fz=>?_;refine VR.ff fz fun u=>?_
   ·
    rw [c7];exact ak ⟨x,t,some (i,u),none,rfl,rfl,rfl,post_val_or_str ⟨bC (cM x _ _) hz,fun t' k=>q _ _ _ S ⟨rfl,rfl⟩ ((eB.go ok (.alloc ..)).go ok (.toks ..)) ((eE.trans eN).trans (Kp.go eB ((fC.alloc ..).gP (.toks ..)))) (.str ..)⟩⟩) hg
end
end Mine
end
section
open PySem PySem.W PySem.Calls PyProof.Rows
namespace Mine
noncomputable def NX (C:Cx) (n:Nat) (env:Env) (rest:List Stmt) (P:AF->St->Prop) (f:AF) (S:St):Prop :=
 match f with | .next=>EX C n env S rest P | f=>P f S
section
variable {C:Cx} {n:Nat} {env:Env} {S:St}
theorem EX.nil {P:AF->St->Prop} (h:P .next S):EX C n env S [] P:=fun _ _ _ _ _ _ _ R q=>dm (q _ _ _ _ h R .refl .next)
theorem EX.cons {st:Stmt} {rest:List Stmt} {P:AF->St->Prop} (h:E1 C n env S st (NX C n env rest P)):EX C n env S (st::rest) P :=
 fun A Y dZ D s Q ha R q=>wpAny_execs_cons (h A Y dZ D s _ ha R fun f ee b d7 p d9 eE r=>by
  cases r with
  | next=>exact p A Y dZ D ee Q ha d9 fun f d8 b eG fh eB eN fz=>q f d8 b eG fh eB (eE.trans eN) fz
  | brk=>exact q _ _ _ _ p d9 eE .brk
  | cont=>exact q _ _ _ _ p d9 eE .cont
  | ret r=>exact q _ _ _ _ p d9 eE (.ret r))
theorem E1.ret {e:Expr} {pos:Pos} {P:AF->St->Prop} (h:EV C n env S e fun a d7=>P (.ret a) d7):E1 C n env S (.Return (some e) pos) P :=
 fun A Y dZ D s Q ha R q=>wpAny_Return_some (h A Y dZ D s _ ha R fun v ee a d7 p d9 eE r=>q _ _ _ _ p d9 eE (.ret r))
theorem E1.brk {pos:Pos} {P:AF->St->Prop} (h:P .brk S):E1 C n env S (.Break pos) P:=fun A Y dZ D s Q ha R q=>wpAny_Break (q _ _ _ _ h R .refl .brk)
theorem E1.ite {t:Expr} {x y:List Stmt} {pos:Pos} {P:AF->St->Prop} (h:ET C n env S t fun b d7=>if b then EX C n env d7 x P else EX C n env d7 y P):E1 C n env S (.If t x y pos) P :=
 fun A Y dZ D s Q ha R q=>wpAny_If (h A Y dZ D s _ ha R fun r ee b d7 p d9 eE e=>by
  have e:r=b:=e;subst e;cases r
  ·exact p A Y dZ D ee _ ha d9 fun r d8 b eG fh eB eN e=>q r d8 b eG fh eB (eE.trans eN) e
  ·exact p A Y dZ D ee _ ha d9 fun r d8 b eG fh eB eN e=>q r d8 b eG fh eB (eE.trans eN) e)
theorem E1.expr {e:Expr} {pos:Pos} {P:AF->St->Prop} (h:EV C n env S e fun _ d7=>P .next d7)
  (hi:interactive env=false:=by rfl) (hs:swapsWith e none pos.line env=pure false:=by rfl):E1 C n env S (.Expr e pos) P :=
 fun A Y dZ D s Q ha R q=>by
  show wpAny _ _ (exec (.Expr e pos) env) _ _ _;rw [exec_Expr env e pos hi hs];exact ah (bY (ah (h A Y dZ D s _ ha R fun v ee a d7 p d9 eE r=>wpAny_dropValue (q _ _ _ _ p d9 eE .next))))
end
section
variable {C:Cx} (ok:C.Ok) {n:Nat} {env:Env} {S:St}
include ok
omit ok in
theorem fC.wj {T:List Addr} {s:Shared} {h':Heap} (hb:Heap.ExtBut s.heap.objs.size s.heap h') (hT:s.heap.objs.size ∉ T):fC T [] s { s with heap:=h' } :=
 ⟨(Stp.extBut hb hT).fresh (fun b hb=>by have e:b=s.heap.objs.size:=(by simpa using hb);subst e;exact eH _),rfl,rfl,id⟩
theorem store (Y:List Addr) {x:Str} {A:Around} {dZ s:Shared} {D:List Addr} {v:Value} {av:AV} {Q:Unit->Shared->Prop} (hk:env.kindOf x=some .local\/Own env x/\∃ c,env.cells.lookup x=some c)
  (R:Rel C Y dZ D env S s) (r:VR s.heap (Xo C Y env S) v av) (q:∀ s',Rel C Y dZ D env ⟨ins x av S.μ,S.M⟩ s'->Kp C Y env S s ⟨ins x av S.μ,S.M⟩ s'->Q () s'):wpAny (model C.prog C.w) A (storeName env x v) Q No s:=by
 rcases hk with hk | ⟨hk,c,hc⟩
 ·refine o1_3 R.fr.loc fun m hn hm=>?_;refine wpAny_storeName_local hk hn (fun h' hn' hs=>?_) (by rw [R.ev.kind];rfl)
  have st:fC C.T [env.locals] s { s with heap:=h',toks:=s.toks+1 }:=⟨.sameBut hs (R.tn (af _ (jD env))),rfl,rfl,id⟩
  refine o0_2 (R.xu ok (s':={ s with heap:=h',toks:=s.toks+1 }) hk r hm hn' st) fun R' K'=>?_
  exact q _ R' K'
 ·refine o1_2 (R.fr.cells x c hk hc) fun ov hv=>?_;refine wpAny_storeName_cell R.ev.kind hk.1 hc hv (fun h' hc' hs=>?_);have st:fC C.T [c] s { s with heap:=h' }:=⟨.sameBut hs (R.tn (af _ (fB hk hc))),rfl,rfl,id⟩
  refine o0_2 (R.setCell ok (s':={ s with heap:=h' }) hk hc r hc' st) fun R' K'=>?_
  exact q _ R' K'
theorem E1.assign {x:Str} {px pos:Pos} {e:Expr} {P:AF->St->Prop} (hk:env.kindOf x=some .local\/Own env x/\∃ c,env.cells.lookup x=some c)
  (h:EV C n env S e fun a d7=>P .next ⟨ins x a d7.μ,d7.M⟩)
  (hs:swapsWith e (some (.Name x px)) pos.line env=pure false:=by rfl):E1 C n env S (.Assign [.Name x px] e pos) P :=
 fun A Y dZ D s Q ha R q=>wpAny_Assign_Name (h A Y dZ D s _ ha R fun v ee a d7 p d9 eE r=>store ok Y hk d9 r fun s' R' K'=>q _ _ _ _ p R' (eE.trans K') .next) hs
noncomputable def TG (C:Cx) (n:Nat) (env:Env) (S:St) (t:Expr) (a:AV) (P:St->Prop):Prop :=
 ∀ A Y dZ D s v Q,AOk n A->Rel C Y dZ D env S s->VR s.heap (Xo C Y env S) v a->(∀ s' S',P S'->Rel C Y dZ D env S' s'->Kp C Y env S s S' s'->Q () s')->wpAny (model C.prog C.w) A (assign t env v) Q No s
theorem TG.name {x:Str} {p:Pos} {a:AV} {P:St->Prop} (hk:env.kindOf x=some .local\/Own env x/\∃ c,env.cells.lookup x=some c) (h:P ⟨ins x a S.μ,S.M⟩):TG C n env S (.Name x p) a P :=
 fun A Y dZ D s v Q ha R r q=>cD (store ok Y hk R r fun s' R' K'=>q _ _ h R' K')
end
end Mine
end
section
open PySem PySem.W PySem.Calls PyProof.Rows
set_option tactic.hygienic false
namespace Mine
theorem CY {α:Type} {M:Model} {A:Around} {m:Sem α} {Q:α->Shared->Prop} {E:Value->Shared->Prop} {s:Shared} (h:wpAny M A m Q No s):wpAny M A m Q E s:=bx h (fun _ _ x=>x) fun _ _ x=>x.elim
theorem jP {α:Type} {M:Model} {A:Around} {m:Sem α} {Q Q':α->Shared->Prop} {E:Value->Shared->Prop} {s:Shared} (h:wpAny M A m Q No s) (q:∀ a s,Q a s->Q' a s):wpAny M A m Q' E s:=bx h q fun _ _ x=>x.elim
section
variable {C:Cx} {Y W D rz:List Addr} {dZ ee s s':Shared} {env:Env} {S jz:St}
theorem Rel.gg (R:Rel C Y dZ D env S s) {b:Addr} (hb:s.heap.get? b=none) : ¬ C.Old b/\b ∉ C.T/\b ∉ fa env++(fj S.M++Y)/\(b ∈ D\/dZ.heap.get? b=none):=by
 have hT:b ∉ C.T:=fun q=>(R.bs.iG q).ne hb rfl;refine ⟨fun q=>(R.bs.live q).ne hb rfl,hT,fun q=>(R.hi b q).2.2.ne hb rfl,?_⟩;by_cases hd:b ∈ D
 ·exact .inl hd
 ·cases e:dZ.heap.get? b with
  | none=>exact .inr rfl
  | some o=>rw [R.st.heap.keep b o e hd hT] at hb;cases hb
theorem fJ {a:Addr}:a ∈ Xo C Y env S↔a ∈ C.T\/a ∈ fa env++fj S.M\/a ∈ Y:=by
 unfold Xo;simp only [au,or_assoc]
theorem AH {h:Heap} (hw:∀ b ∈ W,h.get? b=none):∀ a o,h.get? a=some o->a ∉ Xo C Y env S->a ∉ Xo C (W++Y) env S:=fun a o e n q=>by
 rw [fJ] at n q;rcases q with q | q | q
 ·exact n (.inl q)
 ·exact n (.inr (.inl q))
 ·rcases au.mp q with q | q
  ·rw [hw a q] at e;cases e
  ·exact n (.inr (.inr q))
theorem unY {h:Heap}:∀ a o,h.get? a=some o->a ∉ Xo C (W++Y) env S->a ∉ Xo C Y env S:=fun a o e n q=>by
 rw [fJ] at n q;rcases q with q | q | q
 ·exact n (.inl q)
 ·exact n (.inr (.inl q))
 ·exact n (.inr (.inr (aa _ q)))
theorem Rel.Au (ok:C.Ok) (R:Rel C Y dZ D env S s) (x:fC C.T [] s s') (hw:∀ b ∈ W,s.heap.get? b=none) (lw:∀ b ∈ W,jr s'.heap b) :
  Rel C (W++Y) s' (W++(fa env++fj S.M)) env S s'/\∀ v av,VR s.heap (Xo C Y env S) v av->VR s'.heap (Xo C (W++Y) env S) v av:=by
 have R':=R.go ok x;have z:∀ a ∈ ([]:List Addr),a ∈ Xo C (W++Y) env S:=fun _ h=>nomatch h;have hT:∀ a ∈ C.T,a ∈ Xo C (W++Y) env S:=fun a h=>af _ h;refine ⟨⟨R'.bs,R.ev,(R.fr.sub (AH hw)).stp x.heap z hT (fun b hb=>⟨fun h=>(nomatch h),R.tn (af _ hb)⟩) (fun y c k e=>⟨fun h=>(nomatch h),R.kZ ok k e⟩),fun y c k e=>(R.free y c k e).imp (aa _) id,
  fun p hp=>((R.ob p hp).sub (AH hw)).stp x.heap z hT fun b hb=>⟨fun h=>(nomatch h),R.tn (aa _ (af _ (eU hp hb)))⟩,R.nd,fun a ha=>?_,fun a ha=>?_,.refl ..,fun a ha=>.inl (aa _ ha),fun p hp=>⟨x.heap.keep _ _ (R.zb p hp).1 (fun q=>nomatch q) (R.tn (aa _ (aa _ (R.zb p hp).2.1))),aa _ (R.zb p hp).2.1,fun q=>(au.mp q).elim (fun q=>by have e:=(R.zb p hp).1;rw [hw _ q] at e;cases e) (R.zb p hp).2.2⟩⟩,
  fun v av r=>(r.sub (AH hw)).stp x.heap z hT⟩
 ·rcases au.mp ha with h | h
  ·exact fun q=>(R.gg (hw a h)).2.2.1 (by rw [<- aH];exact af _ q)
  ·exact R.dis a h
 ·have:a ∈ W\/a ∈ fa env++(fj S.M++Y):=by
   simp only [au] at ha ⊢;rcases ha with h | h | h | h
   ·exact .inr (.inl h)
   ·exact .inr (.inr (.inl h))
   ·exact .inl h
   ·exact .inr (.inr (.inr h))
  rcases this with h | h
  ·exact ⟨(R.gg (hw a h)).1,(R.gg (hw a h)).2.1,lw a h⟩
  ·exact R'.hi a h
theorem Rel.zg (ok:C.Ok) {V:List Addr} (R:Rel C Y ee rz env S s) (st:fC C.T V s s') (hVY:∀ a ∈ V,a ∈ Y) (hW:∀ a ∈ V,a ∈ rz) (lw:∀ b ∈ V,jr s'.heap b)
  (hf:∀ x c,q9 env x->env.cells.lookup x=some c->c ∉ V):Rel C Y ee rz env S s'/\Kp C Y env S s S s':=by
 have hX:∀ a ∈ V,a ∈ Xo C Y env S:=fun a h=>fJ.mpr (.inr (.inr (hVY a h)));have nw:∀ a ∈ fa env++fj S.M,a ∉ V:=fun a ha q=>R.dis a (hVY a q) ha;refine ⟨⟨R.bs.stp ok st.heap fun b hb=>(R.hi b (aa _ (aa _ (hVY b hb)))).1,R.ev,
  R.fr.stp st.heap hX R.hT (fun b hb=>⟨nw b (af _ hb),R.tn (af _ hb)⟩) (fun x c k e=>⟨hf x c k e,R.kZ ok k e⟩),R.free,
  fun p hp=>(R.ob p hp).stp st.heap hX R.hT fun b hb=>⟨nw b (aa _ (eU hp hb)),R.tn (aa _ (af _ (eU hp hb)))⟩,R.nd,R.dis,fun a ha=>⟨(R.hi a ha).1,(R.hi a ha).2.1,?_⟩,
  R.st.trans st fun a ha=>.inl (hW a ha),R.own,R.z⟩,fun v av r=>r.stp st.heap hX R.hT⟩
 by_cases h:a ∈ V
 ·exact lw a h
 ·refine o1_2 ((R.hi a ha).2.2) fun o e=>?_;exact ⟨o,st.heap.keep a o e h (R.hi a ha).2.1⟩
theorem Rel.BO (ok:C.Ok) (gn:Rel C Y dZ D env jz s) (x:fC C.T [] s ee) (hw:∀ b ∈ W,s.heap.get? b=none) (R:Rel C (W++Y) ee (W++(fa env++fj jz.M)) env S s'):Rel C Y dZ D env S s':=by
 have fr:∀ a,a ∈ W++(fa env++fj jz.M)->a ∈ D\/dZ.heap.get? a=none:=fun a ha=>by
  rcases au.mp ha with h | h
  ·exact (gn.gg (hw a h)).2.2.2
  ·exact gn.own a h
 refine ⟨R.bs,R.ev,R.fr.sub unY,gn.free,fun p hp=>(R.ob p hp).sub unY,R.nd,fun a ha=>R.dis a (aa _ ha),fun a ha=>R.hi a ?_,?_,fun a ha=>?_,gn.z⟩
 ·simp only [au] at ha ⊢;rcases ha with h | h | h
  ·exact .inl h
  ·exact .inr (.inl h)
  ·exact .inr (.inr (.inr h))
 ·exact (gn.st.gP x).trans R.st fun a ha=>fr a ha
 ·rcases R.own a ha with h | h
  ·exact fr a h
  ·by_cases hd:a ∈ D
   ·exact .inl hd
   ·cases e:dZ.heap.get? a with
    | none=>exact .inr rfl
    | some o =>
      have hT:a ∉ C.T:=R.tn (by rw [<- aH];exact af _ ha)
      rw [x.heap.keep a o (gn.st.heap.keep a o e hd hT) (fun q=>nomatch q) hT] at h;cases h
theorem Rel.mU (R:Rel C Y dZ D env S s) (hw:∀ b ∈ W,s.heap.get? b=none):∀ x c,q9 env x->env.cells.lookup x=some c->c ∉ W:=fun x c k e q=>by
 rcases R.free x c k e with h | h
 ·exact (R.hi c (aa _ (aa _ h))).2.2.ne (hw c q) rfl
 ·exact (R.bs.live h).ne (hw c q) rfl
theorem Rel.C3 (ok:C.Ok) (gn:Rel C Y dZ D env jz s) (x:fC C.T [] s ee) (hw:∀ b ∈ W,s.heap.get? b=none) {d8:Shared} (R:Rel C (W++Y) ee (W++(fa env++fj jz.M)) env S s') (st:fC C.T W s' d8) :
  Rel C Y dZ D env S d8/\∀ v av,VR s'.heap (Xo C (W++Y) env S) v av->VR d8.heap (Xo C Y env S) v av:=by
 have B:=gn.BO ok x hw R;have hX:∀ a ∈ W,a ∈ Xo C (W++Y) env S:=fun a h=>fJ.mpr (.inr (.inr (af _ h)));have nw:∀ a ∈ fa env++fj S.M,a ∉ W:=fun a ha q=>R.dis a (af _ q) ha;have ny:∀ a ∈ Y,a ∉ W:=fun a ha q=>(gn.hi a (aa _ (aa _ ha))).2.2.ne (hw a q) rfl;refine ⟨⟨R.bs.stp ok st.heap fun b hb=>(gn.gg (hw b hb)).1,R.ev,
  (R.fr.stp st.heap hX R.hT (fun b hb=>⟨nw b (af _ hb),R.tn (af _ hb)⟩) (fun y c k e=>⟨gn.mU hw y c k e,gn.kZ ok k e⟩)).sub unY,gn.free,
  fun p hp=>((R.ob p hp).stp st.heap hX R.hT fun b hb=>⟨nw b (aa _ (eU hp hb)),R.tn (aa _ (af _ (eU hp hb)))⟩).sub unY,R.nd,B.dis,fun a ha=>⟨(B.hi a ha).1,(B.hi a ha).2.1,?_⟩,
  B.st.trans st fun b hb=>(gn.gg (hw b hb)).2.2.2,B.own,B.z⟩,fun v av r=>(r.stp st.heap hX R.hT).sub unY⟩
 refine o1_2 ((B.hi a ha).2.2) fun o e=>?_;refine ⟨o,st.heap.keep a o e ?_ (B.hi a ha).2.1⟩;rw [<- aH] at ha;rcases au.mp ha with h | h
 ·exact nw a h
 ·exact ny a h
end
noncomputable def Iter (C:Cx) (n:Nat) (env:Env) (S:St) (a:AV) (l:List AV):Prop :=
 ∀ A Y dZ D s v Q,AOk n A->Rel C Y dZ D env S s->VR s.heap (Xo C Y env S) v a ->
   (∀ I fp wr P St s',fC C.T [] s s'->Walks C.prog C.w A I fp wr l.length P St->St 0 s'.heap->(∀ b ∈ fp,b ∉ fa env++fj S.M/\b ∉ C.T/\jr s'.heap b)->(∀ b ∈ wr,s.heap.get? b=none) ->
    (∀ i h,St i h->∀ b ∈ wr,jr h b)->(∀ i v,P i v->∃ a,l[i]? = some a/\VR s'.heap (Xo C (wr++Y) env S) v a) ->
    (∀ (elts:List Expr) k pos i (s:Shared) v (Q:Unit->Shared->Prop),St i s.heap->Q () s->wpAny (model C.prog C.w) A (letOwnedTupleGo (.Tuple elts k pos) (.ref I) v) Q No s)->Q (.ref I) s') ->
   wpAny (model C.prog C.w) A (pyIter v) Q No s
inductive Plain:Expr->Prop
 | name (x:Str) (p:Pos):Plain (.Name x p)
 | tuple (es:List Expr) (k:Nat) (p:Pos):Plain (.Tuple es k p)
noncomputable def Le (S S':St):Prop:=S.M=S'.M/\∀ x av,S.μ.lookup x=some av->S'.μ.lookup x=some av
theorem Le.refl (S:St):Le S S:=⟨rfl,fun _ _ h=>h⟩
theorem Le.pre {μ ν:List (Str×AV)} {M:List (Addr×AO)}:Le ⟨μ,M⟩ ⟨μ++ν,M⟩:=⟨rfl,fun x av h=>by
 show (μ++ν).lookup x=some av;rw [cN,show μ.lookup x=some av from h];rfl⟩
theorem Rel.le {C:Cx} {Y D:List Addr} {dZ s:Shared} {env:Env} {S S':St} (h:Le S S') (R:Rel C Y dZ D env S' s):Rel C Y dZ D env S s:=by
 obtain ⟨μ,M⟩:=S;refine o0_2 h fun e q=>?_;clear h;have e:M=S'.M:=e;subst e;exact R.weak q
theorem Kp.le {C:Cx} {Y:List Addr} {s s':Shared} {env:Env} {S S' S'':St} (h:Le S'' S') (K:Kp C Y env S s S' s'):Kp C Y env S s S'' s':=fun v av r=>by
 have:=K v av r;unfold Xo at this ⊢;rw [h.1];exact this
noncomputable def Turn (Inv:St->Prop) (P:AF->St->Prop) (f:AF) (S:St):Prop:=match f with
 | .next | .cont=>∃ S',Le S' S/\Inv S'
 | .brk=>P .next S
 | .ret v=>P (.ret v) S
section
variable {C:Cx} (ok:C.Ok) {n:Nat} {env:Env} {S:St}
include ok
theorem oi {target:Expr} {body:List Stmt} {l:List AV} {P:AF->St->Prop} {I:Addr} {fp wr:List Addr} {St:Nat->Heap->Prop} {A:Around} {Y D:List Addr} {dZ ee d8:Shared} {d7:Mine.St} {Q:Flow->Shared->Prop} (Inv:Nat->Mine.St->Prop) (ha:AOk n A) (d9:Rel C Y dZ D env d7 ee)
  (gG:fC C.T [] ee d8) (hst:St 0 d8.heap) (hfp:∀ b ∈ fp,b ∉ fa env++fj d7.M/\b ∉ C.T/\jr d8.heap b) (hw:∀ b ∈ wr,ee.heap.get? b=none) (lw:∀ i h,St i h->∀ b ∈ wr,jr h b)
  (frame:∀ i h h',St i h->(∀ b ∈ fp,∀ o,h.get? b=some o->h'.get? b=some o)->St i h') (sG:Inv 0 d7)
  (item:∀ i S' s' (K:Value->Shared->Prop),i<l.length->St i s'.heap->Rel C (wr++Y) d8 (wr++(fa env++fj d7.M)) env S' s'->(∀ v av,VR d8.heap (Xo C (wr++Y) env d7) v av->VR s'.heap (Xo C (wr++Y) env S') v av)->Inv i S' ->
   (∀ v h' tk,St (i+1) h'->(∀ b o,b ∉ wr->s'.heap.get? b=some o->h'.get? b=some o) ->
    (∀ Q',Rel C (wr++Y) { s' with heap:=h',toks:=tk } (fa env++fj S'.M) env S' { s' with heap:=h',toks:=tk }->Kp C (wr++Y) env S' s' S' { s' with heap:=h',toks:=tk } ->
     (∀ gC gU,EX C n env gU body (Turn (Inv (i+1)) P)->Rel C (wr++Y) { s' with heap:=h',toks:=tk } (fa env++fj S'.M) env gU gC->Kp C (wr++Y) env S' { s' with heap:=h',toks:=tk } gU gC->Q' () gC) ->
     wpAny (model C.prog C.w) A (assign target env v) Q' No { s' with heap:=h',toks:=tk })->K v { s' with heap:=h',toks:=tk }) ->
   wpAny (model C.prog C.w) A (pyNext (.ref I)) (fun r s=>∃ v,r=some v/\wpAny (model C.prog C.w) A (letOwnedTupleGo target (.ref I) v) (fun _ s=>K v s) No s) No s')
  (done:∀ S' (s':Shared) (Q:Option Value->Shared->Prop),St l.length s'.heap->Rel C (wr++Y) d8 (wr++(fa env++fj d7.M)) env S' s'->Inv l.length S'->(∀ h' tk,(∀ b o,b ∉ wr->s'.heap.get? b=some o->h'.get? b=some o)->Q none { s' with heap:=h',toks:=tk })->wpAny (model C.prog C.w) A (pyNext (.ref I)) Q No s')
  (fin:∀ d7,Inv l.length d7->P .next d7)
  (q:∀ f s' b S',P b S'->Rel C Y dZ D env S' s'->Kp C Y env d7 ee S' s'->FR s'.heap (Xo C Y env S') f b->Q f s') :
  codeAny (model C.prog C.w) A (.forLoop target (.ref I) body [] env) (fun r s'=>match r with | .ok f=>Q f s' | .error e=>cameBackBy (model C.prog C.w) A env No e s') d8:=by
 refine o0_2 (d9.Au ok gG hw (lw 0 _ hst)) fun eB eN=>?_;have step:∀ {s':Shared} {h':Heap} {tk:Nat},(∀ b o,b ∉ wr->s'.heap.get? b=some o->h'.get? b=some o)->fC C.T wr s' { s' with heap:=h',toks:=tk }:=fun hk=>⟨⟨fun a o e nw _=>hk a o nw e,fun a ha vs e tr=>⟨vs,by
  have:a ∉ wr:=fun q=>(d9.bs.iG ha).ne (hw a q) rfl;exact hk a _ this e,tr,#[],by simp⟩⟩,rfl,rfl,id⟩
 refine o1_2 (⟨_,rfl⟩:∃ J:Nat->Shared->Prop,J=fun k s'=>∃ i S',k=l.length+1 - i/\i<=l.length/\Rel C (wr++Y) d8 (wr++(fa env++fj d7.M)) env S' s'/\Kp C (wr++Y) env d7 d8 S' s'/\St i s'.heap/\Inv i S') fun J hJ=>?_;have mk:∀ i S' s',i<=l.length->Rel C (wr++Y) d8 (wr++(fa env++fj d7.M)) env S' s'->Kp C (wr++Y) env d7 d8 S' s'->St i s'.heap->Inv i S'->J (l.length+1 - i) s':=fun i S' s' a b c d e=>by
  rw [hJ];exact ⟨i,S',rfl,a,b,c,d,e⟩
 refine codeAny_forLoop_any J ?_ (l.length+1) (mk 0 d7 _ (bR _) eB .refl hst sG);intro k s' jk;rw [hJ] at jk;refine o2_8 jk fun i S' rf2 hi R' K' hst' inv=>?_;clear jk;subst rf2;have back:∀ {S'' s''},Rel C (wr++Y) d8 (wr++(fa env++fj d7.M)) env S'' s''->Kp C (wr++Y) env d7 d8 S'' s''->Rel C Y dZ D env S'' s''/\Kp C Y env d7 ee S'' s'':=fun R' K' =>
  ⟨d9.BO ok gG hw R',fun v av r=>(K' v av (eN v av r)).sub unY⟩
 by_cases hlt:i<l.length
 ·have main:wpAny (model C.prog C.w) A (pyNext (.ref I)) (fun r s=>∃ v,r=some v/\wpAny (model C.prog C.w) A (letOwnedTupleGo target (.ref I) v) (fun _ s=>wpAny (model C.prog C.w) A (assign target env v) (fun _ gC=>wpAny (model C.prog C.w) A (execs body env) (fun f gr=>match f with
     | .next | .cont=>∃ m,m<l.length+1 - i/\J m gr
     | .brk=>Q .next gr
     | .ret v=>Q (.ret v) gr) No gC) No s) No s) No s':=by
   refine item i S' s' _ hlt hst' R' (fun v av r=>K' v av r) inv fun v h' tk hst1 hk asg=>?_;obtain ⟨R3,K3⟩:=R'.zg ok (step hk) (fun a h=>af _ h) (fun a h=>af _ h) (lw _ _ hst1) (d9.mU hw);refine asg _ ⟨R3.bs,R3.ev,R3.fr,R3.free,R3.ob,R3.nd,R3.dis,R3.hi,.refl ..,fun a h=>.inl h,R3.zb⟩ K3 fun gC gU gY gm gK=>?_;refine gY A _ _ _ gC _ ha gm fun f gr b wI jw gF mO rf=>?_;have Kall:Kp C (wr++Y) env d7 d8 wI gr:=((K'.trans K3).trans gK).trans mO;have Rm:Rel C (wr++Y) d8 (wr++(fa env++fj d7.M)) env wI gr :=
    ⟨gF.bs,gF.ev,gF.fr,gF.free,gF.ob,gF.nd,gF.dis,gF.hi,R3.st.trans gF.st (fun b hb=>R3.own b hb),fun b hb=>(gF.own b hb).elim (fun z=>R3.own b z) fun z=>(R3.gg z).2.2.2,R3.z⟩
   have again:∀ i7,Le i7 wI->Inv (i+1) i7->∃ m,m<l.length+1 - i/\J m gr:=fun i7 le h6=>⟨l.length+1 - (i+1),by lia,mk (i+1) i7 _ hlt (Rm.le le) (Kall.le le) (by
    refine frame _ _ _ hst1 (fun b hb o e=>gF.st.heap.keep b o e (fun q=>?_) (hfp b hb).2.1);by_cases hbw:b ∈ wr
    ·exact R'.dis b (af _ hbw) q
    ·refine (R'.own b q).elim (fun z=>(au.mp z).elim hbw (hfp b hb).1) fun z=>(hfp b hb).2.2.ne z rfl) h6⟩
   refine o0_2 (back Rm Kall) fun Ra Ka=>?_;cases rf with
   | next=>refine o1_3 jw fun i7 le h6=>?_;clear jw;exact again i7 le h6
   | cont=>refine o1_3 jw fun i7 le h6=>?_;clear jw;exact again i7 le h6
   | brk=>exact q _ _ _ _ jw Ra Ka .next
   | ret rv=>exact q _ _ _ _ jw Ra Ka (.ret (rv.sub unY))
  refine jP main fun r s z=>?_;obtain ⟨v,rfl,z⟩:=z;exact jP z fun _ _ z=>jP z fun _ _ z=>jP z fun f _ z=>by cases f <;> exact z
 ·have hin:i=l.length:=by lia
  subst hin;refine jP (done S' s' _ hst' R' inv fun h' tk hk=>?_) fun r s z=>z;refine dm ?_;obtain ⟨Ra,Ka⟩:=d9.C3 ok gG hw R' (step hk);exact q _ _ _ _ (fin S' inv) Ra (fun v av r=>Ka _ _ (K' v av (eN v av r))) .next
theorem B4 {target iter:Expr} {body:List Stmt} {pos:Pos} {l:List AV} {P:AF->St->Prop} (Inv:Nat->St->Prop) (ht:Plain target)
  (h:EV C n env S iter fun a d7=>Iter C n env d7 a l/\Inv 0 d7)
  (turn:∀ i d7 x,l[i]? = some x->Inv i d7->TG C n env d7 target x fun eG=>EX C n env eG body (Turn (Inv (i+1)) P))
  (fin:∀ d7,Inv l.length d7->P .next d7)
  (hs:∀ x,foldedSetIterable iter env x=pure x:=by intro _;rfl):E1 C n env S (.For target iter body [] pos) P:=by
 intro A Y dZ D s Q ha R q;refine wpAny_For (hs:=hs) (h A Y dZ D s _ ha R fun v ee a d7 p d9 eE r=>p.1 A Y dZ D ee v _ ha d9 r fun I fp wr PI St d8 gG W hst hfp hw lw hP go=>?_);refine oi ok Inv ha d9 gG hst hfp hw lw W.frame p.2 (fun i S' s' K hlt hst' _ up inv k=>?_) (fun _ s' Q hst' _ _ k=>W.done s' Q No hst' k) fin fun f s' b S' pb R' K' rf=>q f s' b S' pb R' (eE.trans K') rf;refine W.item i s' _ _ hlt hst' fun v h' tk hv hst1 hk=>⟨v,rfl,?_⟩;refine o1_3 (hP i v hv) fun a hla ra=>?_;have z:=k v h' tk hst1 hk fun Q' R3 K3 q'=>turn i S' a hla inv A _ _ _ _ v _ ha R3 (K3 _ _ (up _ _ ra)) q';cases ht with
 | name x p=>exact bS (show letOwnedTupleGo (.Name x p) (.ref I) v=pure () from rfl) z
 | tuple es kk p=>exact go es kk p _ _ v _ hst1 z
end
end Mine
namespace Mine
section
variable {C:Cx} {Y D:List Addr} {dZ s ee s':Shared} {env env':Env} {S S':St} {μ':List (Str×AV)}
theorem enterX (hf:∀ b ∈ fa env',s.heap.get? b=none):∀ a o,s.heap.get? a=some o->a ∉ Xo C Y env S->a ∉ Xo C (fa env++Y) env' ⟨μ',S.M⟩:=fun a o e n q=>by
 rw [fJ] at n q;simp only [au] at n q;rcases q with q | (q | q) | q | q
 ·exact n (.inl q)
 ·rw [hf a q] at e;cases e
 ·exact n (.inr (.inl (.inr q)))
 ·exact n (.inr (.inl (.inl q)))
 ·exact n (.inr (.inr q))
theorem Rel.enter (ok:C.Ok) (R:Rel C Y dZ D env S s) (x:fC C.T [] s ee) (hf:∀ b ∈ fa env',s.heap.get? b=none) (lf:∀ b ∈ fa env',jr ee.heap b) (nf:(fa env').Nodup) (ev:B0 env')
  (fr:FrA (Xo C (fa env++Y) env' ⟨μ',S.M⟩) env' ee.heap μ') (free:∀ x c,q9 env' x->env'.cells.lookup x=some c->c ∈ fa env++Y\/C.Old c) :
  Rel C (fa env++Y) s (fj S.M) env' ⟨μ',S.M⟩ ee:=by
 have R':=R.go ok x;have z:∀ a ∈ ([]:List Addr),a ∈ Xo C (fa env++Y) env' ⟨μ',S.M⟩:=fun _ h=>nomatch h;have hT:∀ a ∈ C.T,a ∈ Xo C (fa env++Y) env' ⟨μ',S.M⟩:=fun a h=>af _ h;have nfeet:∀ a ∈ fa env',a ∉ fa env++(fj S.M++Y):=fun a ha=>(R.gg (hf a ha)).2.2.1;refine ⟨R'.bs,ev,fr,free,fun p hp=>((R.ob p hp).sub (enterX hf)).stp x.heap z hT fun b hb=>⟨fun h=>(nomatch h),R.tn (aa _ (af _ (eU hp hb)))⟩,?_,fun a ha q=>?_,fun a ha=>?_,x.mono fun _ h=>(nomatch h),fun a ha=>?_,fun p hp=>⟨(R.zb p hp).1,aa _ (R.zb p hp).2.1,fun q=>(R.zb p hp).2.2 (aa _ q)⟩⟩
 ·rw [aJ];exact ⟨nf,(aJ.mp R.nd).2.1,fun a ha b hb e=>nfeet a ha (e▸aa _ (af _ hb))⟩
 ·rcases au.mp ha with h | h
  ·rcases au.mp q with q | q
   ·exact nfeet a q (af _ h)
   ·exact (aJ.mp R.nd).2.2 a h a q rfl
  ·rcases au.mp q with q | q
   ·exact nfeet a q (aa _ (aa _ h))
   ·exact R.dis a h (aa _ q)
 ·rcases au.mp ha with h | h
  ·exact ⟨(R.gg (hf a h)).1,(R.gg (hf a h)).2.1,lf a h⟩
  ·refine R'.hi a ?_;simp only [au] at h ⊢;rcases h with h | h | h
   ·exact .inr (.inl h)
   ·exact .inl h
   ·exact .inr (.inr h)
 ·rcases au.mp ha with h | h
  ·exact .inr (hf a h)
  ·exact .inl h
theorem Rel.vn (ok:C.Ok) {V Z:List Addr} (R:Rel C Y dZ D env S s) (R':Rel C (fa env++Y) s (V++fj S.M) env' S' s') (hVY:∀ a ∈ V,a ∈ Y) (hVD:∀ a ∈ V,a ∈ D) (hVf:∀ x c,q9 env x->env.cells.lookup x=some c->c ∉ V)
  (hZ:∀ a ∈ Z,a ∈ fa env'/\s.heap.get? a=none) :
  Rel C (Z++Y) dZ D env ⟨S.μ,S'.M⟩ s'/\(∀ v av,VR s.heap (Xo C Y env S) v av->VR s'.heap (Xo C (Z++Y) env ⟨S.μ,S'.M⟩) v av)/\∀ v av,VR s'.heap (Xo C (fa env++Y) env' S') v av->VR s'.heap (Xo C (Z++Y) env ⟨S.μ,S'.M⟩) v av:=by
 have st:=R'.st;have up:∀ a o,s.heap.get? a=some o->a ∉ Xo C Y env S->a ∉ (V++fj S.M)++Xo C (Z++Y) env ⟨S.μ,S'.M⟩:=fun a o e n q=>by
  rw [au,fJ] at q;rw [fJ] at n;simp only [au] at n q;rcases q with (q | q) | q | (q | q) | (q | q)
  ·exact n (.inr (.inr (hVY a q)))
  ·exact n (.inr (.inl (.inr q)))
  ·exact n (.inl q)
  ·exact n (.inr (.inl (.inl q)))
  ·rcases R'.own a (aa _ q) with z | z
   ·rcases au.mp z with z | z
    ·exact n (.inr (.inr (hVY a z)))
    ·exact n (.inr (.inl (.inr z)))
   ·rw [z] at e;cases e
  ·rw [(hZ a q).2] at e;cases e
  ·exact n (.inr (.inr q))
 have down:∀ a o,s'.heap.get? a=some o->a ∉ (V++fj S.M)++Xo C (Z++Y) env ⟨S.μ,S'.M⟩->a ∉ Xo C (Z++Y) env ⟨S.μ,S'.M⟩:=fun a o _ n q=>n (aa _ q);have hD:∀ a ∈ V++fj S.M,a ∈ (V++fj S.M)++Xo C (Z++Y) env ⟨S.μ,S'.M⟩:=fun a h=>af _ h;have hT:∀ a ∈ C.T,a ∈ (V++fj S.M)++Xo C (Z++Y) env ⟨S.μ,S'.M⟩:=fun a h=>aa _ (af _ h);have bk:∀ a o,s'.heap.get? a=some o->a ∉ Xo C (fa env++Y) env' S'->a ∉ Xo C (Z++Y) env ⟨S.μ,S'.M⟩:=fun a o _ n q=>by
  rw [fJ] at n q;simp only [au] at n q;rcases q with q | (q | q) | (q | q)
  ·exact n (.inl q)
  ·exact n (.inr (.inr (.inl q)))
  ·exact n (.inr (.inl (.inr q)))
  ·exact n (.inr (.inl (.inl (hZ a q).1)))
  ·exact n (.inr (.inr (.inr q)))
 refine ⟨⟨R'.bs,R.ev,((R.fr.sub up).stp st.heap hD hT (fun b hb=>⟨fun q=>(au.mp q).elim (fun q=>R.dis b (hVY b q) (af _ hb)) (fun q=>(aJ.mp R.nd).2.2 b hb b q rfl),R.tn (af _ hb)⟩) (fun x c k e=>⟨fun q=>(au.mp q).elim (hVf x c k e) (fun q=>R.x8 k e (aa _ q)),R.kZ ok k e⟩)).sub down,fun x c k e=>(R.free x c k e).imp (aa _) id,
  fun p hp=>(R'.ob p hp).sub bk,?_,fun a ha q=>?_,fun a ha=>?_,R.st.trans st fun a ha=>(au.mp ha).elim (fun q=>.inl (hVD a q)) (fun q=>R.own a (aa _ q)),fun a ha=>?_,fun p hp=>⟨(R.z p hp).1,aa _ (R.z p hp).2.1,(R.z p hp).2.2⟩⟩,fun v av r=>((r.sub up).stp st.heap hD hT).sub down,fun v av r=>r.sub bk⟩
 ·rw [aJ];exact ⟨lq R,(aJ.mp R'.nd).2.1,fun a ha b hb e=>R'.dis a (af _ ha) (aa _ (e▸hb))⟩
 ·rcases au.mp ha with ha | ha
  ·rcases au.mp q with q | q
   ·exact R'.dis a (af _ q) (af _ (hZ a ha).1)
   ·exact (aJ.mp R'.nd).2.2 a (hZ a ha).1 a q rfl
  ·rcases au.mp q with q | q
   ·exact R.dis a ha (af _ q)
   ·exact R'.dis a (aa _ ha) (aa _ q)
 ·refine R'.hi a ?_;simp only [au] at ha ⊢;rcases ha with h | h | h | h
  ·exact .inr (.inr (.inl h))
  ·exact .inr (.inl h)
  ·exact .inl (hZ a h).1
  ·exact .inr (.inr (.inr h))
 ·rcases au.mp ha with h | h
  ·exact R.own a (af _ h)
  ·rcases R'.own a (aa _ h) with z | z
   ·exact (au.mp z).elim (fun q=>.inl (hVD a q)) (fun q=>R.own a (aa _ q))
   ·exact (R.gg z).2.2.2
theorem Rel.leave (ok:C.Ok) (R:Rel C Y dZ D env S s) (R':Rel C (fa env++Y) s (fj S.M) env' S' s') :
  Rel C Y dZ D env ⟨S.μ,S'.M⟩ s'/\Kp C Y env S s ⟨S.μ,S'.M⟩ s'/\∀ v av,VR s'.heap (Xo C (fa env++Y) env' S') v av->VR s'.heap (Xo C Y env ⟨S.μ,S'.M⟩) v av :=
 R.vn (V:=[]) (Z:=[]) ok R' (fun _ h=>nomatch h) (fun _ h=>nomatch h) (fun _ _ _ _ h=>nomatch h) (fun _ h=>nomatch h)
end
noncomputable def FN (C:Cx) (n:Nat) (f:Addr) (M:List (Addr×AO)) (args:List AV) (P:AV->List (Addr×AO)->Prop):Prop :=
 ∀ env μ,VN C n env ⟨μ,M⟩ (fun vs=>call (.ref f) vs) args fun av S'=>S'.μ=μ/\P av S'.M
noncomputable def FC (C:Cx) (n:Nat) (f:Addr) (M:List (Addr×AO)) (args:List AV) (P:AV->List (Addr×AO)->Prop):Prop :=
 ∀ env μ A Y dZ D s vs (Q:Result->Shared->Prop),AOk n A->Rel C Y dZ D env ⟨μ,M⟩ s->VRs s.heap (Xo C Y env ⟨μ,M⟩) vs args ->
   (∀ v s' av S',(S'.μ=μ/\P av S'.M)->Rel C Y dZ D env S' s'->Kp C Y env ⟨μ,M⟩ s S' s'->VR s'.heap (Xo C Y env S') v av->Q (.ok (.ret v)) s')->codeAny (model C.prog C.w) A (.call (.ref f) ⟨vs,[]⟩) Q s
theorem FC.fn {C:Cx} {n:Nat} {f:Addr} {M:List (Addr×AO)} {args:List AV} {P:AV->List (Addr×AO)->Prop} (h:FC C n f M args P):FN C n f M args P :=
 fun env μ A Y dZ D s vs Q ha R rv q=>dF (h env μ A Y dZ D s vs _ ha R rv fun v s' av S' p R' K' r=>q v s' av S' p R' K' r)
theorem FC.on {C:Cx} {n:Nat} {f:Addr} {M:List (Addr×AO)} {args:List AV} {P:AV->List (Addr×AO)->Prop} {env:Env} {μ:List (Str×AV)} {R:AV->St->Prop} (h:FC C n f M args P) (k:∀ a M',P a M'->R a ⟨μ,M'⟩):VN C n env ⟨μ,M⟩ (fun vs=>call (.ref f) vs) args R :=
 (h.fn env μ).mono (eqE k)
noncomputable def Out (P:AV->List (Addr×AO)->Prop) (f:AF) (S:St):Prop:=match f with | .ret v=>P v S.M | _=>P .none S.M
theorem PRs.rev {K:Type} {h:Heap} {X:List Addr} {kvs:List (K×Value)} {l:List (K×AV)} (r:PRs h X kvs l):PRs h X kvs.reverse l.reverse:=by
 have app:∀ {a b:List (K×Value)} {c d:List (K×AV)},PRs h X a c->PRs h X b d->PRs h X (a++b) (c++d):=fun r r'=>by
  induction r with
  | nil=>exact r'
  | cons a b ih=>exact .cons a ih
 induction r with
 | nil=>exact .nil
 | cons a b ih=>simp only [List.reverse_cons];exact app ih (.cons a .nil)
theorem PRs.look {K:Type} [BEq K] {h:Heap} {X:List Addr} {kvs:List (K×Value)} {l:List (K×AV)} (r:PRs h X kvs l) {x:K} {a:AV} (e:l.lookup x=some a):∃ v,kvs.lookup x=some v/\VR h X v a:=by
 induction r with
 | nil=>cases e
 | @cons k v a' vs l' p q ih =>
   simp only [List.lookup] at e ⊢;cases hk:x == k
   ·rw [hk] at e;exact ih e
   ·rw [hk] at e;cases e;exact ⟨v,rfl,p⟩
theorem PRs.keys {K:Type} {h:Heap} {X:List Addr} {kvs:List (K×Value)} {l:List (K×AV)} (r:PRs h X kvs l):kvs.map (·.1)=l.map (·.1):=by
 induction r with
 | nil=>rfl
 | cons a b ih=>simp [ih]
structure Aw (C:Cx) (f:Addr) (fd:FuncData) (body:List Stmt):Prop where
 obj:∃ o,C.K.lookup f=some o/\o.data = .func fd
 code:∃ c o vs t,fd.code = .ref c/\C.K.lookup c=some o/\o.data = .fields vs/\vs[1]? = some (.str fd.qualname t)
 body:fd.body = .stmts body
 glob:fd.globals=mainGlobals
 wV:fd.builtins=builtinsNs
 clo:∀ x c,fd.closure.lookup x=some c->C.Old c
 co:fd.scope.isCoroutine=false
 gen:fd.scope.isGenerator=false
 kind:fd.scope.kind = .function
 more:∀ x ∈ fd.scope.names,x.2 = .free->(x.1 == ("__classdict__" : Str))=false
noncomputable def FCk (C:Cx) (n:Nat) (f:Addr) (M:List (Addr×AO)) (args:List AV) (kw:List (Str×AV)) (P:AV->List (Addr×AO)->Prop):Prop :=
 ∀ env μ A Y dZ D s vs ks (Q:Result->Shared->Prop),AOk n A->Rel C Y dZ D env ⟨μ,M⟩ s->VRs s.heap (Xo C Y env ⟨μ,M⟩) vs args->PRs s.heap (Xo C Y env ⟨μ,M⟩) ks kw ->
   (∀ v s' av S',(S'.μ=μ/\P av S'.M)->Rel C Y dZ D env S' s'->Kp C Y env ⟨μ,M⟩ s S' s'->VR s'.heap (Xo C Y env S') v av->Q (.ok (.ret v)) s')->codeAny (model C.prog C.w) A (.call (.ref f) ⟨vs,ks⟩) Q s
theorem jl {C:Cx} (ok:C.Ok) {n:Nat} {f:Addr} {fd:FuncData} {body:List Stmt} {M:List (Addr×AO)} {args:List AV} {kw:List (Str×AV)} {ab:List (Str×AV)} {P:AV->List (Addr×AO)->Prop} (F:Aw C f fd body)
  (hcell:∀ x ∈ fd.scope.names,x.2≠.cell)
  (hbind:∀ h X vs ks,VRs h X vs args->PRs h X ks kw->C.K.In h->(∀ a,C.Old a->a ∉ X)->∃ bs,(∀ s:Shared,s.heap=h->BindsTo s fd ⟨vs,ks⟩ bs)/\PRs h X bs ab)
  (hloc:∀ x ∈ ab.map (·.1),fd.scope.names.lookup x=some .local)
  (h:∀ L,EX C n (callEnv fd L f) ⟨ab.reverse,M⟩ body (Out P)):FCk C (n+1) f M args kw P:=by
 intro env μ A Y dZ D s vs ks Q ha R rv rk q;refine o1_3 F.obj fun o ho hd=>?_;refine o4_8 F.code fun c oc cvs t e1 e2 e3 e4=>?_;have oldX:∀ a,C.Old a->a ∉ Xo C Y env ⟨μ,M⟩:=fun a ha q=>by
  rcases au.mp q with z | z
  ·exact ok.old a ha z
  ·exact (R.hi a z).1 ha
 refine o1_3 (hbind s.heap _ vs ks rv rk R.bs.K oldX) fun bs hb rb=>?_;refine (codeAny_call_def (binds:=bs) (by have:=ha.depth;show A.depth<1000;lia) (R.bs.K _ _ ho) hd R.bs.lim ⟨c,oc,cvs,t,e1,R.bs.K _ _ e2,e3,e4⟩ F.body (hb s rfl) hcell
  (fun x hx=>hloc _ (by rw [<- rb.keys];exact aE.mpr ⟨x,hx,rfl⟩)) (fun h₀ hn hk=>?_) F.co F.gen F.kind)
 have x:fC C.T [] s { s with heap:=h₀,toks:=s.toks+bs.length }:=⟨.of_keeps hk,rfl,rfl,id⟩
 have nocell:(callEnv fd s.heap.objs.size f).cells.filter (fun p=>(callEnv fd s.heap.objs.size f).kindOf p.1 == some .cell && (callEnv fd s.heap.objs.size f).func.isSome)=[]:=by
  rw [cB];intro p _ hp;have:(callEnv fd s.heap.objs.size f).kindOf p.1=some .cell:=by simp at hp;exact hp.1
  exact hcell (p.1,.cell) (mem_of_lookup this) rfl
 have efa:fa (callEnv fd s.heap.objs.size f)=[s.heap.objs.size]:=by unfold fa;rw [nocell];rfl
 have hf:∀ b ∈ fa (callEnv fd s.heap.objs.size f),s.heap.get? b=none:=fun b hb=>by
  rw [efa] at hb;have e:b=s.heap.objs.size:=by simpa using hb
  subst e;exact eH _
 have d9:Rel C (fa env++Y) s (fj M) (callEnv fd s.heap.objs.size f) ⟨ab.reverse,M⟩ { s with heap:=h₀,toks:=s.toks+bs.length }:=by
  refine R.enter (S:=⟨μ,M⟩) ok x hf (fun b hb=>?_) (by rw [efa];simp) ⟨F.kind,F.glob,F.wV,fun y ky=>F.more (y,.free) (mem_of_lookup ky) rfl⟩ ⟨⟨_,hn,fun y av e k=>?_⟩,fun y av e k=>?_,fun y c k _=>absurd rfl (hcell (y,.cell) (mem_of_lookup k.1)),fun y av e=>?_⟩ (fun y c _ e=>.inr (F.clo y c e))
  ·rw [efa] at hb;have e:b=s.heap.objs.size:=by simpa using hb
   refine o3_5 hn fun o _ _ q _=>?_;clear hn;exact e▸⟨o,q⟩
  ·refine o1_3 (rb.rev.look e) fun v e1 r=>?_;exact ⟨v,e1,(r.sub (enterX hf)).stp x.heap (fun _ h=>nomatch h) (fun a h=>af _ h)⟩
  ·exfalso;have hm:y ∈ ab.map (·.1):=by
    have:=mem_of_lookup e;exact aE.mpr ⟨(y,av),cy.mp this,rfl⟩
   have kl:(callEnv fd s.heap.objs.size f).kindOf y=some .local:=hloc y hm;rw [kl] at k;rcases k with k | k <;> cases k
  ·exact .inl (hloc y (aE.mpr ⟨(y,av),cy.mp (mem_of_lookup e),rfl⟩))
 refine bx (h s.heap.objs.size (A.deeper (callEnv fd s.heap.objs.size f)) _ _ _ _ (fun fl s'=>Q (.ok (.ret (match fl with | .ret v=>v | _=>.none))) s') (ha.deeper _) d9 fun r s' b S' p R' K' rr=>?_) (fun fl s' z=>?_) fun _ _ e=>e.elim
 ·refine o0_3 (R.leave (S:=⟨μ,M⟩) ok R') fun Ra Ka Va=>?_;cases rr with
  | next=>exact q _ _ _ ⟨μ,S'.M⟩ ⟨rfl,p⟩ Ra Ka .none
  | brk=>exact q _ _ _ ⟨μ,S'.M⟩ ⟨rfl,p⟩ Ra Ka .none
  | cont=>exact q _ _ _ ⟨μ,S'.M⟩ ⟨rfl,p⟩ Ra Ka .none
  | ret r=>exact q _ _ _ ⟨μ,S'.M⟩ ⟨rfl,p⟩ Ra Ka (Va _ _ r)
 ·cases fl <;> exact z
theorem gO {C:Cx} (ok:C.Ok) {n:Nat} {f:Addr} {fd:FuncData} {body:List Stmt} {M:List (Addr×AO)} {args:List AV} {ab:List (Str×AV)} {P:AV->List (Addr×AO)->Prop} (F:Aw C f fd body)
  (hcell:∀ x ∈ fd.scope.names,x.2≠.cell)
  (hbind:∀ h X vs,VRs h X vs args->C.K.In h->(∀ a,C.Old a->a ∉ X)->∃ bs,(∀ s:Shared,s.heap=h->BindsTo s fd ⟨vs,[]⟩ bs)/\PRs h X bs ab)
  (hloc:∀ x ∈ ab.map (·.1),fd.scope.names.lookup x=some .local)
  (h:∀ L,EX C n (callEnv fd L f) ⟨ab.reverse,M⟩ body (Out P)):FC C (n+1) f M args P :=
 have k:FCk C (n+1) f M args [] P:=jl ok F hcell (fun h X vs ks rv rk hK hX=>by cases rk;exact hbind h X vs rv hK hX) hloc h
 fun env μ A Y dZ D s vs Q ha R rv q=>k env μ A Y dZ D s vs [] Q ha R rv .nil q
theorem gc {C:Cx} (ok:C.Ok) {n:Nat} {f:Addr} {fd:FuncData} {body:List Stmt} {M:List (Addr×AO)} {args:List AV} {ab:List (Str×AV)} {P:AV->List (Addr×AO)->Prop} (F:Aw C f fd body)
  (hcell:∀ x ∈ fd.scope.names,x.2≠.cell)
  (hbind:∀ h X vs,VRs h X vs args->C.K.In h->(∀ a,C.Old a->a ∉ X)->∃ bs,(∀ s:Shared,s.heap=h->BindsTo s fd ⟨vs,[]⟩ bs)/\PRs h X bs ab)
  (hloc:∀ x ∈ ab.map (·.1),fd.scope.names.lookup x=some .local)
  (h:∀ L,EX C n (callEnv fd L f) ⟨ab.reverse,M⟩ body (Out P)):FN C (n+1) f M args P:=(gO ok F hcell hbind hloc h).fn
end Mine
namespace Mine
noncomputable def closOf (env:Env):List (Str×NameKind)->List (Str×Addr)->List (Str×Addr)
 | [],acc=>acc
 | (n,k)::r,acc=>if k == .free then closOf env r ((n,(env.cells.lookup n).getD 0)::acc) else closOf env r acc
noncomputable def j0 (scope:Scope) (env:Env):Bool:=scope.names.all fun p=>p.2 != .free || ((env.kindOf p.1 == some .cell || env.kindOf p.1 == some .free) && (env.cells.lookup p.1).isSome)
theorem kC {env:Env}:∀ {ns:List (Str×NameKind)} {acc:List (Str×Addr)} {p:Str×Addr},p ∈ closOf env ns acc->p ∈ acc\/((p.1,NameKind.free) ∈ ns/\p.2=(env.cells.lookup p.1).getD 0)
 | [],_,_,h=>.inl h
 | (n,k)::r,acc,p,h=>by
   unfold closOf at h;cases hk:k == NameKind.free with
   | false =>
     rw [hk] at h;rcases kC (ns:=r) h with z | z
     ·exact .inl z
     ·exact .inr ⟨ai _ z.1,z.2⟩
   | true =>
     have ek:k = .free:=by simpa using hk
     rw [hk] at h;rcases kC (ns:=r) h with z | z
     ·rcases aG.mp z with z | z
      ·subst z;subst ek;exact .inr ⟨aj ..,rfl⟩
      ·exact .inl z
     ·exact .inr ⟨ai _ z.1,z.2⟩
theorem jv {scope:Scope} {env:Env} (h:j0 scope env=true):closureFor scope env=pure (closOf env scope.names []):=by
 unfold closureFor;unfold j0 at h;generalize scope.names=ns at h
 suffices ∀ acc,(forIn ns acc fun (x:Str×NameKind) (r:List (Str×Addr))=>(match x with
   | (name,kind)=>(if (kind == NameKind.free)=true then do let c <- cellOf env name;pure (ForInStep.yield ((name,c)::r)) else pure (ForInStep.yield r)):Sem (ForInStep (List (Str×Addr)))))=pure (closOf env ns acc) by
  have e:=this []
  first
   | (rw [show (forIn ns [] _:Sem _)=_ from e];rfl)
   | (simp only [bind_pure];exact e)
 induction ns with
 | nil=>intro acc;rfl
 | cons p r ih =>
   intro acc;obtain ⟨n,k⟩:=p;rw [List.all_cons,b8] at h;rw [dw];cases hk:k == NameKind.free with
   | false =>
     simp only [hk,bu,cg,pure_bind];rw [ih h.2];simp [closOf,hk]
   | true =>
     have ek:k = .free:=by simpa using hk
     subst ek;have hc:(env.cells.lookup n).isSome=true:=by have:=h.1;simp at this;simp [this.2]
     refine o1_2 (cY.mp hc) fun c hc=>?_;have ec:cellOf env n=pure c:=by unfold cellOf;rw [hc]
     simp only [hk,if_true,ec,pure_bind];rw [ih h.2];simp [closOf,hc]
structure Cap (env cenv:Env) (S:St) (μ:List (Str×AV)):Prop where
 all:∀ p ∈ μ,S.μ.lookup p.1=some p.2/\cenv.cells.lookup p.1=env.cells.lookup p.1/\(cenv.kindOf p.1=some .cell\/cenv.kindOf p.1=some .free)/\(env.kindOf p.1=some .cell\/env.kindOf p.1=some .free)
theorem Cap.nil {env cenv:Env} {S:St}:Cap env cenv S []:=⟨fun _ h=>nomatch h⟩
theorem Cap.cons {env cenv:Env} {S:St} {μ:List (Str×AV)} {x:Str} {a:AV} (h1:S.μ.lookup x=some a) (h2:cenv.cells.lookup x=env.cells.lookup x) (h3:cenv.kindOf x=some .cell\/cenv.kindOf x=some .free)
  (h4:env.kindOf x=some .cell\/env.kindOf x=some .free) (r:Cap env cenv S μ):Cap env cenv S ((x,a)::μ):=⟨fun p hp=>by
 rcases aG.mp hp with e | h
 ·subst e;exact ⟨h1,h2,h3,h4⟩
 ·exact r.all p h⟩
theorem gz {scope:Scope} {env:Env} (h:j0 scope env=true) {x:Str} {c:Addr} (e:(closOf env scope.names []).lookup x=some c):env.cells.lookup x=some c/\(env.kindOf x=some .cell\/env.kindOf x=some .free):=by
 rcases kC (mem_of_lookup e) with z | z
 ·cases z
 ·unfold j0 at h;have q:=dI.mp h _ z.1;have e0:((NameKind.free:NameKind) != NameKind.free)=false:=by decide
  simp only [e0,Bool.false_or,b8,Bool.or_eq_true,cI] at q;refine o0_2 q fun q1 q2=>?_;clear q;refine o1_2 (cY.mp q2) fun d hd=>?_;have e2:c=d:=by have:=z.2;rw [show (x,c).fst=x from rfl,hd] at this;exact this
  exact ⟨e2▸hd,q1⟩
section
variable {prog:Program} {w:World} {A:Around} {E:Value->Shared->Prop} {R:Result->Shared->Prop} {s:Shared}
end
noncomputable abbrev CT (C:Cx) (n:Nat) (env:Env) (S:St) (ifs:List Expr) (P:Bool->St->Prop):Prop :=
 G C n env BR S (forIn ifs true fun c r=>if r=true then do let ok <- isTrue c env (eval c env);pure (ForInStep.yield ok) else pure (ForInStep.yield r)) P
theorem CT.nil {C:Cx} {n:Nat} {env:Env} {S:St} {P:Bool->St->Prop} (h:P true S):CT C n env S [] P:=fun _ _ _ _ _ _ _ R q=>wpAny_tests_nil (q _ _ _ _ h R .refl rfl)
theorem CT.one {C:Cx} {n:Nat} {env:Env} {S:St} {P:Bool->St->Prop} {c:Expr} (h:ET C n env S c P):CT C n env S [c] P:=fun A Y dZ D s Q ha R q=>wpAny_tests_one (h A Y dZ D s Q ha R q)
noncomputable def g6 (scope:Scope) (env:Env) (L:Addr):Env:=compEnvC scope (closOf env scope.names []) L env
noncomputable def Step (C:Cx) (n:Nat) (env:Env) (S:St) (target:Expr) (ifs:List Expr) (elt:Expr) (a:AV) (r:Option AV):Prop :=
 TG C n env S target a fun d7=>CT C n env d7 ifs fun b eG=>match r with
  | none=>b=false/\Le S eG
  | some y=>b=true/\EV C n env eG elt fun c fk=>c=y/\Le S fk
theorem Step.none {C:Cx} {n:Nat} {env:Env} {S:St} {target:Expr} {ifs:List Expr} {elt:Expr} {a:AV} (h:TG C n env S target a fun d7=>CT C n env d7 ifs fun b eG=>b=false/\Le S eG):Step C n env S target ifs elt a Option.none:=h
theorem Step.some {C:Cx} {n:Nat} {env:Env} {S:St} {target:Expr} {ifs:List Expr} {elt:Expr} {a y:AV} (h:TG C n env S target a fun d7=>CT C n env d7 ifs fun b eG=>b=true/\EV C n env eG elt fun c fk=>c=y/\Le S fk):Step C n env S target ifs elt a (Option.some y):=h
section
variable {C:Cx} {Y D D' V:List Addr} {dZ s s':Shared} {env:Env} {S S':St}
theorem Rel.rebase (R:Rel C Y dZ D env S s):Rel C Y s (fa env++fj S.M) env S s:=⟨R.bs,R.ev,R.fr,R.free,R.ob,R.nd,R.dis,R.hi,.refl ..,fun a h=>.inl h,R.zb⟩
theorem Rel.merge (R:Rel C Y dZ D env S s) (R':Rel C Y s (fa env++fj S.M) env S' s'):Rel C Y dZ D env S' s' :=
 ⟨R'.bs,R'.ev,R'.fr,R'.free,R'.ob,R'.nd,R'.dis,R'.hi,R.st.trans R'.st (fun b hb=>R.own b hb),fun b hb=>by
  rcases R'.own b hb with z | z
  ·exact R.own b z
  ·exact (R.gg z).2.2.2,R.z⟩
theorem Rel.vc (R:Rel C Y dZ D env S s) (h:∀ a ∈ D,a ∈ D') (hz:∀ p ∈ C.Z,p.1 ∉ D'):Rel C Y dZ D' env S s:=⟨R.bs,R.ev,R.fr,R.free,R.ob,R.nd,R.dis,R.hi,R.st.mono h,fun a ha=>(R.own a ha).imp (h a) id,fun p hp=>⟨(R.z p hp).1,(R.z p hp).2.1,hz p hp⟩⟩
theorem fC.dead {T:List Addr} {s s':Shared} (x:fC T [] s s') {a:Addr} (h:s'.heap.get? a=none) (hT:a ∉ T):s.heap.get? a=none:=by
 cases e:s.heap.get? a with
 | none=>rfl
 | some o=>rw [x.heap.keep a o e (fun q=>nomatch q) hT] at h;cases h
end
section
variable {C:Cx} (ok:C.Ok) {n:Nat} {env:Env} {S:St}
include ok
end
end Mine
namespace Mine
section
variable {C:Cx} (ok:C.Ok) {n:Nat} {env:Env} {S:St}
include ok
theorem j4 {t:Expr} {body:List Stmt} {pos:Pos} {P:AF->St->Prop} (Inv:Nat->St->Prop) (vq:Nat) (h0:Inv vq S)
  (turn:∀ k d7,Inv k d7->ET C n env d7 t fun b eG=>if b then EX C n env eG body (Turn (fun fk=>∃ j,j<k/\Inv j fk) P) else P .next eG):E1 C n env S (.While t body [] pos) P:=by
 intro A Y dZ D s Q ha R q;refine wpAny_While (codeAny_whileLoop (fun k s'=>∃ S',Inv k S'/\Rel C Y dZ D env S' s'/\Kp C Y env S s S' s') (fun k s' hI=>?_) vq ⟨S,h0,R,.refl⟩);refine o1_4 hI fun S' hI R' K'=>?_;refine CY (turn k S' hI A Y dZ D s' _ ha R' fun b d8 b' eG fh eB eN e=>?_);have e:b=b':=e;subst e;cases b
 ·exact dm (q _ _ _ _ fh eB (K'.trans eN) .next)
 ·refine CY (fh A Y dZ D d8 _ ha eB fun f ez f' fk fF eV fG rf=>?_);have K:=(K'.trans eN).trans fG;cases rf with
  | next=>refine o1_3 fF fun gU le zz=>?_;refine o1_3 zz fun j hj h4=>?_;clear fF;exact ⟨j,hj,gU,h4,eV.le le,K.le le⟩
  | cont=>refine o1_3 fF fun gU le zz=>?_;refine o1_3 zz fun j hj h4=>?_;clear fF;exact ⟨j,hj,gU,h4,eV.le le,K.le le⟩
  | brk=>exact q _ _ _ _ fF eV K .next
  | ret r=>exact q _ _ _ _ fF eV K (.ret r)
theorem jL {I:Addr} {o:Obj} {s:Shared} {prog:Program} {w:World} {A:Around} {ty:String} {vs:Array Value} (ho:s.heap.get? I=some o) (hc:o.cls = .type ty) (hd:o.data = .fields vs)
  (hn:["enumerate", "zip", "dict_itemiterator", "dict_reverseitemiterator", "odict_iterator", "itertools.zip_longest", "itertools.pairwise"].contains ty=false) {elts:List Expr} {k:Nat} {pos:Pos} {v:Value} {Q:Unit->Shared->Prop} (hq:Q () s) :
  wpAny (model prog w) A (letOwnedTupleGo (.Tuple elts k pos) (.ref I) v) Q No s:=by
 cases v with
 | ref T =>
   unfold letOwnedTupleGo;refine ah (wpAny_load ho ?_);rw [hc,hd];show wpAny _ A (if (["enumerate", "zip", "dict_itemiterator", "dict_reverseitemiterator", "odict_iterator", "itertools.zip_longest", "itertools.pairwise"].contains ty && _)=true then _ else _) Q _ s
   rw [aq (by rw [hn,Bool.false_and];exact b7)]
   exact ak hq
 | _=>exact ak hq
theorem Iter.lst {l:List AV}:Iter C n env S (.lst l) l:=fun A Y dZ D s v Q ha R r q=>by
 refine VR.iL r fun a vs k e nx rs=>?_
 ·
  refine wpAny_pyIter_list (e8 e) ?_;have hne:a≠s.heap.objs.size:=cz (bH e);have W:=Walks.list (prog:=C.prog) (w:=C.w) (A:=A) ha.handled s.heap.objs.size a hne vs.toArray;have el:vs.toArray.size=l.length:=by rw [aK];exact rs.length
  rw [el] at W;refine q s.heap.objs.size _ [s.heap.objs.size] _ _ _ (.alloc ..) W ⟨⟨_,aI _ rfl,rfl,rfl⟩,_,aA _ e,rfl,_,rfl⟩ (fun b hb=>?_) (fun b hb=>ao.mp hb▸eH _) (fun i h st b hb=>?_) (fun i v hv=>?_) (fun elts kk pos i s' v Q st hq=>?_)
  ·rcases aG.mp hb with e1 | hb
   ·subst e1;exact ⟨fun q=>(R.hi _ (by rw [<- aH];exact af _ q)).2.2.ne (eH _) rfl,fun q=>(R.bs.iG q).ne (eH _) rfl,_,aI _ rfl⟩
   ·have e1:=ao.mp hb;subst e1;rw [fJ] at nx;exact ⟨fun q=>nx (.inr (.inl q)),fun q=>nx (.inl q),_,aA _ e⟩
  ·refine o1_3 st.1 fun o ho _=>?_;exact ao.mp hb▸⟨o,ho⟩
  ·have hi:i<vs.length:=by
    have:=(aM.mp (by simpa using hv:vs[i]? = some v)).1;exact this
   refine o1_2 (⟨_,aX (rs.length▸hi)⟩:∃ a',l[i]? = some a') fun a' ha'=>?_;refine o1_3 (rs.get ha') fun v' hv' rv=>?_;have:v=v':=by
    have h1:vs[i]? = some v:=by simpa using hv
    rw [h1] at hv';exact bE hv'
   subst this;exact ⟨a',ha',(rv.sub (AH (W:=[s.heap.objs.size]) fun b hb=>ao.mp hb▸eH _)).stp (Stp.push C.T ..) (fun _ h=>nomatch h) fun a h=>af _ h⟩
  ·refine o1_4 st.1 fun o ho hc hd=>?_;exact jL ok ho hc hd (by decide) hq
theorem Iter.tup {l:List AV}:Iter C n env S (.tup l) l:=fun A Y dZ D s v Q ha R r q=>by
 refine VR.pW r fun a vs k e nx rs=>?_
 ·
  refine wpAny_pyIter_tuple ⟨_,e,rfl,_,rfl⟩ ?_;have hne:a≠s.heap.objs.size:=cz (bH e);have W:=Walks.tuple (prog:=C.prog) (w:=C.w) (A:=A) ha.handled s.heap.objs.size a hne vs.toArray;have el:vs.toArray.size=l.length:=by rw [aK];exact rs.length
  rw [el] at W;refine q s.heap.objs.size _ [s.heap.objs.size] _ _ _ (.alloc ..) W ⟨⟨_,aI _ rfl,rfl,rfl⟩,_,aA _ e,rfl,_,rfl⟩ (fun b hb=>?_) (fun b hb=>ao.mp hb▸eH _) (fun i h st b hb=>?_) (fun i v hv=>?_) (fun elts kk pos i s' v Q st hq=>?_)
  ·rcases aG.mp hb with e1 | hb
   ·subst e1;exact ⟨fun q=>(R.hi _ (by rw [<- aH];exact af _ q)).2.2.ne (eH _) rfl,fun q=>(R.bs.iG q).ne (eH _) rfl,_,aI _ rfl⟩
   ·have e1:=ao.mp hb;subst e1;rw [fJ] at nx;exact ⟨fun q=>nx (.inr (.inl q)),fun q=>nx (.inl q),_,aA _ e⟩
  ·refine o1_3 st.1 fun o ho _=>?_;exact ao.mp hb▸⟨o,ho⟩
  ·have hi:i<vs.length:=by
    have:=(aM.mp (by simpa using hv:vs[i]? = some v)).1;exact this
   refine o1_2 (⟨_,aX (rs.length▸hi)⟩:∃ a',l[i]? = some a') fun a' ha'=>?_;refine o1_3 (rs.get ha') fun v' hv' rv=>?_;have:v=v':=by
    have h1:vs[i]? = some v:=by simpa using hv
    rw [h1] at hv';exact bE hv'
   subst this;exact ⟨a',ha',(rv.sub (AH (W:=[s.heap.objs.size]) fun b hb=>ao.mp hb▸eH _)).stp (Stp.push C.T ..) (fun _ h=>nomatch h) fun a h=>af _ h⟩
  ·refine o1_4 st.1 fun o ho hc hd=>?_;exact jL ok ho hc hd (by decide) hq
noncomputable def chars (x:Str):List AV:=x.cps.toList.map fun c=>.str ⟨#[c]⟩
theorem Iter.str {x:Str}:Iter C n env S (.str x) (chars x):=fun A Y dZ D s v Q ha R r q=>by
 refine VR.fO r fun t=>?_
 ·
  have el:x.cps.size=(chars x).length:=by simp [chars]
  have fin:∀ (ty:String) (o:Obj),o={ cls:=.type ty,data:=.fields #[.str x t,.int 0 0] }->True->∀ (W:Walks C.prog C.w A s.heap.objs.size [s.heap.objs.size] [s.heap.objs.size] x.cps.size (SignAt x) (fun i h=>h.IsStrIter s.heap.objs.size ty x t i)),
    ["enumerate", "zip", "dict_itemiterator", "dict_reverseitemiterator", "odict_iterator", "itertools.zip_longest", "itertools.pairwise"].contains ty=false->(s.heap.push o).IsStrIter s.heap.objs.size ty x t 0->Q (.ref s.heap.objs.size) { s with heap:=s.heap.push o }:=fun ty o eo _ W hn h0=>by
   rw [el] at W;refine q s.heap.objs.size _ [s.heap.objs.size] _ _ _ (.alloc ..) W h0 (fun b hb=>?_) (fun b hb=>ao.mp hb▸eH _) (fun i h st b hb=>?_) (fun i v hv=>?_) (fun elts kk pos i s' v Q st hq=>?_)
   ·have e1:=ao.mp hb;subst e1;exact ⟨fun q=>(R.hi _ (by rw [<- aH];exact af _ q)).2.2.ne (eH _) rfl,fun q=>(R.bs.iG q).ne (eH _) rfl,by refine o1_3 h0 fun o ho _=>?_;clear h0;exact ⟨o,ho⟩⟩
   ·refine o1_3 st fun o ho _=>?_;clear st;exact ao.mp hb▸⟨o,ho⟩
   ·refine o2_4 hv fun c u hc rf3=>?_;clear hv;subst rf3;refine ⟨.str ⟨#[c]⟩,?_,.str ..⟩;unfold chars;rw [aQ,show x.cps.toList[i]? = some c by simpa using hc];rfl
   ·refine o1_4 st fun o ho hc hd=>?_;clear st;exact jL ok ho hc hd hn hq
  cases hall:x.cps.all (· < 128)
  ·exact wpAny_pyIter_wide hall (fin "str_iterator" _ rfl trivial (Walks.strWide ha.handled _ x t) (by decide) ⟨_,aI _ rfl,rfl,rfl⟩)
  ·exact wpAny_pyIter_ascii hall (fin "str_ascii_iterator" _ rfl trivial (Walks.strAscii ha.handled _ x t) (by decide) ⟨_,aI _ rfl,rfl,rfl⟩)
noncomputable def upto (a b:Int):List AV:=(List.range (b - a).toNat).map fun (i:Nat)=>.int (a+(i:Int))
theorem Iter.rng {a b:Int} (hs:Builtin.Range.small a b 1=true):Iter C n env S (.rng a b 1) (upto a b):=fun A Y dZ D s v Q ha R r q=>by
 refine VR.yR r fun r t u w e nx=>?_
 ·
  refine wpAny_pyIter_range e hs ?_;have el:(upto a b).length=(b - a).toNat:=by simp [upto]
  have W:=Walks.range (prog:=C.prog) (w:=C.w) (A:=A) ha.handled s.heap.objs.size a 1 (b - a).toNat |>.bound
  rw [<- el] at W;have h0:IsRangeIter (s.heap.push { cls:=.type "range_iterator", data:=.fields #[rawInt a,rawInt (Builtin.Range.rangeSize a b 1),rawInt 1] }) s.heap.objs.size (a+(0:Nat) * 1) (((upto a b).length:Int) - (0:Nat)) 1:=by
   have e1:Builtin.Range.rangeSize a b 1=((upto a b).length:Int) - (0:Nat):=by
    rw [rangeSize_one,el];split <;> lia
   rw [e1,show a+((0:Nat):Int) * 1=a by lia]
   exact aI _ rfl
  refine q s.heap.objs.size _ [s.heap.objs.size] _ _ _ (.alloc ..) W h0 (fun b hb=>?_) (fun b hb=>ao.mp hb▸eH _) (fun i h st b hb=>?_) (fun i v hv=>?_) (fun elts kk pos i s' v Q st hq=>?_)
  ·have e1:=ao.mp hb;subst e1;exact ⟨fun q=>(R.hi _ (by rw [<- aH];exact af _ q)).2.2.ne (eH _) rfl,fun q=>(R.bs.iG q).ne (eH _) rfl,⟨_,h0⟩⟩
  ·exact ao.mp hb▸⟨_,st⟩
  ·refine o0_2 hv fun hi zz=>?_;refine o1_2 zz fun t' rf2=>?_;clear hv;subst rf2;refine ⟨.int (a+i),?_,?_⟩
   ·unfold upto;rw [aQ,cR (by rw [<- el];exact hi)];rfl
   ·rw [Int.mul_one];exact .int ..
  ·exact jL ok st rfl rfl (by decide) hq
end
end Mine
namespace Mine
section
variable {C:Cx} (ok:C.Ok) {n:Nat} {env:Env} {S:St}
include ok
theorem PN.of {m:List Value->Sem Value} {as:List AV} {c:AV}
  (h:∀ (A:Around) X s vs (Q:Value->Shared->Prop),AOk n A->Bs C s.heap->VRs s.heap X vs as->(∀ a ∈ X,a<s.heap.objs.size)->(∀ a ∈ C.T,a ∈ X)->(∀ r s',fC C.T [] s s'->VR s'.heap X r c->Q r s')->wpAny (model C.prog C.w) A (m vs) Q No s):PN C n env S m as c :=
 fun A Y dZ D s vs Q ha R r q=>h A _ s vs Q ha R.bs r (fun a hx=>(R.live hx).lt) R.hT fun r s' x rc=>q r s' _ S ⟨rfl,rfl⟩ (R.go ok x) (Kp.go R x) rc
theorem PN.M {m:List Value->Sem Value} {as:List AV} {c:AV}
  (h:∀ (A:Around) Y dZ D s vs (Q:Value->Shared->Prop),AOk n A->Rel C Y dZ D env S s->VRs s.heap (Xo C Y env S) vs as->(∀ r s',fC C.T [] s s'->VR s'.heap (Xo C Y env S) r c->Q r s')->wpAny (model C.prog C.w) A (m vs) Q No s):PN C n env S m as c :=
 fun A Y dZ D s vs Q ha R r q=>h A Y dZ D s vs Q ha R r fun r s' x rc=>q r s' _ S ⟨rfl,rfl⟩ (R.go ok x) (Kp.go R x) rc
namespace O
theorem len_str {x:Str} (hz:x.length<=sizeLine):PN C n env S (fun vs=>call (.builtin "len") vs) [.str x] (.int x.length):=.of ok fun _ _ _ _ _ _ _ r _ _ q=>by
 refine VRs.eW r fun _ _ r rs=>?_;refine VR.fO r fun _=>?_;refine VRs.fN rs ?_;exact PyProof.Rows.len_str (by unfold sizeLine at hz;lia) (q _ _ (.toks ..) (.int ..))
theorem lu {a:Addr} {l:List AV} (hM:(a,AO.list l) ∈ S.M) (hz:l.length<=sizeLine):PN C n env S (fun vs=>call (.builtin "len") vs) [.raw (.ref a)] (.int l.length):=.M ok fun _ _ _ _ _ _ _ _ R r q=>by
 refine VRs.eW r fun _ _ r rs=>?_;refine VRs.fN rs ?_;refine VR.fM r ?_;refine o2_4 (R.ob _ hM) fun vs k e rs=>?_;exact len_list (e8 e) (by rw [aK,rs.length];unfold sizeLine at hz;lia) (q _ _ (.toks ..) (by rw [aK,rs.length];exact .int ..))
theorem rN {b:Int}:P1 C n env S (fun v=>call (.type "range") [v]) (.int b) (.rng 0 b 1):=.of ok fun _ X s _ _ _ _ r lt _ q=>by
 refine VR.ff r fun _=>?_;exact call_range_1 (q _ _ ((fC.alloc ..).gP (.toks ..)) (.rng (IsRange.new ..) (fun h=>absurd (lt _ h) (dP _))))
theorem str_int {a:Int} (ha:a.natAbs.log2<1920):P1 C n env S (fun v=>call (.type "str") [v]) (.int a) (.str (toString a)):=.of ok fun _ X s _ _ _ _ r lt _ q=>by
 refine VR.ff r fun _=>?_;exact P.str_of_int ha (q _ _ (.toks ..) (.str ..))
end O
omit ok in
theorem T1.none:T1 C n env S .none false:=fun A Y dZ D s v Q ha R r q=>by refine VR.mu r ?_;exact PyProof.Rows.truthy_none (q _ _ _ _ ⟨rfl,rfl⟩ R .refl rfl)
theorem T1.str {x:Str} (hz:x.length<=sizeLine):T1 C n env S (.str x) ((x.length:Int) != 0):=fun A Y dZ D s v Q ha R r q=>by
 refine VR.fO r fun _=>?_;exact P.truthy_str (by unfold sizeLine at hz;lia) (q _ _ _ _ ⟨rfl,rfl⟩ (R.go ok (.toks ..)) (Kp.go R (.toks ..)) rfl)
theorem T1.zJ {a:Addr} {l:List AV} (hM:(a,AO.list l) ∈ S.M) (hz:l.length<=sizeLine):T1 C n env S (.raw (.ref a)) (!l.isEmpty):=fun A Y dZ D s v Q ha R r q=>by
 refine VR.fM r ?_
 ·
  refine o2_4 (R.ob _ hM) fun vs k e rs=>?_;refine wpAny_truthy_list (e8 e) (by rw [aK,rs.length];unfold sizeLine at hz;lia) (q _ _ _ _ ⟨rfl,rfl⟩ (R.go ok (.toks ..)) (Kp.go R (.toks ..)) ?_)
  have:=rs.length;cases vs <;> cases l <;> simp_all [BR]
theorem PE.neg {e:Expr} {pos:Pos} {a:Int} (h:PE C n env S e (.int a)):PE C n env S (.UnaryOp .USub e pos) (.int (-a)):=fun A Y dZ D s Q ha R q=>wpAny_UnaryOp (G.at h ha R fun v ee d9 eE r=>by
 refine VR.ff r fun _=>?_;exact PyProof.Rows.neg_int (q _ _ _ _ ⟨rfl,rfl⟩ (d9.go ok (.toks ..)) (eE.trans (Kp.go d9 (.toks ..))) (.int ..)))
end
end Mine
namespace Mine
section
variable {C:Cx} (ok:C.Ok) {n:Nat} {env:Env} {S:St}
include ok
omit ok in
theorem EV.mF {T id:String} {o:Expr} {name:Str} {e:Expr} {es:List Expr} {apos pos:Pos} {P:AV->St->Prop} (slot:Slot T name id) (pa:PlainAttrs T) (ty:typeOf (.builtin id)=pure (.type "method_descriptor"))
  (h:EV C n env S o fun a d7=>∃ p,a = .raw (.ref p)/\(∀ (Y D:List Addr) dZ s,Rel C Y dZ D env d7 s->∃ ob,s.heap.get? p=some ob/\ob.cls = .type T/\ob.dict=none) /\
   EL C n env d7 pos (e::es) fun l eG=>VN C n env eG (fun vs=>call (.builtin id) (.ref p::vs)) l P)
  (hbase:attributeBase o name env (eval o env)=eval o env:=by rfl)
  (hfew:((backTo pos (starEach (e::es) env)).all (fun x=>!x.1) && (backToKw pos (keywordEach [] env)).all (fun x=>x.1.isSome) && decide ((e::es).length+([]:List Keyword).length+(if ([]:List Keyword).isEmpty then 0 else 1)<30))=true:=by rfl)
  (hline:(apos.endLine == pos.line)=true:=by rfl)
  (he:starEach (e::es) env=(false,eval e env)::starEach es env:=by rfl) (hplain:(backTo pos (starEach es env)).any (·.1)=false:=by rfl) :
  EV C n env S (.Call (.Attribute o name apos) (e::es) [] pos) P :=
 fun A Y dZ D s Q ha R q=>dN hbase hfew hline (h A Y dZ D s _ ha R fun v ee a d7 p d9 eE rv=>by
  obtain ⟨p,rfl,hob,hEL⟩:=p;refine VR.fM rv ?_;obtain ⟨ob,e1,e2,e3⟩:=hob _ _ _ _ d9;refine ⟨T,id,pa,slot,ty,⟨ob,e1,e2⟩,(fun a ea=>by cases ea;exact ⟨ob,e1,e3⟩),?_⟩
  rw [he];refine cC (by show (false || (backTo pos (starEach es env)).any (·.1))=false;rw [hplain];rfl) (evalArgs_plain ?_)
  have h':=hEL A Y dZ D ee (fun vs d8=>wpAny (model C.prog C.w) A (call (.builtin id) ([.ref p]++vs)) Q No d8) ha d9 fun vs d8 l eG fh eB eN fz=>fh A Y dZ D d8 vs Q ha eB fz fun r ez b fk fF eV fG f7=>q r ez b fk fF eV ((eE.trans eN).trans fG) f7;rw [he] at h';exact h')
omit ok in
theorem PE.mF {T id:String} {o:Expr} {name:Str} {e:Expr} {es:List Expr} {apos pos:Pos} {p:Addr} {l:List AV} {c:AV} (slot:Slot T name id) (pa:PlainAttrs T) (ty:typeOf (.builtin id)=pure (.type "method_descriptor"))
  (ho:PE C n env S o (.raw (.ref p))) (hob:∀ (Y D:List Addr) dZ s,Rel C Y dZ D env S s->∃ ob,s.heap.get? p=some ob/\ob.cls = .type T/\ob.dict=none)
  (hl:PL C n env S pos (e::es) l) (h:PN C n env S (fun vs=>call (.builtin id) (.ref p::vs)) l c)
  (hbase:attributeBase o name env (eval o env)=eval o env:=by rfl)
  (hfew:((backTo pos (starEach (e::es) env)).all (fun x=>!x.1) && (backToKw pos (keywordEach [] env)).all (fun x=>x.1.isSome) && decide ((e::es).length+([]:List Keyword).length+(if ([]:List Keyword).isEmpty then 0 else 1)<30))=true:=by rfl)
  (hline:(apos.endLine == pos.line)=true:=by rfl)
  (he:starEach (e::es) env=(false,eval e env)::starEach es env:=by rfl) (hplain:(backTo pos (starEach es env)).any (·.1)=false:=by rfl) :
  PE C n env S (.Call (.Attribute o name apos) (e::es) [] pos) c:=EV.mF slot pa ty (ho.then ⟨p,rfl,hob,hl.then h⟩) hbase hfew hline he hplain
omit ok in
theorem PE.i6 {id:String} {x:Str} {e:Expr} {es:List Expr} {p pos:Pos} {l:List AV} {c:AV} (hf:PE C n env S (.Name x p) (.raw (.builtin id))) (hl:PL C n env S pos (e::es) l) (h:PN C n env S (fun vs=>call (.builtin id) vs) l c)
  (he:starEach (e::es) env=(false,eval e env)::starEach es env:=by rfl) (hplain:(backTo pos (starEach es env)).any (·.1)=false:=by rfl):PE C n env S (.Call (.Name x p) (e::es) [] pos) c:=EV.i6 hf (hl.then h) he hplain
omit ok in
theorem PE.jo {T:String} {x:Str} {e:Expr} {p pos:Pos} {a c:AV} (hf:PE C n env S (.Name x p) (.raw (.type T))) (ha:PE C n env S e a) (h:P1 C n env S (fun v=>call (.type T) [v]) a c) (hs:starEach [e] env=[(false,eval e env)]:=by rfl) :
  PE C n env S (.Call (.Name x p) [e] [] pos) c:=EV.jo hf (ha.then h) hs
omit ok in
theorem PE.j3 {f:Addr} {o:Obj} {fd:FuncData} {x:Str} {e:Expr} {es:List Expr} {p pos:Pos} {l:List AV} {c:AV} (hf:PE C n env S (.Name x p) (.raw (.ref f))) (ho:C.K.lookup f=some o) (hd:o.data = .func fd)
  (hl:PL C n env S pos (e::es) l) (h:FN C n f S.M l fun a M'=>a=c/\M'=S.M)
  (he:starEach (e::es) env=(false,eval e env)::starEach es env:=by rfl):PE C n env S (.Call (.Name x p) (e::es) [] pos) c :=
 EV.j3 hf ho hd (hl.then ((h env S.μ).mono fun a S' e=>⟨e.2.1,by obtain ⟨μ,M⟩:=S';refine o0_3 e fun e1 _ e3=>?_;clear e;cases e1;cases e3;rfl⟩)) he
omit ok in
theorem lU {p:Addr} {l:List AV} (hM:(p,AO.list l) ∈ S.M):∀ (Y D:List Addr) dZ s,Rel C Y dZ D env S s->∃ ob,s.heap.get? p=some ob/\ob.cls = .type "list" /\ ob.dict=none:=fun Y D dZ s R=>by
 refine o2_4 (R.ob _ hM) fun vs k e _=>?_;exact ⟨_,e,rfl,rfl⟩
omit ok in
theorem BC {p:Addr} {l:List (Str×AV)} (hM:(p,AO.eY l) ∈ S.M):∀ (Y D:List Addr) dZ s,Rel C Y dZ D env S s->∃ ob,s.heap.get? p=some ob/\ob.cls = .type "dict" /\ ob.dict=none:=fun Y D dZ s R=>by
 refine o1_3 (R.ob _ hM) fun kvs e _=>?_;refine o3_8 e fun o es ep ho hc hd h1 h2=>?_;clear e;exact ⟨o,ho,hc.1,hc.2.1⟩
omit ok in
theorem VRs.take {h:Heap} {X:List Addr}:∀ {vs:List Value} {l:List AV} (k:Nat),VRs h X vs l->VRs h X (vs.take k) (l.take k) :=
 fun {vs l} k r=>by
 induction l generalizing vs k with
 | nil=>exact VRs.fN r (by cases k <;> exact .nil)
 | cons a l ih =>
   refine VRs.eW r fun _ _ p q=>?_;cases k with
   | zero=>exact .nil
   | succ k=>exact .cons p (ih k q)
omit ok in
theorem VRs.drop {h:Heap} {X:List Addr}:∀ {vs:List Value} {l:List AV} (k:Nat),VRs h X vs l->VRs h X (vs.drop k) (l.drop k) :=
 fun {vs l} k r=>by
 induction l generalizing vs k with
 | nil=>exact VRs.fN r (by cases k <;> exact .nil)
 | cons a l ih =>
   cases k with
   | zero=>exact r
   | succ k=>exact VRs.eW r fun _ _ _ q=>ih k q
theorem Rel.ki {Y D:List Addr} {dZ s s':Shared} (R:Rel C Y dZ D env S s) {i:Nat} {a:Addr} {l l':List AV} (hM:S.M[i]? = some (a,.list l)) {vs:List Value} {k:Nat} (e:s'.heap.get? a=some ⟨.type "list", Option.none,.seq vs.toArray k,#[]⟩)
  (st:fC C.T [a] s s') (r:VRs s.heap (Xo C Y env S) vs l'):Rel C Y dZ D env ⟨S.μ,S.M.set i (a,.list l')⟩ s'/\Kp C Y env S s ⟨S.μ,S.M.set i (a,.list l')⟩ s' :=
 R.kJ ok (o':=.list l') hM rfl (aj ..) st ⟨_,e⟩ ⟨vs,k,e,VRs.stp st.heap (R.inX (aa _ (eU (eu hM) (aj ..)))) R.hT r⟩
theorem jG {s:Shared} {a:Addr} {f:Obj->Obj} {t:Nat} (ha:a ∉ C.T):fC C.T [a] s { s with heap:=s.heap.update a f,toks:=t }:=⟨.sameBut (b9 ..) ha,rfl,rfl,id⟩
omit ok in
theorem jO {h:Heap} {p:Addr} {items:Array Value} {n:Nat} (x:IsL h p items n) (f:Array Value->Array Value) (ws:List Value) (e:f items=ws.toArray):∃ k,(h.update p (Obj.mapSeq f)).get? p=some ⟨.type "list", Option.none,.seq ws.toArray k,#[]⟩:=⟨_,e▸x.update f⟩
namespace O
theorem append {i:Nat} {p:Addr} {l:List AV} {a:AV} {P:AV->St->Prop} (hM:S.M[i]? = some (p,.list l)) (hz:l.length<=sizeLine) (h:P .none ⟨S.μ,S.M.set i (p,.list (l++[a]))⟩) :
  VN C n env S (fun vs=>call (.builtin "list.append") (.ref p::vs)) [a] P:=fun A Y dZ D s vs Q ha R r q=>by
 refine VRs.eW r fun v0 _ r rs=>?_
 ·
  refine VRs.fN rs ?_;refine o2_4 (R.ob _ (eu hM)) fun ws k e rw_=>?_;refine wpAny_list_append_plain ⟨k,e⟩ (fun h' hp hs=>?_) (by rw [aK,rw_.length];exact hz)
  refine o1_2 hp fun k' e'=>?_;clear hp;have e2:ws.toArray.push v0=(ws++[v0]).toArray:=by simp
  rw [e2] at e';have hT:p ∉ C.T:=R.tn (aa _ (af _ (eU (eu hM) (aj ..))));refine o0_2 (Rel.ki ok R (s':={ s with heap:=h' }) hM e' ⟨.sameBut hs hT,rfl,rfl,id⟩ (rw_.append (.one r))) fun R' K'=>?_
  exact q _ _ _ _ h R' K' .none
noncomputable def n8 (l:List AV) (k:Nat) (a:AV):List AV:=l.take k++a::l.drop k
theorem insert {i:Nat} {p:Addr} {l:List AV} {k:Int} {a:AV} {P:AV->St->Prop} (hM:S.M[i]? = some (p,.list l)) (hz:l.length<=sizeLine) (h0:0<=k) (hk:k<=l.length) (h:P .none ⟨S.μ,S.M.set i (p,.list (n8 l k.toNat a))⟩) :
  VN C n env S (fun vs=>call (.builtin "list.insert") (.ref p::vs)) [.int k,a] P:=fun A Y dZ D s vs Q ha R r q=>by
 refine VRs.eW r fun _ _ r rs=>?_
 ·
  refine VRs.eW rs fun v0 _ r' rs=>?_
  ·
   refine VRs.fN rs ?_;refine VR.ff r fun u=>?_
   ·
    refine o2_4 (R.ob _ (eu hM)) fun ws kk e rw_=>?_;have hT:p ∉ C.T:=R.tn (aa _ (af _ (eU (eu hM) (aj ..))));have hfit:Builtin.List.listFitsIndex k=true:=by
     unfold sizeLine at hz;unfold Builtin.List.listFitsIndex;simp;lia
    refine call_meets F.slot_list_insert ⟨_,e,rfl⟩ F.entry_list_insert (F.args_list_insert_3 _ _ _) (AutoListH.list_insert_list_int_val_1 p ws.toArray kk k u _ (by rw [hfit];decide) (by rw [aK,rw_.length];exact hz)) ⟨e,?_⟩
    have hlen:=rw_.length;have ei:(if k<0 then (k+((ws.toArray.size:Nat):Int)).toNat else min k.toNat ws.toArray.size)=k.toNat:=by
     rw [aq (by lia),aK,hlen,Nat.min_eq_left (by lia)]
    have e3:∀ K:Nat,K=k.toNat->(ws.toArray.extract 0 K).push v0++ws.toArray.extract K=(ws.take k.toNat++v0::ws.drop k.toNat).toArray:=by
     rintro K rfl;apply Array.ext';have:List.take (ws.length - k.toNat) (List.drop k.toNat ws)=List.drop k.toNat ws:=cT (by simp)
     simp [this]
    refine o1_2 (jO (show IsL s.heap p ws.toArray kk from e) (fun xs:Array Value=>have k:=if k<0 then (k+((xs.size:Nat):Int)).toNat else min k.toNat xs.size;(xs.extract 0 k).push v0++xs.extract k) _ (e3 _ ei)) fun kk' e'=>?_
    refine o0_2 (Rel.ki ok R (s':={ s with heap:=s.heap.update p (Obj.mapSeq fun xs:Array Value=>have k:=if k<0 then (k+((xs.size:Nat):Int)).toNat else min k.toNat xs.size;(xs.extract 0 k).push v0++xs.extract k),toks:=s.toks }) hM e' (jG ok hT) (l':=n8 l k.toNat a) ((rw_.take k.toNat).append (.cons r' (rw_.drop k.toNat)))) fun R' K'=>?_
    exact q _ _ _ _ h R' K' .none
end O
end
end Mine
end
section
open PySem PySem.Sre
set_option tactic.hygienic false
namespace Mine.Re
noncomputable def code:Array Nat:=#[14,8,1,2,4294967295,1,1,46,0,16,46,24,9,1,4294967295,13,4,8,0,0,1,6,5,1]
noncomputable def fr (s:Nat) (ou:Bool):Sre.Frame:={ wait:=.nextStart,pc:=9,pos:=s,outermost:=ou }
noncomputable def Mx (text:Array Nat) (pc pos hd st:Nat) (ou:Bool) (fs:List Sre.Frame) (wt:Nat) (an:Option Bool) (sn:Seen) (ou2:Option Sre.Outcome):Sre.M :=
 { code:=code,text:=text,lim:=text.size,start:=st,lastStart:=text.size,pc:=pc,pos:=pos,handed:=hd,outermost:=ou,marks:=#[],frames:=fs,weight:=wt,answer:=an,seen:=sn,outcome:=ou2 }
variable {text:Array Nat} {s hd st:Nat} {ou:Bool} {sn:Seen}
theorem qu (h : ¬ (text.getD s 0=46)\/text.size<=s):∃ sn',(Mx text 9 s hd st ou [fr s ou] 1 none sn none).step=Mx text 9 s hd st ou [fr s ou] 1 (some false) sn' none:=by
 show ∃ sn',(Mx text 9 s hd st ou [fr s ou] 1 none sn none).exec=_;unfold M.exec Mx;have e:ops[(M.word { code:=code,text:=text,lim:=text.size,start:=st,lastStart:=text.size,pc:=9,pos:=s,handed:=hd,outermost:=ou,marks:=#[],frames:=[fr s ou],weight:=1,answer:=none,seen:=sn,outcome:=none } 0)]? = some .LITERAL:=by rfl
 rw [e];dsimp only;by_cases hs:s ≥ text.size
 ·rw [ay hs];exact ⟨_,rfl⟩
 ·rw [aq hs];have hc : ¬ (text.getD s 0=46):=by rcases h with h | h;exact h;exact absurd h hs
  have ea:∀ sn,accepts code 9 (text.getD s 0) sn = .ok (false,sn):=fun sn=>by
   show (Except.ok ((text.getD s 0) == 46,sn):Except String (Bool×Seen))=_;rw [aY.mpr hc]
  rw [ea];exact ⟨_,rfl⟩
theorem oU (h:text.getD s 0=46) (hs:s<text.size):∃ sn',(Mx text 9 s hd st ou [fr s ou] 1 none sn none).step=Mx text 11 (s+1) hd st ou [fr s ou] 1 none sn' none:=by
 show ∃ sn',(Mx text 9 s hd st ou [fr s ou] 1 none sn none).exec=_;unfold M.exec Mx;have e:ops[(M.word { code:=code,text:=text,lim:=text.size,start:=st,lastStart:=text.size,pc:=9,pos:=s,handed:=hd,outermost:=ou,marks:=#[],frames:=[fr s ou],weight:=1,answer:=none,seen:=sn,outcome:=none } 0)]? = some .LITERAL:=by rfl
 rw [e];dsimp only;rw [aq (Nat.not_le.mpr hs)];have ea:∀ sn,accepts code 9 (text.getD s 0) sn = .ok (true,sn):=fun sn=>by
  show (Except.ok ((text.getD s 0) == 46,sn):Except String (Bool×Seen))=_;rw [h];rfl
 rw [ea];exact ⟨_,rfl⟩
theorem xC {p k:Nat} (h:isDigit (text.getD p 0)=false):∃ sn',Sre.run code text 15 k p 0 sn = .ok (0,sn'):=by
 cases k with
 | zero=>exact ⟨sn,rfl⟩
 | succ k =>
   have ea:∃ sn',accepts code 15 (text.getD p 0) sn = .ok (false,sn'):=by
    generalize text.getD p 0=c at h;have ec:category 0 c = .ok false:=by
     have:category 0 c = .ok (isDigit c):=by unfold category;cases isDigit c <;> rfl
     rw [this,h]
    show ∃ sn',(do if <- category 0 c then pure (true,(Seen.add (Seen.add sn 8) 55)) else inSet code c 23 19 true (Seen.add (Seen.add sn 8) 55):Except String (Bool×Seen))=_
    rw [ec];exact ⟨_,rfl⟩
   refine o1_2 ea fun sn' e=>?_;clear ea;refine ⟨sn',?_⟩;unfold Sre.run;rw [e];rfl
theorem xg (h:isDigit (text.getD (s+1) 0)=false):∃ sn',(Mx text 11 (s+1) hd st ou [fr s ou] 1 none sn none).step=Mx text 11 (s+1) hd st ou [fr s ou] 1 (some false) sn' none:=by
 show ∃ sn',(Mx text 11 (s+1) hd st ou [fr s ou] 1 none sn none).exec=_;unfold M.exec Mx;have e:ops[(M.word { code:=code,text:=text,lim:=text.size,start:=st,lastStart:=text.size,pc:=11,pos:=s+1,handed:=hd,outermost:=ou,marks:=#[],frames:=[fr s ou],weight:=1,answer:=none,seen:=sn,outcome:=none } 0)]? = some .REPEAT_ONE:=by rfl
 rw [e];dsimp only;split
 ·exact ⟨_,rfl⟩
 ·rename_i hroom;refine o1_2 (xC (sn:=((sn.add 24).add 13)) (k:=min 4294967295 (((text.size:Int) - ((s+1:Nat):Int)).toNat)) h) fun sn' er=>?_;refine ⟨sn',?_⟩;generalize hrun:Sre.run code text (11+4) _ (s+1) 0 _=rr;have:rr = .ok (0,sn'):=hrun.symm.trans er;subst this
  rfl
theorem uF {pc pos:Nat} (hs:s<text.size):(Mx text pc pos hd st ou [fr s ou] 1 (some false) sn none).step=Mx text 9 (s+1) (s+1) (s+1) false [fr (s+1) false] 1 none sn none:=by
 show (if s<text.size then _ else _)=_
 rw [ay hs]
 rfl
theorem xj {pc pos:Nat} (hs:text.size<=s):(Mx text pc pos hd st ou [fr s ou] 1 (some false) sn none).step=Mx text 9 s hd st ou [] 0 (some false) sn none:=by
 show (if s<text.size then _ else _)=_
 rw [aq (Nat.not_lt.mpr hs)]
 rfl
theorem xh {pc pos:Nat}:(Mx text pc pos hd st ou [] 0 (some false) sn none).step=Mx text pc pos hd st ou [] 0 (some false) sn (some .failed):=rfl
inductive Ends:Nat->Sre.M->Prop
 | now {m:Sre.M}:m.outcome=some Sre.Outcome.failed->Ends 0 m
 | step {k:Nat} {m:Sre.M}:m.outcome=none->Ends k m.step->Ends (k+1) m
theorem Ends.run {k:Nat} {m:Sre.M} (h:Ends k m):∀ j,if k<=j then (m.runFor j).outcome=some Sre.Outcome.failed else (m.runFor j).outcome=none/\Ends (k - j) (m.runFor j):=by
 induction h with
 | now e =>
   intro j;rw [ay (bR _)];cases j with
   | zero=>exact e
   | succ j=>unfold M.runFor;rw [ay (by rw [e];rfl)];exact e
 | @step k m e h ih =>
   intro j;cases j with
   | zero=>rw [aq (by lia)];exact ⟨e,Ends.step e h⟩
   | succ j =>
     have er:M.runFor (j+1) m=M.runFor j m.step:=by
      rw [M.runFor.eq_2,aq (by rw [e];decide)]
     rw [er];have:=ih j;by_cases hk:k<=j
     ·rw [ay hk] at this;rw [ay (by lia)];exact this
     ·rw [aq hk] at this;rw [aq (by lia)]
      rw [show k+1 - (j+1)=k - j by lia];exact this
theorem fails (hd':∀ i,isDigit (text.getD i 0)=false):∀ (d s:Nat) (hd st:Nat) (ou:Bool) (sn:Seen),s+d=text.size->∃ k,k<=3 * d+4/\Ends k (Mx text 9 s hd st ou [fr s ou] 1 none sn none):=by
 have one:∀ (s hd st:Nat) (ou:Bool) (sn:Seen),∃ j,1<=j/\j<=2/\∃ pc pos sn',∀ k,Ends k (Mx text pc pos hd st ou [fr s ou] 1 (some false) sn' none)->Ends (k+j) (Mx text 9 s hd st ou [fr s ou] 1 none sn none):=by
  intro s hd st ou sn;have lit:(¬ (text.getD s 0=46)\/text.size<=s)->∃ j,1<=j/\j<=2/\∃ pc pos sn',∀ k,Ends k (Mx text pc pos hd st ou [fr s ou] 1 (some false) sn' none)->Ends (k+j) (Mx text 9 s hd st ou [fr s ou] 1 none sn none):=fun h=>by
   refine o1_2 (qu (hd:=hd) (st:=st) (ou:=ou) (sn:=sn) h) fun sn' e=>?_;exact ⟨1,by lia,by lia,9,s,sn',fun k hk=>.step rfl (e▸hk)⟩
  by_cases hs:text.size<=s
  ·exact lit (.inr hs)
  ·by_cases h46:text.getD s 0=46
   ·refine o1_2 (oU (hd:=hd) (st:=st) (ou:=ou) (sn:=sn) h46 (Nat.lt_of_not_le hs)) fun sn1 e1=>?_;refine o1_2 (xg (hd:=hd) (st:=st) (ou:=ou) (sn:=sn1) (hd' (s+1))) fun sn2 e2=>?_;exact ⟨2,by lia,by lia,11,s+1,sn2,fun k hk=>.step rfl (e1▸.step rfl (e2▸hk))⟩
   ·exact lit (.inl h46)
 intro d;induction d with
 | zero =>
   intro s hd st ou sn e;refine o1_4 (one s hd st ou sn) fun j _ hj zz=>?_;refine o3_4 zz fun pc pos sn' f=>?_;refine ⟨2+j,by lia,f 2 (.step rfl ?_)⟩
   rw [xj (by lia)]
   exact .step rfl (by rw [xh];exact .now rfl)
 | succ d ih =>
   intro s hd st ou sn e;refine o1_4 (one s hd st ou sn) fun j _ hj zz=>?_;refine o3_4 zz fun pc pos sn' f=>?_;refine o1_3 (ih (s+1) (s+1) (s+1) false sn' (by lia)) fun k hk h=>?_
   exact ⟨(k+1)+j,by lia,f (k+1) (.step rfl (by rw [uF (by lia)];exact h))⟩
open PySem.Builtin.Re
section
variable {prog:Program} {w:World} {A:Around} {E:Value->Shared->Prop} {sh:Shared}
theorem wY {m:Sre.M}:∀ (t k:Nat) (m:Sre.M),Ends k m->k<=4 * t->1<=t->∀ {Q:Sre.M->Shared->Prop},(∀ m',m'.outcome=some Sre.Outcome.failed->Q m' sh)->wpAny (model prog w) A (reDrive t m) Q E sh:=by
 intro t;induction t with
 | zero=>intro k m _ _ h;lia
 | succ t ih =>
   intro k m h hk _ Q hQ;unfold reDrive;have hr:=h.run reTurnSteps;by_cases h4:k<=reTurnSteps
   ·rw [ay h4] at hr;show wpAny _ _ (if (M.runFor reTurnSteps m).outcome.isSome=true then pure (M.runFor reTurnSteps m) else _) Q E sh
    rw [ay (by rw [hr];rfl)]
    exact ak (hQ _ hr)
   ·rw [aq h4] at hr;show wpAny _ _ (if (M.runFor reTurnSteps m).outcome.isSome=true then pure (M.runFor reTurnSteps m) else _) Q E sh
    rw [aq (by rw [hr.1];decide)]
    have h4':reTurnSteps=4:=rfl;refine ah (dc ?_);exact ih (k - reTurnSteps) _ hr.2 (by lia) (by lia) hQ
theorem wX {m:Sre.M} {Q:PUnit->Shared->Prop} {f:Nat->PUnit->Sem (ForInStep PUnit)} (hf:∀ i u,f i u=(if m.seen.has i then do rule (Sre.names.getD i "");pure (ForInStep.yield PUnit.unit) else pure (ForInStep.yield PUnit.unit))) (h:Q ⟨⟩ sh) :
  ∀ l:List Nat,wpAny (model prog w) A (forIn l PUnit.unit f) Q E sh:=by
 intro l;induction l with
 | nil=>exact ak h
 | cons i l ih =>
   rw [dw,hf];refine ah ?_;cases hh:m.seen.has i
   ·exact ak ih
   ·exact ah (dc (ak ih))
theorem Ax {m:Sre.M} {k:Nat} (h:Ends k m) (hk:k<=2 ^ 60) {Q:Option Sre.M->Shared->Prop} (hQ:Q none sh):wpAny (model prog w) A (reRunToEnd m) Q E sh:=by
 unfold reRunToEnd;refine ah (wY (m:=m) (2 ^ 64) k m h (by lia) (by lia) fun m' hm=>?_)
 refine ah (wX (m:=m') (fun i u=>?_) ?_ _)
 ·cases m'.seen.has i <;> rfl
 ·rw [hm];exact ak hQ
end
end Mine.Re
end
section
open PySem PySem.W PySem.Calls PyProof.Rows
open PySem.Builtin.Re
set_option tactic.hygienic false
namespace Mine.Re
theorem mP:PlainAttrs "re.Pattern" :=
 ⟨⟨"object.__getattribute__", by rw [typeLookup_type,builtinLookup_eq_fast];kernel_rfl,by decide +kernel⟩,by rw [typeLookup_type,builtinLookup_eq_fast];kernel_rfl⟩
theorem lH:Slot "re.Pattern" "search" "re.Pattern.search" :=
 .of (owner := "re.Pattern") (n := "search") (by rw [typeLookup_type,builtinLookup_eq_fast];kernel_rfl) (by decide +kernel) (by decide +kernel) (by decide +kernel)
  (by first | exact .inl (by decide +kernel) | exact .inr (by decide +kernel)) (by rw [isSubtype_type];kernel_rfl)
theorem qk:typeOf (.builtin "re.Pattern.search")=pure (.type "method_descriptor"):=by show builtinType _=_;rw [builtinType_eq_fast];kernel_rfl
theorem pV:entryFor table "re.Pattern.search" = some Builtin.«re.Pattern.search»:=entryFor_of_tree (by kernel_rfl)
theorem q4 (a b:Value):argsOk "re.Pattern.search" ⟨[a,b],[]⟩:=by unfold argsOk;kernel_rfl
theorem pq (v:Value):reNamed "re.Pattern.search" "search" ["string", "pos", "endpos"] 1 [v] []=pure [some v,none,none]:=by rfl
theorem qy (text:Array Nat) (hd:∀ i,Sre.isDigit (text.getD i 0)=false):∃ k,k<=3 * text.size+4/\Ends k (Sre.forSearch code text 0 0 text.size false):=by
 by_cases h:text.size<2
 ·have e:Sre.forSearch code text 0 0 text.size false={ code:=code,text:=text,lim:=text.size,start:=0,pc:=9,pos:=0,handed:=0,marks:=#[],answer:=some false,seen:=({}:Sre.Seen).add 14 }:=by
   have hc:(decide (0 > text.size) || decide (text.size - 0<2))=true:=by simp [h]
   show (if (decide (0 > text.size) || decide (text.size - 0<2))=true then _ else _)=_
   rw [ay hc]
   rfl
  rw [e];exact ⟨1,by lia,.step rfl (.now rfl)⟩
 ·have e:Sre.forSearch code text 0 0 text.size false=Mx text 9 0 0 0 true [fr 0 true] 1 none (({}:Sre.Seen).add 14) none:=by
   have hc : ¬ (decide (0 > text.size) || decide (text.size - 0<2))=true:=by simp;lia
   show (if (decide (0 > text.size) || decide (text.size - 0<2))=true then _ else _)=_
   rw [aq hc]
   rfl
  rw [e];exact fails hd text.size 0 0 0 true _ (Nat.zero_add _)
section
variable {prog:Program} {w:World} {A:Around} {E:Value->Shared->Prop} {s:Shared}
theorem uo {p q:Addr} {x:Str} {t:Tok} {fl:Array Value} {op oq:Obj} {vs:Array Value} {k:Nat} {Q:Value->Shared->Prop} (hp:s.heap.get? p=some op) (hpc:op.cls = .type "re.Pattern") (hpd:op.data = .fields fl)
  (h2:reRawNat (fl.getD 2 .none)=0) (h6:reRawNat (fl.getD 6 .none)=0) (h5:fl.getD 5 .none = .ref q) (hq:s.heap.get? q=some oq) (hqd:oq.data = .seq vs k) (hv:(vs.map reRawOf).map (·.toNat)=code)
  (hd:∀ i,Sre.isDigit (x.cps.getD i 0)=false) (hz:x.length<=sizeLine) (h:Q .none s):wpAny (model prog w) A (call (.builtin "re.Pattern.search") [.ref p,.str x t]) Q E s:=by
 refine cV lH ⟨_,hp,hpc⟩ pV ?_ (q4 _ _);show wpAny _ _ (reTarget "re.Pattern.search" "search" ⟨[.ref p,.str x t],[]⟩ >>= fun t=>reAnswer t (Sre.forSearch t.code t.text t.groups t.pos t.lim false)) _ _ s
 refine ah ?_;unfold reTarget;dsimp only;rw [pq];refine ah (ak ?_);dsimp only;refine ah (ak (ah (ak (ah (wpAny_fieldsOf hp hpd ?_)))));refine ah (m:=reTextOf (.str x t)) ?_;refine bS (a:=(x.cps,0)) rfl ?_;dsimp only;rw [h6];rw [aq (by decide),aq (by decide)]
 refine ah (m:=reNoCollectionInside (.str x t) 0) (bS (a:=()) rfl ?_);rw [h5];refine ah (m:=reRawItems (.ref q)) ?_;unfold reRawItems;refine ah (wpAny_seqItems hq hqd (ak (ak ?_)));dsimp only;rw [h2];have hmin:min ((2 ^ 63 - 1:Int).toNat) x.cps.size=x.cps.size:=Nat.min_eq_right (by have:x.cps.size<=sizeLine:=hz;unfold sizeLine at this;lia)
 have e0:min (Int.toNat 0) x.cps.size=0:=by simp
 have ec:Array.map (fun x=>x.toNat) (Array.map reRawOf ((some vs).getD #[]))=code:=hv;rw [ec,hmin,e0];refine o1_3 (qy x.cps hd) fun kk hk he=>?_;unfold reAnswer;refine ah (Ax he (by have:x.cps.size<=sizeLine:=hz;unfold sizeLine at this;lia) ?_)
 exact ak ⟨_,rfl,h⟩
end
end Mine.Re
end
section
open PySem PySem.W PySem.Calls PyProof.Rows
set_option tactic.hygienic false
namespace Mine
noncomputable def uB:List Addr:=[73,80]
noncomputable def KA (P:Params):Frag:=(hx1.heap_1 P).filter fun p=>!(p.1 == 73 || p.1 == 80 || p.1 == 311 || p.1 == 321)
noncomputable def CA (w:World) (mg mb:Str->Option Value) (Z:Frag):Cx:={ prog:=PySem.Challenge.rw_xr0025_02.row.toRowW.prog,w:=w,K:=KA w.params,mg:=mg,mb:=mb,T:=uB,Dm:=111,qnC:=251,Z:=Z }
structure GA (w:World) (mg mb:Str->Option Value):Prop where
 glo:∀ x v,nsIn (KA w.params) mainGlobals x=some (some v)->mg x=some v
 non:∀ x,nsIn (KA w.params) mainGlobals x=some none->mg x=none
 mb:∀ x:Str,x ≠ "__name__" -> mb x=bootBuiltins x
theorem lookup_mem {l:Frag} {a:Addr} {o:Obj} (h:l.lookup a=some o):(a,o) ∈ l:=by
 induction l with
 | nil=>cases h
 | cons p l ih =>
   obtain ⟨b,q⟩:=p;rw [bz] at h;cases e:a == b
   ·rw [e] at h;exact ai _ (ih h)
   ·rw [e] at h;have eb:a=b:=by simpa using e
    cases h;subst eb;exact aj ..
theorem iQ {l:Frag} {q:Addr×Obj->Bool} {a:Addr} {o:Obj} (h:(l.filter q).lookup a=some o):q (a,o)=true:=(cH.mp (lookup_mem h)).2
theorem okA {w:World} {mg mb:Str->Option Value} {Z:Frag} (g:GA w mg mb):(CA w mg mb Z).Ok:=⟨fun a h q=>by
 have hq:a=73\/a=80:=by simpa [CA,uB] using q
 rcases h with ⟨o,e⟩ | e | e | e
 ·have:=iQ (l:=hx1.heap_1 w.params) (show List.lookup a ((hx1.heap_1 w.params).filter fun p=>!(p.1 == 73 || p.1 == 80 || p.1 == 311 || p.1 == 321))=some o from e)
  rcases hq with rfl | rfl <;> simp at this
 ·subst e;rcases hq with h | h <;> exact absurd h (by decide)
 ·subst e;rcases hq with h | h <;> exact absurd h (by decide)
 ·subst e;rcases hq with h | h <;> exact absurd h (by decide),g.mb⟩
theorem bind1 {C:Cx} {fd:FuncData} {x:Str} {a:AV} (h:∀ v,bindArgs fd ⟨[v],[]⟩=pure [(x,v)]) :
  ∀ h X vs,VRs h X vs [a]->C.K.In h->(∀ a,C.Old a->a ∉ X)->∃ bs,(∀ s:Shared,s.heap=h->BindsTo s fd ⟨vs,[]⟩ bs)/\PRs h X bs [(x,a)]:=fun hp X vs r _ _=>by
 refine VRs.eW r fun v _ r rs=>?_;refine VRs.fN rs ?_;exact ⟨_,fun s _=>.of_eq (h v),.cons r .nil⟩
theorem yx {C:Cx} {fd:FuncData} {x y:Str} {a b:AV} (h:∀ v u,bindArgs fd ⟨[v,u],[]⟩=pure [(x,v),(y,u)]) :
  ∀ h X vs,VRs h X vs [a,b]->C.K.In h->(∀ a,C.Old a->a ∉ X)->∃ bs,(∀ s:Shared,s.heap=h->BindsTo s fd ⟨vs,[]⟩ bs)/\PRs h X bs [(x,a),(y,b)]:=fun hp X vs r _ _=>by
 refine VRs.eW r fun v _ r rs=>?_;refine VRs.eW rs fun u _ r' rs=>?_;refine VRs.fN rs ?_;exact ⟨_,fun s _=>.of_eq (h v u),.cons r (.cons r' .nil)⟩
noncomputable def iz (x:Str):Prop:=∀ i,Sre.isDigit (x.cps.getD i 0)=false
noncomputable def hdn (x:Str):Bool:=!(x == ("" : Str)) && !(Txt.item x 0 == ("." : Str)) && !(Txt.item x (-1) == ("." : Str))
section
variable {w:World} {mg mb:Str->Option Value} {Z:Frag} (g:GA w mg mb)
include g
theorem xw {n:Nat} {env:Env} {S:St} {x:Str} (hx:iz x) (hz:x.length<=sizeLine):PN (CA w mg mb Z) n env S (fun vs=>call (.builtin "re.Pattern.search") (.ref 156::vs)) [.str x] .none :=
 .of (okA (Z:=Z) g) fun A X s vs Q ha B r _ _ q=>by
  refine VRs.eW r fun _ _ r rs=>?_
  ·
   refine VRs.fN rs ?_;refine VR.fO r fun _=>?_;exact Re.uo (B.K 156 _ rfl) rfl rfl rfl rfl rfl (B.K 155 _ rfl) rfl (by simp [Builtin.Re.reRawOf,Re.code]) hx hz (q _ _ (.refl ..) .none)
theorem vD {n:Nat} {M:List (Addr×AO)} {x:Str} (hx:iz x) (hz:x.length<=sizeLine):FN (CA w mg mb Z) (n+1) 163 M [.str x] (fun a M'=>a = .bool (hdn x)/\M'=M):=by
 have ok:=okA (Z:=Z) g;refine gc ok (ab:=[("text", .str x)]) ⟨⟨_,rfl,rfl⟩,⟨_,_,_,_,rfl,rfl,rfl,rfl⟩,rfl,rfl,rfl,(fun x c h=>by cases h),rfl,rfl,rfl,by decide⟩ (by decide) (bind1 fun _=>rfl) (by intro x hx;simp at hx;subst hx;rfl) ?_
 intro L;refine EX.cons (E1.ite ((PT.val (PE.mF Re.lH Re.mP Re.qk (PE.glob rfl (g.glo _ _ rfl)) (fun Y D dZ s R=>⟨_,R.bs.K 156 _ rfl,rfl,rfl⟩) (PL.cons (PE.name rfl) PL.nil) (xw g hx hz)) T1.none).then ?_))
 refine EX.nil ?_;refine EX.cons (E1.ite ((PT.cmp (PE.name rfl) (PE.str ok) (O.eqs ok)).then ?_))
 by_cases h0:x=("" : Str)
 ·rw [ay (by simpa using h0)]
  exact EX.cons (E1.ret ((PE.bool).then ⟨by rw [h0];rfl,rfl⟩))
 rw [aq (by simpa using h0)]
 refine EX.nil ?_;have hl:0<x.length:=by
  rcases Nat.eq_zero_or_pos x.length with h | h
  ·exfalso;apply h0;obtain ⟨c⟩:=x;have:c = #[]:=Array.eq_empty_of_size_eq_zero h;subst this;rfl
  ·exact h
 refine EX.cons (E1.ite ((PT.or2 (PT.cmp (PE.sub (PE.name rfl) (PE.int ok) (O.nT ok (by decide) (by lia) (by lia))) (PE.str ok) (O.eqs ok))
  (fun _=>PT.cmp (PE.sub (PE.name rfl) (PE.neg ok (PE.int ok)) (O.nT ok (by decide) (by lia) (by lia))) (PE.str ok) (O.eqs ok))).then ?_))
 by_cases h1:(Txt.item x 0 == ("." : Str) || Txt.item x (-1) == ("." : Str))=true
 ·rw [ay h1];refine EX.cons (E1.ret ((PE.bool).then ⟨congrArg AV.bool ?_,rfl⟩))
  unfold hdn;revert h1;cases (Txt.item x 0 == ("." : Str)) <;> cases (Txt.item x (-1) == ("." : Str)) <;> simp
 ·rw [aq h1];refine EX.nil (EX.cons (E1.ret ((PE.bool).then ⟨congrArg AV.bool ?_,rfl⟩)))
  have e0:(x == ("" : Str))=false:=aY.mpr h0
  unfold hdn;rw [e0];revert h1;cases (Txt.item x 0 == ("." : Str)) <;> cases (Txt.item x (-1) == ("." : Str)) <;> simp
noncomputable def f9 (A B:Str):Bool :=
 if Txt.lower A == Txt.lower B then true else if !hdn (Txt.lower A) then false
 else if Txt.rfind (Txt.lower A) (Txt.lower B) == -1 || Txt.rfind (Txt.lower A) (Txt.lower B) == 0 then false
 else if !Txt.startswith (Txt.lower B) "." then false else if !hdn (Txt.slice (Txt.lower B) (some 1) none) then false else true
noncomputable def reachF (h:Str):Str :=
 if 0<=Txt.find h "." then
  if hdn h && (decide (0<=Txt.find (Txt.slice h (some (Txt.find h "." + 1)) none) ".") || Txt.slice h (some (Txt.find h "." + 1)) none == "local") then "." ++ Txt.slice h (some (Txt.find h "." + 1)) none else h
 else h
theorem PE.hdn {n:Nat} {env:Env} {S:St} {e:Expr} {p pos:Pos} {x:Str} (hk:env.kindOf "is_HDN" = some .globalImplicit) (h:PE (CA w mg mb Z) (n+1) env S e (.str x)) (hx:iz x) (hz:x.length<=sizeLine)
  (he:starEach [e] env=(false,eval e env)::starEach [] env:=by rfl):PE (CA w mg mb Z) (n+1) env S (.Call (.Name "is_HDN" p) [e] [] pos) (.bool (hdn x)) :=
 PE.j3 (PE.glob hk (g.glo _ _ rfl)) (show (CA w mg mb Z).K.lookup 163=some _ from rfl) rfl (PL.cons h PL.nil he) (vD g hx hz) he
theorem xF {n:Nat} {M:List (Addr×AO)} {x:Str} (hx:iz x) (hz:x.length+1<=sizeLine):FN (CA w mg mb Z) (n+2) 177 M [.str x] (fun a M'=>a = .str (reachF x)/\M'=M):=by
 have ok:=okA (Z:=Z) g;have hz':x.length<=sizeLine:=by lia
 refine gc ok (ab:=[("h", .str x)]) ⟨⟨_,rfl,rfl⟩,⟨_,_,_,_,rfl,rfl,rfl,rfl⟩,rfl,rfl,rfl,(fun x c h=>by cases h),rfl,rfl,rfl,by decide⟩ (by decide) (bind1 fun _=>rfl) (by intro x hx;simp at hx;subst hx;rfl) ?_
 intro L;refine EX.cons (E1.assign ok (.inl rfl) ((PE.find ok (PE.name rfl) (PE.str ok)).then ?_))
 refine EX.cons (E1.ite ((PT.cmp (PE.name rfl) (PE.int ok) (O.ge ok)).then ?_))
 by_cases h0:0<=Txt.find x "."
 ·rw [ay (bU h0)];refine EX.cons (E1.assign ok (.inl rfl) ((oJ ok (PE.name rfl) (PE.bin (PE.name rfl) (PE.int ok) (O.add ok)) hz').then ?_))
  refine EX.cons (E1.assign ok (.inl rfl) ((PE.find ok (PE.name rfl) (PE.str ok)).then ?_))
  refine EX.cons (E1.ite ((PT.BU (PT.val (PE.hdn g rfl (PE.name rfl) hx hz') T1.bool) (fun _=>PT.or2 (PT.cmp (PE.name rfl) (PE.int ok) (O.ge ok)) (fun _=>PT.cmp (PE.name rfl) (PE.str ok) (O.eqs ok)))).then ?_))
  have hsl:=cM x (some (Txt.find x "." + 1)) none
  by_cases h1:(hdn x && (decide (0<=Txt.find (Txt.slice x (some (Txt.find x "." + 1)) none) ".") || Txt.slice x (some (Txt.find x "." + 1)) none == "local"))=true
  ·rw [ay h1];refine EX.cons (E1.ret ((PE.bin (PE.str ok) (PE.name rfl) (O.adds ok ?_)).then ⟨?_,rfl⟩))
   ·have:("." : Str).length=1:=rfl
    lia
   ·unfold reachF;rw [ay h0,ay h1]
  ·rw [aq h1];refine EX.nil (EX.nil (EX.cons (E1.ret ((PE.name rfl).then ⟨?_,rfl⟩))))
   unfold reachF;rw [ay h0,aq h1]
 ·rw [aq (by simpa using h0)]
  refine EX.nil (EX.cons (E1.ret ((PE.name rfl).then ⟨?_,rfl⟩)))
  unfold reachF;rw [aq h0]
end
end Mine
namespace Mine
section
variable {C:Cx} (ok:C.Ok) {n:Nat} {env:Env} {S:St}
include ok
theorem gh {t:Str} {x c z:Str} {k0 k1 k2:Nat} {p0 p1 p2 p3 p4 p5 p6 p7 p8 p9 p10:Pos} {P:AF->St->Prop} (hk:env.kindOf t=some .local) (hx:S.μ.lookup t=some (.str x)) (hcz:(c == z)=false) (hb:x.length+(x.length+1) * z.length<=16777216)
  (h:P .next ⟨ins t (.str (if Txt.contains x c then Txt.replace x c z else x)) S.μ,S.M⟩) (hid:ins t (.str x) S.μ=S.μ)
  (hd:(t == ("__debug__" : Str))=false:=by decide) (hline:(p5.endLine == p6.line)=true:=by rfl)
  (hbase:attributeBase (.Name t p4) "replace" env (eval (.Name t p4) env)=eval (.Name t p4) env:=by rfl)
  (hs:swapsWith (.Call (.Attribute (.Name t p4) "replace" p5) [.Constant (.str c) k1 p7,.Constant (.str z) k2 p8] [] p6) (some (.Name t p3)) p9.line env=pure false:=by rfl) :
  E1 C n env S (.If (.Compare (.Constant (.str c) k0 p0) [.In] [.Name t p1] p2) [.Assign [.Name t p3] (.Call (.Attribute (.Name t p4) "replace" p5) [.Constant (.str c) k1 p7,.Constant (.str z) k2 p8] [] p6) p9] [] p10) P :=
 fun A Y dZ D s Q ha R q=>by
  have R1:=R.go ok (fC.toks C.T s (s.toks+1));have K1:=Kp.go R (fC.toks C.T s (s.toks+1));refine o1_3 R1.fr.loc fun m hn hm=>?_;refine o1_3 (hm t _ hx hk) fun v e1 r1=>?_;refine VR.iW r1 ?_;clear r1;intro tk e_0;cases e_0
  ·
   refine wpAny_If (wpAny_isTrue_Compare1 (dh (wpAny_Name (cu R1.ev.kind hk hn e1 (SB.contains (wpAny_truthy_bool ?_))) hd)));cases hc:Txt.contains x c
   ·rw [hc] at h;simp only [bu,cg] at h ⊢;rw [hid] at h;exact dm (q _ _ _ _ h R1 K1 .next)
   ·rw [hc] at h;simp only [if_true] at h ⊢;refine wpAny_execs_cons (wpAny_Assign_Name (hs:=hs) (Call_method2 hbase rfl hline (wpAny_Name (cu R1.ev.kind hk hn e1 ?_) hd)));refine ⟨"str", "str.replace", F.plainAttrs_str,F.slot_str_replace,F.type_str_replace,dG _ _ _,(fun _ e=>nomatch e),?_⟩
    refine cC rfl (Calls.evalArgs_plain (Calls.spliced_cons (dh (Calls.spliced_cons (dh (Calls.spliced_nil ?_))))));refine SC.replace (by show s.toks+1≠0;lia) (by show s.toks+1+1≠0;lia) (by show s.toks+1≠s.toks+1+1;lia) hcz hb fun t' k=>?_
    have R2:=R1.go ok (fC.toks C.T { s with toks:=s.toks+1 } k)
    have K2:=Kp.go R1 (fC.toks C.T { s with toks:=s.toks+1 } k)
    refine store ok Y (.inl hk) R2 (.str (Txt.replace x c z) t') fun s' R3 K3=>dm (q _ _ _ _ h R3 ((K1.trans K2).trans K3) .next)
theorem qf {body:List Stmt} {h₀:ExceptHandler} {hs:List ExceptHandler} {pos:Pos} {P:AF->St->Prop} (h:EX C n env S body P):E1 C n env S (.Try body (h₀::hs) [] [] pos) P :=
 fun A Y dZ D s Q ha R q=>wpAny_Try_except (jP (h A Y dZ D s Q ha R q) fun f s z=>by
  cases f
  ·exact dm z
  ·exact z
  ·exact z
  ·exact z)
end
end Mine
end
section
open PySem PyProof.Rows
set_option tactic.hygienic false
namespace Mine
theorem Str.ext' {x y:Str} (h:x.cps.toList=y.cps.toList):x=y:=by
 obtain ⟨a⟩:=x;obtain ⟨b⟩:=y;have:a=b:=Array.ext' h;rw [this]
theorem cps_append (x y:Str):(x++y).cps.toList=x.cps.toList++y.cps.toList:=by
 show (x.cps++y.cps).toList=_;simp
noncomputable def repl (c:Nat) (z:List Nat) (l:List Nat):List Nat:=l.flatMap fun d=>if d=c then z else [d]
theorem lI {c:Nat} {z l:List Nat} (h:c ∉ l):repl c z l=l:=by
 unfold repl;induction l with
 | nil=>rfl
 | cons d l ih =>
   have hd : ¬ d=c:=fun e=>h (e▸aj ..);rw [bQ,ih (fun q=>h (ai _ q)),aq hd];rfl
theorem lJ {c:Nat} {z l m:List Nat}:repl c z (l++m)=repl c z l++repl c z m:=by unfold repl;simp
theorem o6 {c:Nat} {z:Str}:∀ parts:List Str,(∀ p ∈ parts,c ∉ p.cps.toList)->(Str.join z parts).cps.toList=repl c z.cps.toList (Str.join ⟨#[c]⟩ parts).cps.toList
 | [],_=>rfl
 | [p],h=>by rw [PyProof.Rows.join_one,PyProof.Rows.join_one,lI (h p (aj ..))]
 | p::q::r,h=>by
   rw [PyProof.Rows.join_cons_cons,PyProof.Rows.join_cons_cons];rw [cps_append,cps_append,cps_append,cps_append,lJ,lJ,lI (h p (aj ..)),o6 (q::r) fun a ha=>h a (ai _ ha)];congr 2;show z.cps.toList=repl c z.cps.toList [c];unfold repl;simp
theorem o5 (x z:Str) (c:Nat):(Txt.replace x ⟨#[c]⟩ z).cps.toList=repl c z.cps.toList x.cps.toList:=by
 rw [StrLaws.replace_one,o6 _ (StrLaws.split_free x c),StrLaws.join_split]
noncomputable def mj (c z x:Str):Str:=if Txt.contains x c then Txt.replace x c z else x
theorem qM (x z:Str) (c:Nat):(mj ⟨#[c]⟩ z x).cps.toList=repl c z.cps.toList x.cps.toList:=by
 unfold mj;have e:Txt.contains x ⟨#[c]⟩=decide (c ∈ x.cps.toList):=StrLaws.found_one x c;by_cases h:c ∈ x.cps.toList
 ·rw [ay (by rw [e];exact bU h)];exact o5 x z c
 ·rw [aq (by rw [e];simpa using h),lI h]
theorem rM {c:Nat} {z:List Nat}:∀ l:List Nat,(repl c z l).length<=l.length * (z.length+1)
 | []=>by simp [repl]
 | d::l=>by
   have ih:=rM (c:=c) (z:=z) l;have:repl c z (d::l)=(if d=c then z else [d])++repl c z l:=by unfold repl;rw [bQ]
   rw [this,bl,bg,Nat.add_mul];have h1:(if d=c then z else [d]).length<=z.length+1:=by split <;> simp
   lia
theorem len_eq (x:Str):x.length=x.cps.toList.length:=by simp [Str.length]
theorem qN (x z:Str) (c:Nat):(mj ⟨#[c]⟩ z x).length+1<=(x.length+1) * (z.length+1):=by
 rw [len_eq,qM,len_eq x,len_eq z];have:=rM (c:=c) (z:=z.cps.toList) x.cps.toList;rw [Nat.add_mul];lia
noncomputable def Av (T:List (Nat×Str)) (x:Str):Str:=T.foldl (fun x p=>mj ⟨#[p.1]⟩ p.2 x) x
end Mine
end
section
open PySem PySem.W PySem.Calls PyProof.Rows
set_option tactic.hygienic false
namespace Mine
noncomputable def yX:List (Nat×Str):=[(38,"&amp;"),(60,"&lt;"),(62,"&gt;")]
noncomputable def BY:List (Nat×Str):=[(38,"&amp;"),(60,"&lt;"),(62,"&gt;"),(34,"&quot;"),(13,"&#13;"),(10,"&#10;"),(9,"&#09;")]
noncomputable def BX:List (Nat×Str):=[(38,"&amp;"),(62,"&gt;"),(34,"&quot;")]
noncomputable def Tcc:List (Nat×Str):=[(38,"&amp;"),(60,"&lt;"),(62,"&gt;"),(13,"&#xD;")]
noncomputable def Tac:List (Nat×Str):=[(38,"&amp;"),(60,"&lt;"),(34,"&quot;"),(9,"&#x9;"),(10,"&#xA;"),(13,"&#xD;")]
noncomputable def qc (x:Str) (k:Nat):Prop:=(x.length+1) * k<=16777216
theorem qc.hb {x z:Str} {k l:Nat} (h:qc x k) (hk:k=(z.length+1) * l) (hl:1<=l):x.length+(x.length+1) * z.length<=16777216:=by
 unfold qc at h;subst hk;have h1:(x.length+1) * (z.length+1)<=(x.length+1) * ((z.length+1) * l):=Nat.mul_le_mul_left _ (Nat.le_mul_of_pos_right _ hl);have h2:(x.length+1) * (z.length+1)=(x.length+1) * z.length+(x.length+1):=Nat.mul_succ _ _;lia
theorem qc.next {x z:Str} {c k l:Nat} (h:qc x k) (hk:k=(z.length+1) * l):qc (mj ⟨#[c]⟩ z x) l:=by
 unfold qc at *;subst hk;have:=qN x z c;have h1:=Nat.mul_le_mul_right l this;rw [Nat.mul_assoc] at h1;lia
section
variable {w:World} {mg mb:Str->Option Value} {Z:Frag} (g:GA w mg mb)
include g
theorem vS {n:Nat} {M:List (Addr×AO)} {x:Str} (h0:qc x (6 * (5 * (5 * (1))))):FN (CA w mg mb Z) (n+1) 269 M [.str x] (fun a M'=>a = .str (Av yX x)/\M'=M):=by
 have ok:=okA (Z:=Z) g;refine gc ok (ab:=[("text", .str x)]) ⟨⟨_,rfl,rfl⟩,⟨_,_,_,_,rfl,rfl,rfl,rfl⟩,rfl,rfl,rfl,(fun x c h=>by cases h),rfl,rfl,rfl,by decide⟩ (by decide) (bind1 fun _=>rfl) (by intro x hx;simp at hx;subst hx;rfl) ?_
 intro L;have h1:=h0.next (z := "&amp;") (c:=38) (l:=5 * (5 * (1))) rfl
 have h2:=h1.next (z := "&lt;") (c:=60) (l:=5 * (1)) rfl
 refine EX.cons (qf ok ?_);refine EX.cons (gh ok rfl rfl (by decide) (h0.hb (z := "&amp;") rfl (by decide)) ?_ rfl)
 refine EX.cons (gh ok rfl rfl (by decide) (h1.hb (z := "&lt;") rfl (by decide)) ?_ rfl)
 refine EX.cons (gh ok rfl rfl (by decide) (h2.hb (z := "&gt;") rfl (by decide)) ?_ rfl)
 exact EX.cons (E1.ret ((PE.name rfl).then ⟨rfl,rfl⟩))
theorem tS {n:Nat} {M:List (Addr×AO)} {x:Str} (h0:qc x (6 * (5 * (5 * (7 * (6 * (6 * (6 * (1))))))))):FN (CA w mg mb Z) (n+1) 276 M [.str x] (fun a M'=>a = .str (Av BY x)/\M'=M):=by
 have ok:=okA (Z:=Z) g;refine gc ok (ab:=[("text", .str x)]) ⟨⟨_,rfl,rfl⟩,⟨_,_,_,_,rfl,rfl,rfl,rfl⟩,rfl,rfl,rfl,(fun x c h=>by cases h),rfl,rfl,rfl,by decide⟩ (by decide) (bind1 fun _=>rfl) (by intro x hx;simp at hx;subst hx;rfl) ?_
 intro L;have h1:=h0.next (z := "&amp;") (c:=38) (l:=5 * (5 * (7 * (6 * (6 * (6 * (1))))))) rfl
 have h2:=h1.next (z := "&lt;") (c:=60) (l:=5 * (7 * (6 * (6 * (6 * (1)))))) rfl
 have h3:=h2.next (z := "&gt;") (c:=62) (l:=7 * (6 * (6 * (6 * (1))))) rfl
 have h4:=h3.next (z := "&quot;") (c:=34) (l:=6 * (6 * (6 * (1)))) rfl
 have h5:=h4.next (z := "&#13;") (c:=13) (l:=6 * (6 * (1))) rfl
 have h6:=h5.next (z := "&#10;") (c:=10) (l:=6 * (1)) rfl
 refine EX.cons (qf ok ?_);refine EX.cons (gh ok rfl rfl (by decide) (h0.hb (z := "&amp;") rfl (by decide)) ?_ rfl)
 refine EX.cons (gh ok rfl rfl (by decide) (h1.hb (z := "&lt;") rfl (by decide)) ?_ rfl)
 refine EX.cons (gh ok rfl rfl (by decide) (h2.hb (z := "&gt;") rfl (by decide)) ?_ rfl)
 refine EX.cons (gh ok rfl rfl (by decide) (h3.hb (z := "&quot;") rfl (by decide)) ?_ rfl)
 refine EX.cons (gh ok rfl rfl (by decide) (h4.hb (z := "&#13;") rfl (by decide)) ?_ rfl)
 refine EX.cons (gh ok rfl rfl (by decide) (h5.hb (z := "&#10;") rfl (by decide)) ?_ rfl)
 refine EX.cons (gh ok rfl rfl (by decide) (h6.hb (z := "&#09;") rfl (by decide)) ?_ rfl)
 exact EX.cons (E1.ret ((PE.name rfl).then ⟨rfl,rfl⟩))
theorem ye {n:Nat} {M:List (Addr×AO)} {x:Str} (h0:qc x (6 * (5 * (7 * (1))))):FN (CA w mg mb Z) (n+1) 283 M [.str x] (fun a M'=>a = .str (Av BX x)/\M'=M):=by
 have ok:=okA (Z:=Z) g;refine gc ok (ab:=[("text", .str x)]) ⟨⟨_,rfl,rfl⟩,⟨_,_,_,_,rfl,rfl,rfl,rfl⟩,rfl,rfl,rfl,(fun x c h=>by cases h),rfl,rfl,rfl,by decide⟩ (by decide) (bind1 fun _=>rfl) (by intro x hx;simp at hx;subst hx;rfl) ?_
 intro L;have h1:=h0.next (z := "&amp;") (c:=38) (l:=5 * (7 * (1))) rfl
 have h2:=h1.next (z := "&gt;") (c:=62) (l:=7 * (1)) rfl
 refine EX.cons (qf ok ?_);refine EX.cons (gh ok rfl rfl (by decide) (h0.hb (z := "&amp;") rfl (by decide)) ?_ rfl)
 refine EX.cons (gh ok rfl rfl (by decide) (h1.hb (z := "&gt;") rfl (by decide)) ?_ rfl)
 refine EX.cons (gh ok rfl rfl (by decide) (h2.hb (z := "&quot;") rfl (by decide)) ?_ rfl)
 exact EX.cons (E1.ret ((PE.name rfl).then ⟨rfl,rfl⟩))
theorem Bw {n:Nat} {M:List (Addr×AO)} {x:Str} (h0:qc x (6 * (5 * (5 * (6 * (1)))))):FN (CA w mg mb Z) (n+1) 290 M [.str x] (fun a M'=>a = .str (Av Tcc x)/\M'=M):=by
 have ok:=okA (Z:=Z) g;refine gc ok (ab:=[("text", .str x)]) ⟨⟨_,rfl,rfl⟩,⟨_,_,_,_,rfl,rfl,rfl,rfl⟩,rfl,rfl,rfl,(fun x c h=>by cases h),rfl,rfl,rfl,by decide⟩ (by decide) (bind1 fun _=>rfl) (by intro x hx;simp at hx;subst hx;rfl) ?_
 intro L;have h1:=h0.next (z := "&amp;") (c:=38) (l:=5 * (5 * (6 * (1)))) rfl
 have h2:=h1.next (z := "&lt;") (c:=60) (l:=5 * (6 * (1))) rfl
 have h3:=h2.next (z := "&gt;") (c:=62) (l:=6 * (1)) rfl
 refine EX.cons (qf ok ?_);refine EX.cons (gh ok rfl rfl (by decide) (h0.hb (z := "&amp;") rfl (by decide)) ?_ rfl)
 refine EX.cons (gh ok rfl rfl (by decide) (h1.hb (z := "&lt;") rfl (by decide)) ?_ rfl)
 refine EX.cons (gh ok rfl rfl (by decide) (h2.hb (z := "&gt;") rfl (by decide)) ?_ rfl)
 refine EX.cons (gh ok rfl rfl (by decide) (h3.hb (z := "&#xD;") rfl (by decide)) ?_ rfl)
 exact EX.cons (E1.ret ((PE.name rfl).then ⟨rfl,rfl⟩))
theorem Bx {n:Nat} {M:List (Addr×AO)} {x:Str} (h0:qc x (6 * (5 * (7 * (6 * (6 * (6 * (1)))))))):FN (CA w mg mb Z) (n+1) 297 M [.str x] (fun a M'=>a = .str (Av Tac x)/\M'=M):=by
 have ok:=okA (Z:=Z) g;refine gc ok (ab:=[("text", .str x)]) ⟨⟨_,rfl,rfl⟩,⟨_,_,_,_,rfl,rfl,rfl,rfl⟩,rfl,rfl,rfl,(fun x c h=>by cases h),rfl,rfl,rfl,by decide⟩ (by decide) (bind1 fun _=>rfl) (by intro x hx;simp at hx;subst hx;rfl) ?_
 intro L;have h1:=h0.next (z := "&amp;") (c:=38) (l:=5 * (7 * (6 * (6 * (6 * (1)))))) rfl
 have h2:=h1.next (z := "&lt;") (c:=60) (l:=7 * (6 * (6 * (6 * (1))))) rfl
 have h3:=h2.next (z := "&quot;") (c:=34) (l:=6 * (6 * (6 * (1)))) rfl
 have h4:=h3.next (z := "&#x9;") (c:=9) (l:=6 * (6 * (1))) rfl
 have h5:=h4.next (z := "&#xA;") (c:=10) (l:=6 * (1)) rfl
 refine EX.cons (qf ok ?_);refine EX.cons (gh ok rfl rfl (by decide) (h0.hb (z := "&amp;") rfl (by decide)) ?_ rfl)
 refine EX.cons (gh ok rfl rfl (by decide) (h1.hb (z := "&lt;") rfl (by decide)) ?_ rfl)
 refine EX.cons (gh ok rfl rfl (by decide) (h2.hb (z := "&quot;") rfl (by decide)) ?_ rfl)
 refine EX.cons (gh ok rfl rfl (by decide) (h3.hb (z := "&#x9;") rfl (by decide)) ?_ rfl)
 refine EX.cons (gh ok rfl rfl (by decide) (h4.hb (z := "&#xA;") rfl (by decide)) ?_ rfl)
 refine EX.cons (gh ok rfl rfl (by decide) (h5.hb (z := "&#xD;") rfl (by decide)) ?_ rfl)
 exact EX.cons (E1.ret ((PE.name rfl).then ⟨rfl,rfl⟩))
theorem vW {n:Nat} {M:List (Addr×AO)} {x y:Str} (hx:iz (Txt.lower x)) (hy:iz (Txt.slice (Txt.lower y) (some 1) none)) (zx:(Txt.lower x).length<=1000) (zy:(Txt.lower y).length<=1000) :
  FN (CA w mg mb Z) (n+2) 170 M [.str x,.str y] (fun a M'=>a = .bool (f9 x y)/\M'=M):=by
 have ok:=okA (Z:=Z) g;have sl:sizeLine=16777216:=by decide
 have tl:∀ z:Str,z.length<=1000->Builtin.Str.tooLong z.length=false:=fun z h=>by unfold Builtin.Str.tooLong;exact bB (by lia)
 refine gc ok (ab:=[("A", .str x),("B", .str y)]) ⟨⟨_,rfl,rfl⟩,⟨_,_,_,_,rfl,rfl,rfl,rfl⟩,rfl,rfl,rfl,(fun x c h=>by cases h),rfl,rfl,rfl,by decide⟩ (by decide) (yx fun _ _=>rfl) (by intro x hx;simp at hx;rcases hx with rfl | rfl <;> rfl) ?_
 intro L;refine EX.cons (E1.assign ok (.inl rfl) ((PE.lower ok (PE.name rfl) (tl _ zx)).then ?_))
 refine EX.cons (E1.assign ok (.inl rfl) ((PE.lower ok (PE.name rfl) (tl _ zy)).then ?_))
 refine EX.cons (E1.ite ((PT.cmp (PE.name rfl) (PE.name rfl) (O.eqs ok)).then ?_))
 by_cases h1:(Txt.lower x == Txt.lower y)=true
 ·rw [ay h1];exact EX.cons (E1.ret ((PE.bool).then ⟨by unfold f9;rw [ay h1],rfl⟩))
 rw [aq h1];refine EX.nil (EX.cons (E1.ite ((PT.not (PT.val (PE.hdn g rfl (PE.name rfl) hx (by lia)) T1.bool)).then ?_)))
 by_cases h2:(!hdn (Txt.lower x))=true
 ·rw [ay h2];exact EX.cons (E1.ret ((PE.bool).then ⟨by unfold f9;rw [aq h1,ay h2],rfl⟩))
 rw [aq h2];refine EX.nil (EX.cons (E1.assign ok (.inl rfl) ((PE.rfind ok (PE.name rfl) (PE.name rfl)).then ?_)))
 refine EX.cons (E1.ite ((PT.or2 (PT.cmp (PE.name rfl) (PE.neg ok (PE.int ok)) (O.eq ok)) (fun _=>PT.cmp (PE.name rfl) (PE.int ok) (O.eq ok))).then ?_))
 by_cases h3:(Txt.rfind (Txt.lower x) (Txt.lower y) == -1 || Txt.rfind (Txt.lower x) (Txt.lower y) == 0)=true
 ·rw [ay h3];exact EX.cons (E1.ret ((PE.bool).then ⟨by unfold f9;rw [aq h1,aq h2,ay h3],rfl⟩))
 rw [aq h3];refine EX.nil (EX.cons (E1.ite ((PT.not (PT.val (PE.startswith ok (PE.name rfl) (PE.str ok)) T1.bool)).then ?_)))
 by_cases h4:(!Txt.startswith (Txt.lower y) ".")=true
 ·rw [ay h4];exact EX.cons (E1.ret ((PE.bool).then ⟨by unfold f9;rw [aq h1,aq h2,aq h3,ay h4],rfl⟩))
 rw [aq h4];refine EX.nil (EX.cons (E1.ite ((PT.not (PT.val (PE.hdn g rfl (oJ ok (PE.name rfl) (PE.int ok) (by lia)) hy (bC (cM _ _ _) (by lia))) T1.bool)).then ?_)))
 by_cases h5:(!hdn (Txt.slice (Txt.lower y) (some 1) none))=true
 ·rw [ay h5];exact EX.cons (E1.ret ((PE.bool).then ⟨by unfold f9;rw [aq h1,aq h2,aq h3,aq h4,ay h5],rfl⟩))
 rw [aq h5];exact EX.nil (EX.cons (E1.ret ((PE.bool).then ⟨by unfold f9;rw [aq h1,aq h2,aq h3,aq h4,aq h5],rfl⟩)))
end
end Mine
namespace Mine
noncomputable def As (c d:Addr):Obj:=⟨.ref c,some d,.plain,#[]⟩
section
variable {w:World} {mg mb:Str->Option Value} {Z:Frag} (g:GA w mg mb)
theorem Cf (P:Params):findIn (KA P) (.ref 251) "__getattribute__" = some (some (.builtin "object.__getattribute__")):=by rfl
theorem AW (P:Params) {o:Obj} {v:Value} (h:lookIn (Str.ofString "text") o=some (some v)):findObj (KA P) 251 (some o) "text" = some (.value v):=by
 have e:findObj (KA P) 251 (some o) "text" = (lookIn (Str.ofString "text") o).bind fun (own:Option Value)=>(match own with
  | some v=>some (.value v)
  | none=>some .missing):=rfl
 rw [e,h];rfl
theorem zR {A:Around} {s:Shared} {x d:Addr} {o:Obj} {t:Tok} {y:Str} {Q:Value->Shared->Prop} {prog:Program} {E:Value->Shared->Prop} {expr:Bool} (X:(KA w.params).In s.heap) (hx:s.heap.get? x=some (As 251 d)) (hd:s.heap.get? d=some o) (hl:lookIn (Str.ofString "text") o=some (some (.str y t)))
  (h:Q (.str y t) { s with toks:=s.toks+1 }):wpAny (model prog w) A (getAttr (.ref x) "text" expr) Q E s :=
 get_value X ⟨hx,rfl,rfl,hd⟩ (Cf _) (AW _ hl) rfl h
include g
theorem PE.text {n:Nat} {env:Env} {S:St} {e:Expr} {pos:Pos} {y:Str} (h:PE (CA w mg mb Z) n env S e (.qn 251 y))
  (hbase:attributeBase e "text" env (eval e env)=eval e env:=by rfl):PE (CA w mg mb Z) n env S (.Attribute e "text" pos) (.str y):=fun A Y dZ D s Q ha R q=>by
 show wpAny _ _ (eval (.Attribute e "text" pos) env) _ _ _
 rw [arm_eval_Attribute,hbase];refine ah (G.at h ha R fun v ee d9 eE r=>?_);refine VR.tP r ?_;clear r;intro _ _ _ _ e1 e2 e3 n1 n2 e_0;cases e_0
 ·
  refine ah (bY (ah (bw (zR d9.bs.K e1 e2 e3 ?_))));exact ah (wpAny_letTemporaryGo (ak (q _ _ _ _ ⟨rfl,rfl⟩ (d9.go (okA (Z:=Z) g) (.toks ..)) (eE.trans (Kp.go d9 (.toks ..))) (.str ..))))
omit g in
theorem rO {s:Shared} {x d:Addr} (hx:s.heap.get? x=some (As 251 d)) (M:Model):Looks M s.heap (typeOf (.ref x)) (.ref 251):=(Looks.ld (part:=none) hx).andThen .now
theorem Br {n:Nat} {env:Env} {S:St} {y:Str}:PN (CA w mg mb Z) n env S (fun vs=>call (.builtin "isinstance") vs) [.qn 251 y,.raw (.ref 251)] (.bool true):=.of (okA (Z:=Z) g) fun A X s vs Q ha B r _ _ q=>by
 refine VRs.gT r ?_;clear r;intro _ _ r rs e_0;cases e_0
 ·
  refine VRs.gT rs ?_;clear rs;intro _ _ r' rs e_0;cases e_0
  ·
   (refine VRs.nq rs fun e_0=>?_;subst e_0);(refine VR.gX r' fun e_0=>?_;subst e_0)
   refine VR.tP r ?_;clear r;intro _ _ _ _ e1 e2 e3 n1 n2 e_0;cases e_0
   ·exact isi_call B.K (rO e1) (by rfl) (fun e=>by cases e) (q _ _ (.refl ..) (.bool _))
theorem vC {n:Nat} {env:Env} {S:St} {y:Str}:PN (CA w mg mb Z) n env S (fun vs=>call (.builtin "isinstance") vs) [.str y,.raw (.ref 251)] (.bool false):=.of (okA (Z:=Z) g) fun A X s vs Q ha B r _ _ q=>by
 refine VRs.gT r ?_;clear r;intro _ _ r rs e_0;cases e_0
 ·
  refine VRs.gT rs ?_;clear rs;intro _ _ r' rs e_0;cases e_0
  ·
   (refine VRs.nq rs fun e_0=>?_;subst e_0);(refine VR.gX r' fun e_0=>?_;subst e_0);(refine VR.iW r fun _ e_0=>?_;subst e_0)
   exact kia_one (K:=KA w.params) kitx_str B.K trivial (by rfl) (fun e=>by cases e) fun tk=>q _ _ (.toks ..) (.bool _)
noncomputable def slt (x y:Str):Bool:=decide (x.cps.toList<y.cps.toList)
omit g in
theorem fLt (P:Params):findIn (KA P) (.ref 251) "__lt__" = some (some (.ref 227)):=by rfl
omit g in
theorem fGt (P:Params):findIn (KA P) (.ref 251) "__gt__" = some (some (.ref 241)):=by rfl
theorem Cn {n:Nat} {M:List (Addr×AO)} {x y:Str}:FN (CA w mg mb Z) (n+1) 227 M [.qn 251 x,.qn 251 y] (fun a M'=>a = .bool (slt x y)/\M'=M):=by
 have ok:=okA (Z:=Z) g;refine gc ok (ab:=[("self", .qn 251 x),("other", .qn 251 y)]) ⟨⟨_,rfl,rfl⟩,⟨_,_,_,_,rfl,rfl,rfl,rfl⟩,rfl,rfl,rfl,(fun x c h=>by cases h),rfl,rfl,rfl,by decide⟩ (by decide) (yx fun _ _=>rfl) (by intro x hx;simp at hx;rcases hx with rfl | rfl <;> rfl) ?_
 intro L;refine EX.cons (E1.ite ((PT.val (PE.i6 (PE.gB rfl (g.non _ rfl) ((g.mb _ (by decide)).trans rfl)) (PL.cons (PE.name rfl) (PL.cons (PE.glob rfl (g.glo _ _ rfl)) PL.nil)) (Br g)) T1.bool).then ?_))
 rw [ay rfl];exact EX.cons (E1.ret ((PE.cmp (PE.text g (PE.name rfl)) (PE.text g (PE.name rfl)) (O.lts ok)).then ⟨rfl,rfl⟩))
theorem Cm {n:Nat} {M:List (Addr×AO)} {x y:Str}:FN (CA w mg mb Z) (n+1) 227 M [.qn 251 x,.str y] (fun a M'=>a = .bool (slt x y)/\M'=M):=by
 have ok:=okA (Z:=Z) g;refine gc ok (ab:=[("self", .qn 251 x),("other", .str y)]) ⟨⟨_,rfl,rfl⟩,⟨_,_,_,_,rfl,rfl,rfl,rfl⟩,rfl,rfl,rfl,(fun x c h=>by cases h),rfl,rfl,rfl,by decide⟩ (by decide) (yx fun _ _=>rfl) (by intro x hx;simp at hx;rcases hx with rfl | rfl <;> rfl) ?_
 intro L;refine EX.cons (E1.ite ((PT.val (PE.i6 (PE.gB rfl (g.non _ rfl) ((g.mb _ (by decide)).trans rfl)) (PL.cons (PE.name rfl) (PL.cons (PE.glob rfl (g.glo _ _ rfl)) PL.nil)) (vC g)) T1.bool).then ?_))
 rw [aq (by decide)]
 exact EX.nil (EX.cons (E1.ret ((PE.cmp (PE.text g (PE.name rfl)) (PE.name rfl) (O.lts ok)).then ⟨rfl,rfl⟩)))
theorem O.gts {n:Nat} {env:Env} {S:St} {x y:Str}:P2 (CA w mg mb Z) n env S (compareOp .Gt) (.str x) (.str y) (.bool (slt y x)):=.of (okA (Z:=Z) g) fun _ _ _ _ _ _ _ _ r r' _ _ q=>by (refine VR.iW r fun _ e_0=>?_;subst e_0);(refine VR.iW r' fun _ e_0=>?_;subst e_0);exact P.gt_str (q _ _ (.refl ..) (.bool ..))
theorem CL {n:Nat} {M:List (Addr×AO)} {x y:Str}:FN (CA w mg mb Z) (n+1) 241 M [.qn 251 x,.str y] (fun a M'=>a = .bool (slt y x)/\M'=M):=by
 have ok:=okA (Z:=Z) g;refine gc ok (ab:=[("self", .qn 251 x),("other", .str y)]) ⟨⟨_,rfl,rfl⟩,⟨_,_,_,_,rfl,rfl,rfl,rfl⟩,rfl,rfl,rfl,(fun x c h=>by cases h),rfl,rfl,rfl,by decide⟩ (by decide) (yx fun _ _=>rfl) (by intro x hx;simp at hx;rcases hx with rfl | rfl <;> rfl) ?_
 intro L;refine EX.cons (E1.ite ((PT.val (PE.i6 (PE.gB rfl (g.non _ rfl) ((g.mb _ (by decide)).trans rfl)) (PL.cons (PE.name rfl) (PL.cons (PE.glob rfl (g.glo _ _ rfl)) PL.nil)) (vC g)) T1.bool).then ?_))
 rw [aq (by decide)]
 exact EX.nil (EX.cons (E1.ret ((PE.cmp (PE.text g (PE.name rfl)) (PE.name rfl) (O.gts g)).then ⟨rfl,rfl⟩)))
theorem rK {A:Around} {s:Shared} {x d:Addr} {b tb:Value} {Q:Value->Shared->Prop} {o:Obj} (hu:A.units<cLine) (X:(KA w.params).In s.heap) (hx:s.heap.get? x=some (As 251 d)) (hd:s.heap.get? d=some o)
  (hb:Looks (model (CA w mg mb Z).prog (CA w mg mb Z).w) s.heap (typeOf b) tb) (hn:tb = .ref 251\/subIn (KA w.params) tb (.ref 251)=some false)
  (h:wpAny (model (CA w mg mb Z).prog (CA w mg mb Z).w) A (call (.ref 227) [.ref x,b]) (fun v s'=>∃ r,v = .bool r/\Q v s') No s):wpAny (model (CA w mg mb Z).prog (CA w mg mb Z).w) A (compareOp .Lt (.ref x) b) Q No s:=by
 show wpAny _ _ (richCompare .Lt (.ref x) b) _ _ _;have I:InstAt s.heap x (As 251 d) 251 (some o):=⟨hx,rfl,rfl,hd⟩;have own:wpAny (model (CA w mg mb Z).prog (CA w mg mb Z).w) A (tryCompare (.ref x) "__lt__" b) (fun r s'=>∃ v,r=some v/\Q v s') No s:=by
  unfold tryCompare;refine ah (ifBound_K X I (fLt _) rfl (bx h (fun v s' z=>?_) fun _ _ e=>e));refine o1_3 z fun r rf1 hq=>?_;clear z;subst rf1;exact ak ⟨_,rfl,hq⟩
 unfold richCompare;simp only [oneThing_ref];refine bw (ah (wpAny_cRoomFor hu (ah ((rO hx _).here (ah (hb.here ?_))))));by_cases hne:(Value.ref 251 != tb)=true
 ·rw [ay hne];have e:subIn (KA w.params) tb (.ref 251)=some false:=by
   rcases hn with e | e
   ·subst e;simp at hne
   ·exact e
  refine ah ((looks_subIn X e).here ?_);rw [aq b7];refine ah (bx own (fun r s' z=>?_) fun _ _ e=>e);refine o1_3 z fun v rf1 hq=>?_;clear z;subst rf1;exact ak hq
 ·rw [aq hne];refine ah (ak ?_);rw [aq b7];refine ah (bx own (fun r s' z=>?_) fun _ _ e=>e);refine o1_3 z fun v rf1 hq=>?_;clear z;subst rf1;exact ak hq
theorem uO {A:Around} {s:Shared} {x d:Addr} {z:Str} {u:Tok} {Q:Value->Shared->Prop} {o:Obj} (hu:A.units<cLine) (X:(KA w.params).In s.heap) (hx:s.heap.get? x=some (As 251 d)) (hd:s.heap.get? d=some o)
  (h:wpAny (model (CA w mg mb Z).prog (CA w mg mb Z).w) A (call (.ref 241) [.ref x,.str z u]) (fun v s'=>∃ r,v = .bool r/\Q v s') No s):wpAny (model (CA w mg mb Z).prog (CA w mg mb Z).w) A (compareOp .Lt (.str z u) (.ref x)) Q No s:=by
 show wpAny _ _ (richCompare .Lt (.str z u) (.ref x)) _ _ _;have I:InstAt s.heap x (As 251 d) 251 (some o):=⟨hx,rfl,rfl,hd⟩;have own:wpAny (model (CA w mg mb Z).prog (CA w mg mb Z).w) A (tryCompare (.ref x) "__gt__" (.str z u)) (fun r s'=>∃ v,r=some v/\Q v s') No s:=by
  unfold tryCompare;refine ah (ifBound_K X I (fGt _) rfl (bx h (fun v s' z=>?_) fun _ _ e=>e));refine o1_3 z fun r rf1 hq=>?_;clear z;subst rf1;exact ak ⟨_,rfl,hq⟩
 unfold richCompare;rw [(dG s z u).oneThing_none];refine bw (ah (wpAny_cRoomFor hu (ah (wpAny_typeOf (dG s z u) (ah ((rO hx _).here ?_))))));rw [ay (by rfl)]
 refine ah ((looks_subIn (K:=KA w.params) X (by rfl:subIn (KA w.params) (.ref 251) (.type "str")=some false)).here ?_)
 dsimp only;rw [aq b7];refine ah (wpAny_tryCompare_declines (dG s z u) F.slot_str_lt (cV F.slot_str_lt (dG s z u) F.entry_str_lt ?_ (F.args_str_lt_2 _ _)));show wpAny _ _ (asStr? (.ref x) >>= _) _ _ s;unfold asStr?;refine ah (ah (wpAny_load hx (ak (ah (dc (ak ⟨_,rfl,rfl,?_⟩))))));dsimp only;rw [ay (show (!false)=true from rfl)];refine ah (bx own (fun r s' z=>?_) fun _ _ e=>e);refine o1_3 z fun v rf1 hq=>?_;clear z;subst rf1;exact ak hq
omit g in
theorem k8 {n:Nat} {A:Around} (h:AOk n A):A.units<cLine:=by have:=h.units;show A.units<9900;lia
theorem O.De {n:Nat} {env:Env} {S:St} {x y:Str}:P2 (CA w mg mb Z) (n+1) env S (compareOp .Lt) (.qn 251 x) (.qn 251 y) (.bool (slt x y)):=fun A Y dZ D s v v' Q ha R r r' q=>by
 have h:=Cn (Z:=Z) g (n:=n) (M:=S.M) (x:=x) (y:=y) env S.μ A Y dZ D s [v,v'] (fun v s'=>∃ r,v = .bool r/\Q v s') ha R (.cons r (.cons r' .nil)) fun r s' b S' p R' K' rr=>by
  refine o0_3 p fun e1 rf1 e3=>?_;clear p;subst rf1
  (refine VR.lY rr fun e_0=>?_;subst e_0)
  refine ⟨_,rfl,q _ _ _ S' ⟨rfl,?_⟩ R' K' (.bool _)⟩;obtain ⟨μ,M⟩:=S';cases e1;cases e3;rfl
 refine VR.tP r ?_;clear r;intro _ _ _ _ e1 e2 e3 n1 n2 e_0;cases e_0
 ·
  refine VR.tP r' ?_;clear r';intro _ _ _ _ f1 f2 f3 m1 m2 e_0;cases e_0
  ·exact rK g (k8 ha) R.bs.K e1 e2 (rO f1 _) (.inl rfl) h
theorem O.Dd {n:Nat} {env:Env} {S:St} {x y:Str}:P2 (CA w mg mb Z) (n+1) env S (compareOp .Lt) (.qn 251 x) (.str y) (.bool (slt x y)):=fun A Y dZ D s v v' Q ha R r r' q=>by
 have h:=Cm (Z:=Z) g (n:=n) (M:=S.M) (x:=x) (y:=y) env S.μ A Y dZ D s [v,v'] (fun v s'=>∃ r,v = .bool r/\Q v s') ha R (.cons r (.cons r' .nil)) fun r s' b S' p R' K' rr=>by
  refine o0_3 p fun e1 rf1 e3=>?_;clear p;subst rf1
  (refine VR.lY rr fun e_0=>?_;subst e_0)
  refine ⟨_,rfl,q _ _ _ S' ⟨rfl,?_⟩ R' K' (.bool _)⟩;obtain ⟨μ,M⟩:=S';cases e1;cases e3;rfl
 refine VR.tP r ?_;clear r;intro _ _ _ _ e1 e2 e3 n1 n2 e_0;cases e_0
 ·(refine VR.iW r' fun _ e_0=>?_;subst e_0);exact rK g (k8 ha) R.bs.K e1 e2 (tb:=.type "str") (Looks.of_pure rfl) (.inr (by rfl)) h
theorem O.C9 {n:Nat} {env:Env} {S:St} {x y:Str}:P2 (CA w mg mb Z) (n+1) env S (compareOp .Lt) (.str y) (.qn 251 x) (.bool (slt y x)):=fun A Y dZ D s v v' Q ha R r r' q=>by
 have h:=CL (Z:=Z) g (n:=n) (M:=S.M) (x:=x) (y:=y) env S.μ A Y dZ D s [v',v] (fun v s'=>∃ r,v = .bool r/\Q v s') ha R (.cons r' (.cons r .nil)) fun r s' b S' p R' K' rr=>by
  refine o0_3 p fun e1 rf1 e3=>?_;clear p;subst rf1
  (refine VR.lY rr fun e_0=>?_;subst e_0)
  refine ⟨_,rfl,q _ _ _ S' ⟨rfl,?_⟩ R' K' (.bool _)⟩;obtain ⟨μ,M⟩:=S';cases e1;cases e3;rfl
 refine VR.tP r' ?_;clear r';intro _ _ _ _ e1 e2 e3 n1 n2 e_0;cases e_0
 ·(refine VR.iW r fun _ e_0=>?_;subst e_0);exact uO g (k8 ha) R.bs.K e1 e2 h
end
end Mine
namespace Mine
noncomputable def evO {α:Type}:Nat->List Obj->Sem α->Option (List Addr×α)
 | 0,_,_=>none
 | n+1,os,m=>match m with
   | .pure a=>some ([],a)
   | .rule _ k=>evO n os (k ())
   | .at _ k=>evO n os (k ())
   | .load a _ k=>match os with
     | o::os=>match evO n os (k o) with
       | some (l,r)=>some (a::l,r)
       | none=>none
     | []=>none
   | _=>none
noncomputable def kW (h:Heap):List Addr->List Obj->Prop
 | [],_=>True
 | a::l,o::os=>h.get? a=some o/\kW h l os
 | _::_,[]=>False
noncomputable def EvP {α:Type} (M:Model) (A:Around) (Q:α->Shared->Prop) (E:Value->Shared->Prop) (s:Shared) (os:List Obj) (m:Sem α):Option (List Addr×α)->Prop
 | none=>True
 | some (l,r)=>kW s.heap l os->Q r s->wpAny M A m Q E s
theorem EvP.imp {α:Type} {M:Model} {A:Around} {Q:α->Shared->Prop} {E:Value->Shared->Prop} {s:Shared} {os:List Obj} {m m':Sem α} (h:wpAny M A m Q E s->wpAny M A m' Q E s):∀ {x:Option (List Addr×α)},EvP M A Q E s os m x->EvP M A Q E s os m' x
 | none,_=>trivial
 | some _,k=>fun a b=>h (k a b)
theorem EvP.load {α:Type} {M:Model} {A:Around} {Q:α->Shared->Prop} {E:Value->Shared->Prop} {s:Shared} {o:Obj} {os:List Obj} {a:Addr} {part:Option Value} {k:Obj->Sem α}:∀ {x:Option (List Addr×α)},EvP M A Q E s os (k o) x ->
  EvP M A Q E s (o::os) (.load a part k) (match x with | some (l,r)=>some (a::l,r) | none=>none)
 | none,_=>trivial
 | some _,h=>fun hl q=>ah (m:=loadPart a part) (f:=k) (cQ hl.1 (h hl.2 q))
theorem om {α:Type} {M:Model} {A:Around} {Q:α->Shared->Prop} {E:Value->Shared->Prop} {s:Shared}:∀ (n:Nat) (os:List Obj) (m:Sem α),EvP M A Q E s os m (evO n os m)
 | 0,_,_=>trivial
 | n+1,os,.pure a=>fun _ q=>ak q
 | n+1,os,.rule t k=>(om n os (k ())).imp fun h=>ah (m:=rule t) (f:=k) (dc h)
 | n+1,os,.at p k=>(om n os (k ())).imp fun h Γ _ hΓ=>h Γ p hΓ
 | n+1,[],.load a part k=>trivial
 | n+1,o::os,.load a part k=>(om n os (k o)).load
 | _+1,_,.raise .. | _+1,_,.unsupported .. | _+1,_,.finish .. | _+1,_,.update .. | _+1,_,.alloc .. | _+1,_,.loadIfAlive .. | _+1,_,.point .. | _+1,_,.register .. | _+1,_,.fresh .. | _+1,_,.ask .. | _+1,_,.choose .. | _+1,_,.os .. | _+1,_,.call ..
 | _+1,_,.handled .. | _+1,_,.newGen .. | _+1,_,.genState .. | _+1,_,.resume .. | _+1,_,.yield .. | _+1,_,.stack .. | _+1,_,.fork .. | _+1,_,.thread .. | _+1,_,.await ..=>trivial
theorem kR {α:Type} {M:Model} {A:Around} {Q:α->Shared->Prop} {E:Value->Shared->Prop} {s:Shared} (n:Nat) {os:List Obj} {m:Sem α} {l:List Addr} {r:α} (h:evO n os m=some (l,r)) (hl:kW s.heap l os) (q:Q r s):wpAny M A m Q E s:=by
 have:=om (M:=M) (A:=A) (Q:=Q) (E:=E) (s:=s) n os m;rw [h] at this;exact this hl q
theorem kW.nil {h:Heap} {os:List Obj}:kW h [] os:=trivial
theorem kW.cons {h:Heap} {a:Addr} {o:Obj} {l:List Addr} {os:List Obj} (e:h.get? a=some o) (r:kW h l os):kW h (a::l) (o::os):=⟨e,r⟩
end Mine
namespace Mine
noncomputable def BA (C:Cx) (fd:FuncData) (args:List AV) (ab:List (Str×AV)):Prop :=
 ∀ h X vs,VRs h X vs args->C.K.In h->(∀ a,C.Old a->a ∉ X)->∃ bs,(∀ s:Shared,s.heap=h->BindsTo s fd ⟨vs,[]⟩ bs)/\PRs h X bs ab
theorem BA.two {C:Cx} {fd:FuncData} {T:Addr} {o:Obj} {a b:AV} {x y:Str} (ho:C.K.lookup T=some o) (h:∀ u v,evO 40 [o] (bindArgs fd ⟨[u,v],[]⟩)=some ([T],[(x,u),(y,v)])):BA C fd [a,b] [(x,a),(y,b)]:=fun hp X vs r hK _=>by
 refine VRs.eW r fun u _ r rs=>?_
 ·refine VRs.eW rs fun v _ r' rs=>?_;refine VRs.fN rs ?_;exact ⟨_,fun s e M A E Q hq=>kR _ (h u v) (.cons (e▸hK _ _ ho) .nil) hq,.cons r (.cons r' .nil)⟩
noncomputable def abB (a b:AV):List (Str×AV):=[("a", a),("x", b),("lo", .int 0),("hi", .none),("key", .none)]
noncomputable def Ar (args:List AV) (a b:AV):Prop:=args=[a,b]\/args=[a,b,.int 0,.none]
theorem bindB {C:Cx} {fd:FuncData} {T d:Addr} {o oD:Obj} {n:Nat} {t0:Tok} {a b:AV} {args:List AV} (ho:C.K.lookup T=some o) (hs:o.data = .seq #[.int 0 t0,.none] n) (hD:C.K.lookup d=some oD)
  (h2:∀ u v,evO 40 [o,oD] (bindArgs fd ⟨[u,v],[]⟩)=some ([T,d],([("a", u),("x", v),("lo", .int 0 t0),("hi", .none),("key", .none)]:List (Str×Value))))
  (h4:∀ u v p q,evO 40 [o,oD] (bindArgs fd ⟨[u,v,p,q],[]⟩)=some ([T,d],([("a", u),("x", v),("lo", p),("hi", q),("key", .none)]:List (Str×Value))))
  (ha:Ar args a b):BA C fd args (abB a b):=fun hp X vs r hK _=>by
 rcases ha with rfl | rfl
 ·refine VRs.eW r fun u _ r rs=>?_
  ·
   refine VRs.eW rs fun v _ r' rs=>?_
   ·
    refine VRs.fN rs ?_;exact ⟨_,fun s e M A E Q hq=>kR _ (h2 u v) (.cons (e▸hK _ _ ho) (.cons (e▸hK _ _ hD) .nil)) hq,.cons r (.cons r' (.cons (.int ..) (.cons .none (.cons .none .nil))))⟩
 ·refine VRs.eW r fun u _ r rs=>?_
  ·
   refine VRs.eW rs fun v _ r' rs=>?_
   ·
    refine VRs.eW rs fun p _ r2 rs=>?_
    ·
     refine VRs.eW rs fun q _ r3 rs=>?_
     ·
      refine VRs.fN rs ?_;exact ⟨_,fun s e M A E Q hq=>kR _ (h4 u v p q) (.cons (e▸hK _ _ ho) (.cons (e▸hK _ _ hD) .nil)) hq,.cons r (.cons r' (.cons r2 (.cons r3 (.cons .none .nil))))⟩
section
variable {w:World} {mg mb:Str->Option Value} {Z:Frag} (g:GA w mg mb)
include g
theorem yc (a b:Nat):((a:Int)+(b:Int)).fdiv 2=(((a+b) / 2:Nat):Int):=by
 rw [Int.fdiv_eq_ediv_of_nonneg _ (by decide)];lia
theorem wo {n:Nat} {M:List (Addr×AO)} {r:Addr} {l:List AV} {xv:AV} {k:Nat} {p:AV->Bool} {args:List AV} (hargs:Ar args (.raw (.ref r)) xv) (hM:(r,AO.list l) ∈ M) (hz:l.length<=1000) (hk:k<=l.length)
  (hc:∀ c ∈ l,∀ env μ,P2 (CA w mg mb Z) (n+1) env ⟨μ,M⟩ (compareOp .Lt) xv c (.bool (p c))) (hp:∀ i c,l[i]? = some c->p c=decide (k<=i)) :
  FN (CA w mg mb Z) (n+2) 133 M args (fun a M'=>a = .int k/\M'=M):=by
 have ok:=okA (Z:=Z) g;have sl:sizeLine=16777216:=by decide
 refine gc ok (ab:=abB (.raw (.ref r)) xv) ⟨⟨_,rfl,rfl⟩,⟨_,_,_,_,rfl,rfl,rfl,rfl⟩,rfl,rfl,rfl,(fun x c h=>by cases h),rfl,rfl,rfl,by decide⟩ (by decide)
  ?hb (by intro x hx;simp [abB] at hx;rcases hx with rfl | rfl | rfl | rfl | rfl <;> rfl) ?hbody
 case hb=>exact bindB (T:=125) (d:=126) rfl rfl rfl (by intro u v;kernel_rfl) (by intro u v p q;kernel_rfl) hargs
 intro L;refine EX.cons (E1.ite ((PT.cmp (PE.name rfl) (PE.int ok) (O.lt ok)).then ?_))
 rw [aq (by decide)]
 refine EX.nil (EX.cons (E1.ite ((PT.cmp (PE.name rfl) PE.nul (O.fY ok rfl)).then ?_)))
 rw [ay rfl];refine EX.cons (E1.assign ok (.inl rfl) ((PE.i6 (PE.gB rfl (g.non _ rfl) ((g.mb _ (by decide)).trans rfl)) (PL.cons (PE.name rfl) PL.nil) (O.lu ok hM (by lia))).then (EX.nil ?_)))
 refine EX.cons (E1.ite ((PT.cmp (PE.name rfl) PE.nul (O.fY ok rfl)).then ?_))
 rw [ay rfl];refine EX.cons (j4 ok (fun m S=>∃ lo hi:Nat,lo<=k/\k<=hi/\hi<=l.length/\m=hi - lo/\S=⟨[("key", .none),("hi", .int hi),("lo", .int lo),("x", xv),("a", .raw (.ref r))],M⟩) l.length ⟨0,l.length,by lia,hk,by lia,by lia,rfl⟩ ?_)
 intro m d7 hz;refine o2_7 hz fun lo hi h1 h2 h3 rf5 rf6=>?_;clear hz;subst rf5;subst rf6;refine (PT.cmp (PE.name rfl) (PE.name rfl) (O.lt ok)).then ?_
 by_cases hlt:lo<hi
 ·rw [ay (by simpa using hlt)]
  have hm:(lo+hi) / 2<l.length:=by lia
  refine o1_2 (⟨_,aX hm⟩:∃ c,l[(lo+hi) / 2]? = some c) fun c hcm=>?_;refine EX.cons (E1.assign ok (.inl rfl) ((PE.cast (PE.bin (PE.bin (PE.name rfl) (PE.name rfl) (O.add ok)) (PE.int ok) (O.fdiv ok (by decide) (by decide))) (congrArg AV.int (yc g lo hi))).then ?_))
  refine EX.cons (E1.ite ((PT.cmp (PE.name rfl) (PE.sub (PE.name rfl) (PE.name rfl) (O.ju ok hM (by lia) (by rw [bL];exact hcm) (by lia))) (hc c (aV hcm) _ _)).then ?_))
  rw [hp _ _ hcm];by_cases hkm:k<=(lo+hi) / 2
  ·rw [ay (by simpa using hkm)]
   refine EX.cons (E1.assign ok (.inl rfl) ((PE.name rfl).then (EX.nil (EX.nil ?_))))
   exact ⟨_,Le.pre (ν:=[("mid", .int ((lo+hi) / 2:Nat))]),_,by lia,lo,(lo+hi) / 2,h1,hkm,by lia,rfl,rfl⟩
  ·rw [aq (by simpa using hkm)]
   refine EX.cons (E1.assign ok (.inl rfl) ((PE.cast (PE.bin (PE.name rfl) (PE.int ok) (O.add ok)) (show AV.int ((((lo+hi) / 2:Nat):Int)+1)=AV.int (((lo+hi) / 2+1:Nat):Int) by rw [cJ];rfl)).then (EX.nil (EX.nil ?_))))
   exact ⟨_,Le.pre (ν:=[("mid", .int ((lo+hi) / 2:Nat))]),_,by lia,(lo+hi) / 2+1,hi,by lia,h2,h3,rfl,rfl⟩
 ·rw [aq (by simpa using hlt)]
  have:lo=k:=by lia
  subst this;exact EX.nil (EX.cons (E1.ret ((PE.name rfl).then ⟨rfl,rfl⟩)))
theorem Af {n:Nat} {M:List (Addr×AO)} {r:Addr} {l:List AV} {xv:AV} {k:Nat} {p:AV->Bool} {args:List AV} (hargs:Ar args (.raw (.ref r)) xv) (hM:(r,AO.list l) ∈ M) (hz:l.length<=1000) (hk:k<=l.length)
  (hc:∀ c ∈ l,∀ env μ,P2 (CA w mg mb Z) (n+1) env ⟨μ,M⟩ (compareOp .Lt) c xv (.bool (p c))) (hp:∀ i c,l[i]? = some c->p c=decide (i<k)) :
  FN (CA w mg mb Z) (n+2) 151 M args (fun a M'=>a = .int k/\M'=M):=by
 have ok:=okA (Z:=Z) g;have sl:sizeLine=16777216:=by decide
 refine gc ok (ab:=abB (.raw (.ref r)) xv) ⟨⟨_,rfl,rfl⟩,⟨_,_,_,_,rfl,rfl,rfl,rfl⟩,rfl,rfl,rfl,(fun x c h=>by cases h),rfl,rfl,rfl,by decide⟩ (by decide)
  ?hb (by intro x hx;simp [abB] at hx;rcases hx with rfl | rfl | rfl | rfl | rfl <;> rfl) ?hbody
 case hb=>exact bindB (T:=143) (d:=144) rfl rfl rfl (by intro u v;kernel_rfl) (by intro u v p q;kernel_rfl) hargs
 intro L;refine EX.cons (E1.ite ((PT.cmp (PE.name rfl) (PE.int ok) (O.lt ok)).then ?_))
 rw [aq (by decide)]
 refine EX.nil (EX.cons (E1.ite ((PT.cmp (PE.name rfl) PE.nul (O.fY ok rfl)).then ?_)))
 rw [ay rfl];refine EX.cons (E1.assign ok (.inl rfl) ((PE.i6 (PE.gB rfl (g.non _ rfl) ((g.mb _ (by decide)).trans rfl)) (PL.cons (PE.name rfl) PL.nil) (O.lu ok hM (by lia))).then (EX.nil ?_)))
 refine EX.cons (E1.ite ((PT.cmp (PE.name rfl) PE.nul (O.fY ok rfl)).then ?_))
 rw [ay rfl];refine EX.cons (j4 ok (fun m S=>∃ lo hi:Nat,lo<=k/\k<=hi/\hi<=l.length/\m=hi - lo/\S=⟨[("key", .none),("hi", .int hi),("lo", .int lo),("x", xv),("a", .raw (.ref r))],M⟩) l.length ⟨0,l.length,by lia,hk,by lia,by lia,rfl⟩ ?_)
 intro m d7 hz;refine o2_7 hz fun lo hi h1 h2 h3 rf5 rf6=>?_;clear hz;subst rf5;subst rf6;refine (PT.cmp (PE.name rfl) (PE.name rfl) (O.lt ok)).then ?_
 by_cases hlt:lo<hi
 ·rw [ay (by simpa using hlt)]
  have hm:(lo+hi) / 2<l.length:=by lia
  refine o1_2 (⟨_,aX hm⟩:∃ c,l[(lo+hi) / 2]? = some c) fun c hcm=>?_;refine EX.cons (E1.assign ok (.inl rfl) ((PE.cast (PE.bin (PE.bin (PE.name rfl) (PE.name rfl) (O.add ok)) (PE.int ok) (O.fdiv ok (by decide) (by decide))) (congrArg AV.int (yc g lo hi))).then ?_))
  refine EX.cons (E1.ite ((PT.cmp (PE.sub (PE.name rfl) (PE.name rfl) (O.ju ok hM (by lia) (by rw [bL];exact hcm) (by lia))) (PE.name rfl) (hc c (aV hcm) _ _)).then ?_))
  rw [hp _ _ hcm];by_cases hkm:(lo+hi) / 2<k
  ·rw [ay (by simpa using hkm)]
   refine EX.cons (E1.assign ok (.inl rfl) ((PE.cast (PE.bin (PE.name rfl) (PE.int ok) (O.add ok)) (show AV.int ((((lo+hi) / 2:Nat):Int)+1)=AV.int (((lo+hi) / 2+1:Nat):Int) by rw [cJ];rfl)).then (EX.nil (EX.nil ?_))))
   exact ⟨_,Le.pre (ν:=[("mid", .int ((lo+hi) / 2:Nat))]),_,by lia,(lo+hi) / 2+1,hi,by lia,h2,h3,rfl,rfl⟩
  ·rw [aq (by simpa using hkm)]
   refine EX.cons (E1.assign ok (.inl rfl) ((PE.name rfl).then (EX.nil (EX.nil ?_))))
   exact ⟨_,Le.pre (ν:=[("mid", .int ((lo+hi) / 2:Nat))]),_,by lia,lo,(lo+hi) / 2,h1,by lia,by lia,rfl,rfl⟩
 ·rw [aq (by simpa using hlt)]
  have:lo=k:=by lia
  subst this;exact EX.nil (EX.cons (E1.ret ((PE.name rfl).then ⟨rfl,rfl⟩)))
theorem zO {n:Nat} {M:List (Addr×AO)} {i:Nat} {r:Addr} {l:List AV} {xv:AV} {k:Nat} {p:AV->Bool} (hM:M[i]? = some (r,AO.list l)) (hz:l.length<=1000) (hk:k<=l.length)
  (hc:∀ c ∈ l,∀ env μ,P2 (CA w mg mb Z) (n+1) env ⟨μ,M⟩ (compareOp .Lt) xv c (.bool (p c))) (hp:∀ i c,l[i]? = some c->p c=decide (k<=i)) :
  FN (CA w mg mb Z) (n+3) 124 M [.raw (.ref r),xv] (fun a M'=>a = .none/\M'=M.set i (r,.list (O.n8 l k xv))):=by
 have ok:=okA (Z:=Z) g;have sl:sizeLine=16777216:=by decide
 refine gc ok (ab:=abB (.raw (.ref r)) xv) ⟨⟨_,rfl,rfl⟩,⟨_,_,_,_,rfl,rfl,rfl,rfl⟩,rfl,rfl,rfl,(fun x c h=>by cases h),rfl,rfl,rfl,by decide⟩ (by decide)
  ?hb (by intro x hx;simp [abB] at hx;rcases hx with rfl | rfl | rfl | rfl | rfl <;> rfl) ?hbody
 case hb=>exact bindB (T:=116) (d:=117) rfl rfl rfl (by intro u v;kernel_rfl) (by intro u v p q;kernel_rfl) (.inl rfl)
 intro L;refine EX.cons (E1.ite ((PT.cmp (PE.name rfl) PE.nul (O.fY ok rfl)).then ?_))
 rw [ay rfl];refine EX.cons (E1.assign ok (.inl rfl) ((PE.j3 (c:=.int k) (PE.glob rfl (g.glo _ _ rfl)) (show (CA w mg mb Z).K.lookup 133=some _ from rfl) rfl (PL.cons (PE.name rfl) (PL.cons (PE.name rfl) (PL.cons (PE.name rfl) (PL.cons (PE.name rfl) PL.nil)))) (wo g (.inr rfl) (eu hM) hz hk hc hp)).then (EX.nil ?_)))
 refine EX.cons (E1.expr (EV.mF F.slot_list_insert cZ F.type_list_insert ((PE.name rfl).then ⟨r,rfl,lU (eu hM),PL.then (PL.cons (PE.name rfl) (PL.cons (PE.name rfl) PL.nil)) (O.insert ok hM (by lia) (by lia) (by lia) (EX.nil ⟨rfl,?_⟩))⟩)))
 rw [bL]
end
end Mine
namespace Mine
structure BZ (K:Frag) (c:Addr):Prop where
 set:findIn K (.ref c) "__setattr__" = some (some (.builtin "object.__setattr__"))
 over:plainOver K c=true
 dict:(clsIn K c).any (·.hasDict)=true
section
variable {C:Cx} (ok:C.Ok) {n:Nat} {env:Env} {S:St}
include ok
theorem qx {A:Around} {s:Shared} {x c d:Addr} {ox:Obj} {name:Str} {v:Value} {Q:Unit->Shared->Prop} (K:C.K.In s.heap) (T:BZ C.K c) (hx:s.heap.get? x=some ox) (hcl:ox.cls = .ref c) (hno:notCls ox=true) (hd:ox.dict=some d)
  (hn:s.heap.get? d=some ⟨.type "dict", none,.dict #[] 0,#[]⟩) (ht:takerIn C.K c name=some none)
  (h:∀ h' hs t ep tk,h'.get? d=some ⟨.type "dict", none,.dict #[⟨hs,.str name t,v⟩] ep,#[]⟩->Heap.SameBut d s.heap h'->Q () { s with heap:=h',toks:=tk }):wpAny (model C.prog C.w) A (setAttr (.ref x) name v) Q No s:=by
 have I:InstAt s.heap x ox c (some ⟨.type "dict", none,.dict #[] 0,#[]⟩):=⟨hx,hcl,hno,by rw [hd];exact hn⟩
 refine set_plain K I T.set (osa_open (s:={ s with toks:=s.toks+1 }) K I T.over ht fun b=>?_)
 refine o1_3 (any_some T.dict) fun cd hc hd'=>?_;obtain ⟨oc,odi,oda,osl⟩:=ox;dsimp only at hcl hd;subst hcl hd;refine ah (ak (ah (ah (cQ hx (ah ((looks_clsIn (show C.K.In ({ s with toks:=s.toks+1 }:Shared).heap from K) hc).here ?_))))))
 rw [hd'];refine ak (a:=some d) (ah (ak (ah ?_)));unfold nsSet;refine ah (ah (wpAny_askSetting (ak (ah (wpAny_mkText (ah (cQ hn ?_)))))));dsimp only;have eA:aRefKeyMayBeTheName name #[]=false:=by first | rfl | (rw [aRefKeyMayBeTheName_at];rfl)
 rw [eA];refine wpAny_updatePart hn ?_;have eP:∀ H Kk,Obj.putName name H Kk v ⟨.type "dict", none,.dict #[] 0,#[]⟩=⟨.type "dict", none,.dict #[⟨H,Kk,v⟩] 1,#[]⟩:=fun H Kk=>by simp [Obj.putName_eq,Obj.putNameByArray]
 have D':=fun H Kk=>cW (h:=s.heap) (a:=d) (Obj.putName name H Kk v) hn (by rw [eP];rfl)
 refine ah (wpAny_lookBehind (D' _ _) (by rw [eP];exact pastItsLine_dict (by show 1<=sizeLine+1;unfold sizeLine;lia)) ?_)
 refine ak ?_;exact h _ _ _ _ _ (by rw [<- eP];exact D' _ _) (b9 ..)
end
end Mine
namespace Mine
theorem fV {α β:Type} {f:α->List β} {x:α}:∀ {l:List α},(l.flatMap f).Nodup->x ∈ l->(f x).Nodup
 | y::l,h,m=>by
   rw [bQ] at h;rcases aG.mp m with rfl | m
   ·exact (aJ.mp h).1
   ·exact fV (aJ.mp h).2.1 m
section
variable {C:Cx} {Y D:List Addr} {dZ s:Shared} {env:Env} {μ:List (Str×AV)} {M:List (Addr×AO)} {p:Addr×AO}
theorem ic:fj (M++[p])=fj M++foot p:=by unfold fj;simp
theorem Rel.drop (R:Rel C Y dZ D env ⟨μ,M++[p]⟩ s):Rel C Y dZ D env ⟨μ,M⟩ s/\(∀ v av,VR s.heap (Xo C Y env ⟨μ,M++[p]⟩) v av->VR s.heap (Xo C Y env ⟨μ,M⟩) v av)/\∀ b ∈ foot p,b ∉ Xo C Y env ⟨μ,M⟩:=by
 have sub:∀ a o,s.heap.get? a=some o->a ∉ Xo C Y env ⟨μ,M++[p]⟩->a ∉ Xo C Y env ⟨μ,M⟩:=fun a o _ n q=>n (by
  rw [fJ] at q ⊢;simp only [ic,au] at q ⊢;rcases q with q | (q | q) | q
  ·exact .inl q
  ·exact .inr (.inl (.inl q))
  ·exact .inr (.inl (.inr (.inl q)))
  ·exact .inr (.inr q))
 have nd:=R.nd;rw [ic,<- aH,aJ] at nd;refine ⟨⟨R.bs,R.ev,R.fr.sub sub,R.free,fun q hq=>(R.ob q (af _ hq)).sub sub,nd.1,fun a ha q=>R.dis a ha ?_,fun a ha=>R.hi a ?_,R.st,fun a ha=>R.own a ?_,R.z⟩,fun v av r=>r.sub sub,fun b hb q=>?_⟩
 ·rw [ic,<- aH];exact af _ q
 ·simp only [ic,au] at ha ⊢;rcases ha with h | h | h
  ·exact .inl h
  ·exact .inr (.inl (.inl h))
  ·exact .inr (.inr h)
 ·rw [ic,<- aH];exact af _ ha
 ·have hm:b ∈ fj (M++[p]):=by rw [ic];exact aa _ hb
  rw [fJ] at q;rcases q with q | q | q
  ·exact (R.hi b (aa _ (af _ hm))).2.1 q
  ·exact nd.2.2 b q b hb rfl
  ·exact R.dis b q (aa _ hm)
end
section
variable {C:Cx} {n:Nat} {env:Env} {S:St}
theorem EV.Ac {f:Addr} {x:Str} {e:Expr} {es:List Expr} {p pos:Pos} {P:AV->St->Prop} (hf:PE C n env S (.Name x p) (.raw (.ref f))) (hk:keepIn C.K (.ref f)=true)
  (h:EL C n env S pos (e::es) fun l d7=>VN C n env d7 (fun vs=>call (.ref f) vs) l P)
  (he:starEach (e::es) env=(false,eval e env)::starEach es env:=by rfl) (hplain:(backTo pos (starEach es env)).any (·.1)=false:=by rfl):EV C n env S (.Call (.Name x p) (e::es) [] pos) P :=
 fun A Y dZ D s Q ha R q=>cL (G.at hf ha R fun g ee d9 eE fy=>by
  refine VR.fM fy ?_;refine callWith_K (h₀:=ee.heap) d9.bs.K hk ?_ he hplain;exact h A Y dZ D ee _ ha d9 fun vs d8 l eG fh eB eN fz=>⟨eB.bs.K,fh A Y dZ D d8 vs Q ha eB fz fun r ez b fk fF eV fG f7=>q r ez b fk fF eV ((eE.trans eN).trans fG) f7⟩)
end
section
variable {C:Cx} (ok:C.Ok) {n:Nat} {env:Env} {S:St}
include ok
theorem ud {i:Nat} {a c d:Addr} {sq:Option (List (Str×Str))} {o value:Expr} {attr:Str} {pos' pos:Pos} {av:AV} {P:AF->St->Prop} (T:BZ C.K c) (ht:takerIn C.K c attr=some none)
  (hM:S.M[i]? = some (a,.obj c d none sq)) (hv:PE C n env S value av) (ho:PE C n env S o (.raw (.ref a))) (h:P .next ⟨S.μ,S.M.set i (a,.obj c d (some (attr,av)) sq)⟩)
  (hs:swapsWith value (some (.Attribute o attr pos')) pos.line env=pure false:=by rfl):E1 C n env S (.Assign [.Attribute o attr pos'] value pos) P :=
 fun A Y dZ D s Q ha R q=>plainObj_wpAny_Assign_Attribute (hs:=hs) (G.at hv ha R fun v ee d9 eE fy=>by
  refine G.at ho ha d9 fun ov d8 eB eN fz=>?_;refine VR.fM fz ?_;refine o0_2 (eB.ob _ (eu hM)) fun z1 hdict=>?_;refine o2_4 z1 fun vs k e hsq=>?_;clear z1;have hdX:d ∈ fa env++fj S.M:=aa _ (eU (eu hM) (by simp [foot,AO.more]))
  have hda:d≠a:=by
   have nd:=(aJ.mp eB.nd).2.1;intro q;have hf:(foot (a,AO.obj c d none sq)).Nodup:=by
    unfold fj at nd;exact fV nd (eu hM)
   simp [foot,AO.more] at hf;exact hf q.symm
  refine qx ok eB.bs.K T e rfl (by cases sq <;> rfl) rfl hdict ht fun h' hs t ep tk hd' hb=>?_
  have hT:d ∉ C.T:=eB.tn (by rw [<- aH];exact af _ hdX)
  have st:fC C.T [d] d8 { d8 with heap:=h',toks:=tk }:=⟨.sameBut hb hT,rfl,rfl,id⟩
  have rv:VR h' (Xo C Y env S) v av:=(eN _ _ fy).stp st.heap (eB.inX hdX) eB.hT;refine o0_2 (eB.kJ ok (s':={ d8 with heap:=h',toks:=tk }) (o':=.obj c d (some (attr,av)) sq) hM rfl (by simp [foot,AO.more]:d ∈ foot (a,AO.obj c d none sq)) st ⟨_,hd'⟩
   ⟨⟨vs,k,(hb.2 a hda.symm).trans e,fun l el=>VRs.stp st.heap (eB.inX hdX) eB.hT (hsq l el)⟩,hs,t,ep,v,hd',rv⟩) fun eV fG=>?_
  exact q _ _ _ _ h eV ((eE.trans eN).trans fG) .next)
end
end Mine
namespace Mine
section
variable {C:Cx} (ok:C.Ok) {n:Nat} {M:List (Addr×AO)} {args:List AV}
include ok
theorem zW {c fI:Addr} {P:AV->List (Addr×AO)->Prop} (hm:makesIn C.K c=true) (hi:findIn C.K (.ref c) "__init__" = some (some (.ref fI))) (hf:typeIn C.K (.ref fI)=some (.type "function"))
  (h:∀ x d,FC C n fI (M++[(x,.obj c d none none)]) (.raw (.ref x)::args) fun av M'=>av = .none/\P (.raw (.ref x)) M'):FC C (n+1) c M args P:=by
 intro env μ A Y dZ D s vs Q ha R rv q;obtain ⟨hh,g,d,t,os⟩:=s;refine make_core (makes_of R.bs.K hm) (cA R.bs.K hi) (fun self=>bind_fn R.bs.K self hf) (.inl rfl) ?_;have hA:AOk n (A.under (.builtin "type.__call__" ⟨.ref c::vs,[]⟩)):=⟨ha.1,by have:=ha.2;show A.depth+1+n<900;lia,by have:=ha.3;show A.units+1+8 * n<9000;lia⟩
 have kk:∀ b o,hh.get? b=some o->((hh.push emptyDict).push (instObj c hh.objs.size)).get? b=some o:=fun b o e=>aA _ (aA _ e);have ex:((hh.push emptyDict).push (instObj c hh.objs.size)).get? (hh.objs.size+1)=some (instObj c hh.objs.size):=by heap_get
 have ed:((hh.push emptyDict).push (instObj c hh.objs.size)).get? hh.objs.size=some emptyDict:=by heap_get
 have no:∀ k,hh.get? (hh.objs.size+k)=none:=fun k=>by
  cases e:hh.get? (hh.objs.size+k) with
  | none=>rfl
  | some o=>exact absurd (bH e) (Nat.not_lt.mpr (Nat.le_add_right _ _))
 refine o0_2 (R.newObj ok (a:=hh.objs.size+1) (o:=.obj c hh.objs.size none none) (s':=⟨(hh.push emptyDict).push (instObj c hh.objs.size),g,d,t,os⟩)
  (fun b hb=>by
   have hb':b=hh.objs.size+1\/b=hh.objs.size:=by simpa [foot,AO.more] using hb
   rcases hb' with rfl | rfl
   ·exact ⟨no 1,_,ex⟩
   ·exact ⟨no 0,_,ed⟩)
  (by simp [foot,AO.more]) ⟨.of_keeps kk,rfl,rfl,id⟩ ⟨⟨[],0,ex,fun l e=>by cases e⟩,ed⟩) fun d9 eE=>?_
 refine h _ _ env μ _ Y dZ D _ _ _ hA d9 (.cons (.raw _) (eE.all rv)) fun v s' av S' p R' K' r=>?_;refine o0_3 p fun hμ rf1 hP=>?_;clear p;subst rf1
 (refine VR.vB r fun e_0=>?_;subst e_0)
 exact ⟨rfl,q _ _ _ _ ⟨hμ,hP⟩ R' (eE.trans K') (.raw _)⟩
theorem FC.qn {f c:Addr} {y:Str} (h:FC C n f M args fun av M'=>∃ x d,av = .raw (.ref x)/\M'=M++[(x,.obj c d (some ("text", .str y)) none)]):FC C n f M args (fun av M'=>av = .qn c y/\M'=M):=by
 intro env μ A Y dZ D s vs Q ha R rv q;refine h env μ A Y dZ D s vs Q ha R rv fun v s' av S' p R' K' r=>?_;obtain ⟨μ',M'⟩:=S';refine o0_2 p fun hμ zz=>?_;refine o2_4 zz fun x d rf3 hM=>?_;clear p;subst rf3;dsimp only at hμ hM;subst hμ hM
 (refine VR.gX r fun e_0=>?_;subst e_0)
 refine o0_3 R'.drop fun Rd Vd Nd=>?_;refine o0_2 (R'.ob (x,.obj c d (some ("text", .str y)) none) (aa _ (ao.mpr rfl))) fun z1 zz=>?_
 refine o4_6 zz fun hs tk ep u e2 ru=>?_;refine o2_4 z1 fun vs' k e1 _=>?_;clear z1;refine VR.iW ru ?_;clear ru;intro t1 e_0;cases e_0
 ·
  have hl:lookIn (Str.ofString "text") ⟨.type "dict", none,.dict #[⟨hs,.str (Str.ofString "text") tk,.str y t1⟩] ep,#[]⟩=some (some (.str y t1)):=by simp [lookIn,Value.isStr]
  exact q _ _ (.qn c y) ⟨μ',M⟩ ⟨rfl,rfl,rfl⟩ Rd (fun v av r=>Vd _ _ (K' v av r)) (.qn e1 e2 hl (Nd _ (by simp [foot])) (Nd _ (by simp [foot,AO.more])))
end
end Mine
namespace Mine
noncomputable def t9 (x y:Str):Str:=Str.ofString "{" ++ x++Str.ofString "}" ++ y
theorem Ad (x y:Str):AV.str (Str.empty++Str.ofString "{" ++ x++Str.ofString "}" ++ y)=AV.str (t9 x y):=by
 have:Str.empty++Str.ofString "{" = Str.ofString "{" := by decide +kernel
 rw [this];rfl
section
variable {C:Cx} (ok:C.Ok) {n:Nat} {env:Env} {S:St}
noncomputable def PJ (C:Cx) (n:Nat) (env:Env) (S:St) (es:List Expr) (acc out:Str):Prop :=
 ∀ A Y dZ D s (Q:Str->Shared->Prop),AOk n A->Rel C Y dZ D env S s->(∀ s',Rel C Y dZ D env S s'->Kp C Y env S s S s'->Q out s')->Joins (model C.prog C.w) A No (evalEach es env) acc Q s
theorem PJ.nil {acc:Str}:PJ C n env S [] acc acc:=fun A Y dZ D s Q ha R q=>q s R .refl
theorem PJ.cons {e:Expr} {es:List Expr} {acc y out:Str} (h:PE C n env S e (.str y)) (hz:(acc++y).length<=sizeLine) (t:PJ C n env S es (acc++y) out):PJ C n env S (e::es) acc out :=
 fun A Y dZ D s Q ha R q=>G.at h ha R fun v ee d9 eE r=>by
  refine VR.fO r fun u=>?_
  ·exact ⟨y,u,rfl,hz,t A Y dZ D ee _ ha d9 fun s' R' K'=>q s' R' (eE.trans K')⟩
include ok
theorem PE.joined {e e':Expr} {es:List Expr} {pos:Pos} {out:Str} (h:PJ C n env S (e::e'::es) Str.empty out) (hz:out.length<=sizeLine):PE C n env S (.JoinedStr (e::e'::es) pos) (.str out) :=
 fun A Y dZ D s Q ha R q=>wpAny_JoinedStr (h A Y dZ D s _ ha R fun s' R' K'=>⟨hz,q _ _ _ _ ⟨rfl,rfl⟩ (R'.go ok (.toks ..)) (K'.trans (Kp.go R' (.toks ..))) (.str ..)⟩)
theorem PE.Bu {e:Expr} {pos:Pos} {x:Str} (h:PE C n env S e (.str x)) (hz:x.length<=sizeLine):PE C n env S (.FormattedValue e 115 none pos) (.str x):=fun A Y dZ D s Q ha R q=>by
 show wpAny _ _ (do let v <- eval e env;standAt pos;formatted pos (<- holding [v] (converted 115 v)) none) Q No s
 refine ah (G.at h ha R fun v ee d9 eE r=>?_);refine VR.fO r fun t=>?_
 ·
  refine ah (bY ?_);show wpAny _ _ (do let v' <- holding [Value.str x t] (converted 115 (.str x t));formatField v' Str.empty) Q No ee
  refine ah (bw ?_);refine habitSame_str (row := "fstring-hands-on-the-str") (fun t1 tk1=>?_) hz
  exact formatField_str (fun t' tk=>q _ _ _ _ ⟨rfl,rfl⟩ (d9.go ok (.toks ..)) (eE.trans (Kp.go d9 (.toks ..))) (.str ..)) hz
end
end Mine
namespace Mine
theorem call_meth {prog:Program} {w:World} {A:Around} {E:Value->Shared->Prop} {s:Shared} {env:Env} {o:Expr} {name:Str} {apos pos:Pos} {args:List Expr} {Q:Value->Shared->Prop}
  (hbase:attributeBase o name env (eval o env)=eval o env)
  (hfew:((backTo pos (starEach args env)).all (fun x=>!x.1) && (backToKw pos (keywordEach [] env)).all (fun x=>x.1.isSome) && decide (args.length+([]:List Keyword).length+(if ([]:List Keyword).isEmpty then 0 else 1)<30))=true)
  (hline:(apos.endLine == pos.line)=true)
  (h:wpAny (model prog w) A (eval o env) (fun ov ee=>∀ pl,wpAny (model prog w) A (getMethod ov name pl) (fun r d8=>wpAny (model prog w) A (callWith pos r.1 r.2 (backTo pos (starEach args env)) []) Q E d8) E ee) E s) :
  wpAny (model prog w) A (eval (.Call (.Attribute o name apos) args [] pos) env) Q E s:=by
 rw [arm_eval_Call,hbase];refine ah (bx h (fun ov ee iJ=>?_) fun _ _ e=>e);refine ah (bY ?_);have hform:methodCallForm (args.length+([]:List Keyword).length) (backTo pos (starEach args env)) (backToKw pos (keywordEach [] env))=true:=hfew;have hpos:methodCallPos true o env apos pos=pure pos:=by unfold methodCallPos;simp [hline]
 unfold methodCall;rw [hform];refine ah (bw (bx (iJ _) (fun r d8 jY=>?_) fun _ _ e=>e));exact ah (bS hpos jY)
theorem pB {prog:Program} {w:World} {A:Around} {E:Value->Shared->Prop} {s:Shared} {K:Frag} {x C:Addr} {ox:Obj} {od:Option Obj} {name:Str} {pl:Sem Bool} {Q:Value×List Value->Shared->Prop} {v:Value} {t ga:String} (X:K.In s.heap) (I:InstAt s.heap x ox C od) (hga:findIn K (.ref C) "__getattribute__" = some (some (.builtin ga))) (hcan:Manifest.canonical ga = "object.__getattribute__") (hk:findIn K (.ref C) "__getattr__" = some none)
  (hf:findIn K (.ref C) name=some (some v)) (ht:typeIn K v=some (.type t)) (ht':(t == "function" || t == "method_descriptor")=true) (hs:shadowIn od name=some false) (h:Q (v,[.ref x]) s) :
  wpAny (model prog w) A (getMethod (.ref x) name pl) Q E s:=by
 unfold getMethod specialOf;refine ah (ah (I.type.here ((cA X hga).here ?_)));dsimp only;rw [hcan,aq (by decide)]
 refine ah (ah (I.type.here ((cA X hk).here ?_)));refine ah (ah (I.type.here ((cA X hf).here (ah ((looks_typeIn X ht).here ?_)))));rw [aq (by
  have:t = "function" \/ t = "method_descriptor" := by simpa using ht'
  rcases this with rfl | rfl <;> decide +kernel)]
 refine ah (cQ I.at_ ?_);have hd:=I.dict;cases e:ox.dict with
 | none=>exact ah (dc (ak h))
 | some dx =>
   cases od with
   | none=>rw [e] at hd;exact hd.elim
   | some o =>
     rw [e] at hd;refine o1_3 (aS.mp hs) fun r a b=>?_;refine ah (ah (cQ hd ?_));rw [nsLook_of a];refine ak ?_;rw [b];exact ah (dc (ak h))
theorem vF {C:Cx} {h:Heap} {X:List Addr} {p c d:Addr} {kv:Option (Str×AV)} {sq:Option (List (Str×Str))} {name:Str} (o:OR C h X p (.obj c d kv sq)) (hy:∀ q,kv=some q->(q.1 == name)=false):∃ ox od,InstAt h p ox c (some od)/\shadowIn (some od) name=some false:=by
 refine o0_2 o fun z1 hd=>?_;clear o;refine o2_4 z1 fun vs k e _=>?_;clear z1;cases kv with
 | none=>exact ⟨_,_,⟨e,rfl,by cases sq <;> rfl,hd⟩,by simp [shadowIn,lookIn]⟩
 | some q =>
   obtain ⟨y,a⟩:=q;refine o4_6 hd fun hs tk ep u e2 _=>?_;clear hd;refine ⟨_,_,⟨e,rfl,by cases sq <;> rfl,e2⟩,?_⟩
   have:=hy _ rfl;have e3:([⟨hs,.str y tk,u⟩]:List DictEntry).find? (·.key.isStr name)=none:=by simp [Value.isStr,this]
   show (lookIn name _).map (·.isSome)=some false;unfold lookIn;dsimp only;rw [e3]
   rfl
section
variable {C:Cx} {n:Nat} {env:Env} {S:St}
structure Meth (C:Cx) (c:Addr) (name:Str) (v:Value):Prop where
 ga:∃ i,findIn C.K (.ref c) "__getattribute__" = some (some (.builtin i))/\Manifest.canonical i = "object.__getattribute__"
 gt:findIn C.K (.ref c) "__getattr__" = some none
 at_:findIn C.K (.ref c) name=some (some v)
 ty:∃ t,typeIn C.K v=some (.type t)/\(t == "function" || t == "method_descriptor")=true
 keep:keepIn C.K v=true\/∃ i,v = .builtin i
theorem EV.zE {o:Expr} {name:Str} {e:Expr} {es:List Expr} {apos pos:Pos} {c:Addr} {v:Value} {P:AV->St->Prop} (m:Meth C c name v)
  (h:EV C n env S o fun a d7=>∃ p d kv sq,a = .raw (.ref p)/\(p,.obj c d kv sq) ∈ d7.M/\(∀ q,kv=some q->(q.1 == name)=false)/\EL C n env d7 pos (e::es) fun l eG=>VN C n env eG (fun vs=>call v (.ref p::vs)) l P)
  (hbase:attributeBase o name env (eval o env)=eval o env:=by rfl)
  (hfew:((backTo pos (starEach (e::es) env)).all (fun x=>!x.1) && (backToKw pos (keywordEach [] env)).all (fun x=>x.1.isSome) && decide ((e::es).length+([]:List Keyword).length+(if ([]:List Keyword).isEmpty then 0 else 1)<30))=true:=by rfl)
  (hline:(apos.endLine == pos.line)=true:=by rfl)
  (he:starEach (e::es) env=(false,eval e env)::starEach es env:=by rfl) (hplain:(backTo pos (starEach es env)).any (·.1)=false:=by rfl) :
  EV C n env S (.Call (.Attribute o name apos) (e::es) [] pos) P :=
 fun A Y dZ D s Q ha R q=>call_meth hbase hfew hline (h A Y dZ D s _ ha R fun ov ee a d7 p d9 eE rv=>by
  obtain ⟨p,d,kv,sq,rfl,hm,hy,hEL⟩:=p;refine VR.fM rv ?_;intro pl;obtain ⟨ox,od,I,sh⟩:=vF (d9.ob _ hm) hy;obtain ⟨t,t1,t2⟩:=m.ty;obtain ⟨gi,g1,g2⟩:=m.ga;refine pB d9.bs.K I g1 g2 m.gt m.at_ t1 t2 sh ?_;have go:wpAny (model C.prog C.w) A (spliced (backTo pos (starEach (e::es) env))) (fun vs d8=>C.K.In d8.heap/\wpAny (model C.prog C.w) A (call v ([.ref p]++vs)) Q No d8) No ee->wpAny (model C.prog C.w) A (callWith pos v [.ref p] (backTo pos (starEach (e::es) env)) []) Q No ee:=fun h=>by
   rcases m.keep with k | ⟨i,rfl⟩
   ·exact callWith_K d9.bs.K k h he hplain
   ·rw [he] at h ⊢;exact cC (by show (false || (backTo pos (starEach es env)).any (·.1))=false;rw [hplain];rfl) (evalArgs_plain (bx h (fun _ _ x=>x.2) fun _ _ x=>x))
  refine go ?_;rw [he];have h':=hEL A Y dZ D ee (fun vs d8=>C.K.In d8.heap/\wpAny (model C.prog C.w) A (call v ([.ref p]++vs)) Q No d8) ha d9 fun vs d8 l eG fh eB eN fz=>⟨eB.bs.K,fh A Y dZ D d8 vs Q ha eB fz fun r ez b fk fF eV fG f7=>q r ez b fk fF eV ((eE.trans eN).trans fG) f7⟩;rw [he] at h';exact h')
theorem EV.uY {o:Expr} {name:Str} {apos pos:Pos} {c:Addr} {v:Value} {P:AV->St->Prop} (m:Meth C c name v)
  (h:EV C n env S o fun a d7=>∃ p d kv sq,a = .raw (.ref p)/\(p,.obj c d kv sq) ∈ d7.M/\(∀ q,kv=some q->(q.1 == name)=false)/\VN C n env d7 (fun vs=>call v (.ref p::vs)) [] P)
  (hbase:attributeBase o name env (eval o env)=eval o env:=by rfl)
  (hline:(apos.endLine == pos.line)=true:=by rfl) :
  EV C n env S (.Call (.Attribute o name apos) [] [] pos) P :=
 fun A Y dZ D s Q ha R q=>call_meth hbase rfl hline (h A Y dZ D s _ ha R fun ov ee a d7 p d9 eE rv=>by
  obtain ⟨p,d,kv,sq,rfl,hm,hy,hVN⟩:=p;refine VR.fM rv ?_;intro pl;obtain ⟨ox,od,I,sh⟩:=vF (d9.ob _ hm) hy;obtain ⟨t,t1,t2⟩:=m.ty;obtain ⟨gi,g1,g2⟩:=m.ga;refine pB d9.bs.K I g1 g2 m.gt m.at_ t1 t2 sh ?_;have go:wpAny (model C.prog C.w) A (call v ([.ref p]++[])) Q No ee->wpAny (model C.prog C.w) A (callWith pos v [.ref p] (backTo pos (starEach [] env)) []) Q No ee:=fun h=>by
   rcases m.keep with k | ⟨i,rfl⟩
   ·exact callWith_K0 d9.bs.K k h
   ·exact cC rfl (evalArgs_nil3 h)
  exact go (hVN A Y dZ D ee [] Q ha d9 .nil fun r ez b fk fF eV fG f7=>q r ez b fk fF eV (eE.trans fG) f7))
end
end Mine
namespace Mine
theorem nI {M:Model} {A:Around} {E:Value->Shared->Prop} {s:Shared} {i owner n:String} {self:Value} {rest:List Value} {kw:List (Str×Value)} {Q:Unit->Shared->Prop}
  (hk:builtinKind i=some .method\/builtinKind i=some .slot) (hs:splitId i=some (owner,n)) (hi:Looks M s.heap (isInstance self (.type owner)) true) (ha:argsOk i ⟨self::rest,kw⟩) (q:Q () s) :
  wpAny M A (checkBuiltinCall i ⟨self::rest,kw⟩) Q E s:=by
 rcases hk with hk | hk
 case inr=>exact check_slot hk hs hi ha q
 simp only [checkBuiltinCall,hk,hs];refine ah (hi.here ?_);simp only [Bool.not_true,bu,cg];cases hsig:Manifest.signature? i with
 | none=>exact ak q
 | some sig =>
   simp only [argsOk,hsig] at ha;have h2:Bind.checkArgs i sig ⟨self::rest,kw⟩=pure ():=ha;show wpAny M A (Bind.checkArgs i sig ⟨self::rest,kw⟩) Q E s;rw [h2];exact ak q
theorem vG {C:Cx} {h:Heap} {X:List Addr} {p c d:Addr} {kv:Option (Str×AV)} {sq:Option (List (Str×Str))} {T:String} {r:Bool} (K:C.K.In h) (o:OR C h X p (.obj c d kv sq)) (e:subIn C.K (.ref c) (.type T)=some r) (M:Model):Looks M h (isInstance (.ref p) (.type T)) r:=by
 refine o0_2 o fun z1 _=>?_;clear o;refine o2_4 z1 fun vs k e1 _=>?_;clear z1;have t:Looks M h (typeOf (.ref p)) (.ref c):=(Looks.ld (part:=none) e1).andThen .now;exact t.andThen (looks_subIn K e)
section
variable {C:Cx} (ok:C.Ok) {n:Nat} {env:Env} {S:St}
include ok
theorem Rel.rJ {Y D:List Addr} {dZ s:Shared} (R:Rel C Y dZ D env S s) {i:Nat} {p c d:Addr} {kv:Option (Str×AV)} {l l':List (Str×Str)} (hM:S.M[i]? = some (p,.obj c d kv (some l))) {vs ws:List Value} {k:Nat} (e:s.heap.get? p=some ⟨.ref c,some d,.seq vs.toArray k,#[]⟩)
  (f:Array Value->Array Value) (hf:f vs.toArray=ws.toArray) (r:VRs s.heap (Xo C Y env S) ws (l'.map gu)):Rel C Y dZ D env ⟨S.μ,S.M.set i (p,.obj c d kv (some l'))⟩ { s with heap:=s.heap.update p (Obj.mapSeq f) }/\Kp C Y env S s ⟨S.μ,S.M.set i (p,.obj c d kv (some l'))⟩ { s with heap:=s.heap.update p (Obj.mapSeq f) }:=by
 have hm:=eu hM;have hfoot:p ∈ fj S.M:=eU hm (aj ..);have hT:p ∉ C.T:=R.tn (aa _ (af _ hfoot));have hda:d≠p:=by
  have nd:=(aJ.mp R.nd).2.1;intro q;have hf:(foot (p,AO.obj c d kv (some l))).Nodup:=by unfold fj at nd;exact fV nd hm
  simp [foot,AO.more] at hf;exact hf q.symm
 have st:fC C.T [p] s { s with heap:=s.heap.update p (Obj.mapSeq f) }:=jG (t:=s.toks) ok hT
 have e':(s.heap.update p (Obj.mapSeq f)).get? p=some ⟨.ref c,some d,.seq ws.toArray (if (f vs.toArray).size == vs.toArray.size then k else k+1),#[]⟩:=by rw [<- hf];exact cW _ e rfl
 refine o0_2 (R.ob _ hm) fun _ hd=>?_;refine R.kJ ok (o':=.obj c d kv (some l')) hM rfl (aj ..) st ⟨_,e'⟩ ⟨⟨ws,_,e',fun l2 el=>?_⟩,?_⟩
 ·cases el;exact VRs.stp st.heap (R.inX (aa _ hfoot)) R.hT r
 ·cases kv with
  | none=>exact (Heap.get?_update_other _ _ (Ne.symm hda)).trans hd
  | some q =>
    refine o4_6 hd fun hs tk ep u e3 r3=>?_;clear hd;exact ⟨hs,tk,ep,u,(Heap.get?_update_other _ _ (Ne.symm hda)).trans e3,r3.stp st.heap (R.inX (aa _ hfoot)) R.hT⟩
namespace O
theorem zF {i:Nat} {p c d:Addr} {kv:Option (Str×AV)} {l:List (Str×Str)} {q:Str×Str} {P:AV->St->Prop} (hM:S.M[i]? = some (p,.obj c d kv (some l))) (hz:l.length<=sizeLine) (hsub:subIn C.K (.ref c) (.type "list")=some true) (h:P .none ⟨S.μ,S.M.set i (p,.obj c d kv (some (l++[q])))⟩) :
  VN C n env S (fun vs=>call (.builtin "list.append") (.ref p::vs)) [gu q] P:=fun A Y dZ D s vs Q ha R r qq=>by
 refine VRs.eW r fun v0 _ r rs=>?_
 ·
  refine VRs.fN rs ?_;have o:=R.ob _ (eu hM);have hI:=vG R.bs.K o hsub (model C.prog C.w);refine o0_2 o fun z2 _=>?_;clear o;refine o2_4 z2 fun ws k e rw_=>?_;clear z2;have rl:=rw_ l rfl;have hlen:ws.length=l.length:=by rw [rl.length,az]
  refine dF (codeAny_call_builtin_at (Code.quiet_builtin _ (by decide +kernel)) entry_list_append (nI (n := "append") (.inl (by decide +kernel)) (by decide +kernel) hI (args_list_append _ _) ?_))
  show wpAny _ _ (updateSeq p (·.push v0) >>= fun _=>ret .none) _ _ s;refine ah (wpAny_updateSeq e rfl (ak ?_) (hz:=by rw [aK];lia) (_hz':=by rw [Array.size_push,aK];lia))
  refine o0_2 (Rel.rJ ok R hM e (·.push v0) (ws:=ws++[v0]) (l':=l++[q]) (by simp) (by rw [bq];exact rl.append (.one r))) fun R' K'=>?_
  exact qq _ _ _ _ h R' K' .none
end O
end
end Mine
namespace Mine
noncomputable def B3 (C:Cx) (n:Nat) (c:Code) (env:Env) (S:St) (body:List Stmt) (P:AF->St->Prop):Prop :=
 ∀ A Y dZ D s (Q:Flow->Shared->Prop),AOk n A->Rel C Y dZ D env S s->(∀ r s' b S',P b S'->Rel C Y dZ D env S' s'->Kp C Y env S s S' s'->FR s'.heap (Xo C Y env S') r b->Q r s')->_root_.PySem.wpAt (model C.prog C.w) A c (execs body env) Q No s
theorem CN {C:Cx} (ok:C.Ok) {n:Nat} {f:Addr} {fd:FuncData} {body:List Stmt} {M:List (Addr×AO)} {args:List AV} {ab:List (Str×AV)} {P:AV->List (Addr×AO)->Prop} (F:Aw C f fd body)
  (hcell:∀ x ∈ fd.scope.names,x.2≠.cell)
  (hbind:∀ h X vs,VRs h X vs args->C.K.In h->(∀ a,C.Old a->a ∉ X)->∃ bs,(∀ s:Shared,s.heap=h->BindsTo s fd ⟨vs,[]⟩ bs)/\PRs h X bs ab)
  (hloc:∀ x ∈ ab.map (·.1),fd.scope.names.lookup x=some .local)
  (h:∀ L,B3 C n (.func body (callEnv fd L f)) (callEnv fd L f) ⟨ab.reverse,M⟩ body (Out P)):FC C (n+1) f M args P:=by
 intro env μ A Y dZ D s vs Q ha R rv q;refine o1_3 F.obj fun o ho hd=>?_;refine o4_8 F.code fun c oc cvs t e1 e2 e3 e4=>?_;have oldX:∀ a,C.Old a->a ∉ Xo C Y env ⟨μ,M⟩:=fun a ha q=>by
  rcases au.mp q with z | z
  ·exact ok.old a ha z
  ·exact (R.hi a z).1 ha
 refine o1_3 (hbind s.heap _ vs rv R.bs.K oldX) fun bs hb rb=>?_;refine (ks_codeAny_call_defAt (binds:=bs) (by have:=ha.depth;show A.depth<1000;lia) (R.bs.K _ _ ho) hd R.bs.lim ⟨c,oc,cvs,t,e1,R.bs.K _ _ e2,e3,e4⟩ F.body (hb s rfl) hcell
  (fun x hx=>hloc _ (by rw [<- rb.keys];exact aE.mpr ⟨x,hx,rfl⟩)) (fun h₀ hn hk=>?_) F.co F.gen F.kind)
 have x:fC C.T [] s { s with heap:=h₀,toks:=s.toks+bs.length }:=⟨.of_keeps hk,rfl,rfl,id⟩
 have nocell:(callEnv fd s.heap.objs.size f).cells.filter (fun p=>(callEnv fd s.heap.objs.size f).kindOf p.1 == some .cell && (callEnv fd s.heap.objs.size f).func.isSome)=[]:=by
  rw [cB];intro p _ hp;have:(callEnv fd s.heap.objs.size f).kindOf p.1=some .cell:=by simp at hp;exact hp.1
  exact hcell (p.1,.cell) (mem_of_lookup this) rfl
 have efa:fa (callEnv fd s.heap.objs.size f)=[s.heap.objs.size]:=by unfold fa;rw [nocell];rfl
 have hf:∀ b ∈ fa (callEnv fd s.heap.objs.size f),s.heap.get? b=none:=fun b hb=>by
  rw [efa] at hb;have e:b=s.heap.objs.size:=by simpa using hb
  subst e;exact eH _
 have d9:Rel C (fa env++Y) s (fj M) (callEnv fd s.heap.objs.size f) ⟨ab.reverse,M⟩ { s with heap:=h₀,toks:=s.toks+bs.length }:=by
  refine R.enter (S:=⟨μ,M⟩) ok x hf (fun b hb=>?_) (by rw [efa];simp) ⟨F.kind,F.glob,F.wV,fun y ky=>F.more (y,.free) (mem_of_lookup ky) rfl⟩ ⟨⟨_,hn,fun y av e k=>?_⟩,fun y av e k=>?_,fun y c k _=>absurd rfl (hcell (y,.cell) (mem_of_lookup k.1)),fun y av e=>?_⟩ (fun y c _ e=>.inr (F.clo y c e))
  ·rw [efa] at hb;have e:b=s.heap.objs.size:=by simpa using hb
   refine o3_5 hn fun o _ _ q _=>?_;clear hn;exact e▸⟨o,q⟩
  ·refine o1_3 (rb.rev.look e) fun v e1 r=>?_;exact ⟨v,e1,(r.sub (enterX hf)).stp x.heap (fun _ h=>nomatch h) (fun a h=>af _ h)⟩
  ·exfalso;have hm:y ∈ ab.map (·.1):=by
    have:=mem_of_lookup e;exact aE.mpr ⟨(y,av),cy.mp this,rfl⟩
   have kl:(callEnv fd s.heap.objs.size f).kindOf y=some .local:=hloc y hm;rw [kl] at k;rcases k with k | k <;> cases k
  ·exact .inl (hloc y (aE.mpr ⟨(y,av),cy.mp (mem_of_lookup e),rfl⟩))
 refine ks_wpAt_mono (h s.heap.objs.size (A.deeper (callEnv fd s.heap.objs.size f)) _ _ _ _ (fun fl s'=>Q (.ok (.ret (match fl with | .ret v=>v | _=>.none))) s') (ha.deeper _) d9 fun r s' b S' p R' K' rr=>?_) (fun fl s' z=>?_) fun _ _ e=>e.elim
 ·refine o0_3 (R.leave (S:=⟨μ,M⟩) ok R') fun Ra Ka Va=>?_;cases rr with
  | next=>exact q _ _ _ ⟨μ,S'.M⟩ ⟨rfl,p⟩ Ra Ka .none
  | brk=>exact q _ _ _ ⟨μ,S'.M⟩ ⟨rfl,p⟩ Ra Ka .none
  | cont=>exact q _ _ _ ⟨μ,S'.M⟩ ⟨rfl,p⟩ Ra Ka .none
  | ret r=>exact q _ _ _ ⟨μ,S'.M⟩ ⟨rfl,p⟩ Ra Ka (Va _ _ r)
 ·cases fl <;> exact z
section
variable {C:Cx} {n:Nat} {c:Code} {env:Env} {S:St}
noncomputable def Dn (C:Cx) (n:Nat) (c:Code) (env:Env) (rest:List Stmt) (P:AF->St->Prop) (f:AF) (S:St):Prop:=match f with
 | .next=>B3 C n c env S rest P
 | f=>P f S
theorem B3.cons {st:Stmt} {rest:List Stmt} {P:AF->St->Prop} (h:E1 C n env S st (Dn C n c env rest P)):B3 C n c env S (st::rest) P :=
 fun A Y dZ D s Q ha R q=>ks_wpAt_execs_cons (_root_.PySem.wpAt_of_wpAny (h A Y dZ D s _ ha R fun f ee b d7 p d9 eE r=>by
  cases r with
  | next=>exact p A Y dZ D ee Q ha d9 fun f d8 b eG fh eB eN fz=>q f d8 b eG fh eB (eE.trans eN) fz
  | brk=>exact q _ _ _ _ p d9 eE .brk
  | cont=>exact q _ _ _ _ p d9 eE .cont
  | ret r=>exact q _ _ _ _ p d9 eE (.ret r)))
end
end Mine
namespace Mine
theorem qv:Slot "wrapper_descriptor" "__get__" "wrapper_descriptor.__get__" := .of (owner := "wrapper_descriptor") (n := "__get__") (by rw [typeLookup_type,builtinLookup_eq_fast];kernel_rfl) (by decide +kernel) (by decide +kernel) (by decide +kernel)
 (by first | exact .inl (by decide +kernel) | exact .inr (by decide +kernel)) (by rw [isSubtype_type];kernel_rfl)
theorem pU:entryFor table "wrapper_descriptor.__get__" = some Builtin.«wrapper_descriptor.__get__»:=entryFor_of_tree (by kernel_rfl)
theorem q3 (a b c:Value):argsOk "wrapper_descriptor.__get__" ⟨[a,b,c],[]⟩:=by unfold argsOk;kernel_rfl
noncomputable def fZ (T i:String) (x:Addr):Obj:={ cls:=.type T,data:=.fields #[.builtin i,.ref x] }
section
variable {M:Model} {A:Around} {E:Value->Shared->Prop} {s:Shared} {x c:Addr}
theorem qi {P:Fin->Shared->Prop} (hI:Looks M s.heap (isInstance (.ref x) (.type "list")) true) (h:P (.done (.ret (.ref s.heap.objs.size))) { s with heap:=s.heap.push (fZ "method-wrapper" "list.__init__" x) }) :
  wpAny M A (Builtin.«wrapper_descriptor.__get__» ⟨[.builtin "list.__init__", .ref x,.ref c],[]⟩) P E s:=by
 obtain ⟨hp,g,d,tk,os⟩:=s;unfold Builtin.«wrapper_descriptor.__get__»;refine ah (bS (a:=(.builtin "list.__init__", some (.ref x),some (.ref c))) (by first | rfl | kernel_rfl) ?_)
 refine ah (ah (bS (a:=((Str.ofString "__init__"),.type "list")) (by first | rfl | kernel_rfl) ?_))
 refine ah (Looks.at hI ?_);rw [aq (by decide)]
 refine ak ?_;unfold newFields
 repeat (first | (with_reducible refine cE ?_ (by size_fits)) | wp_step)
 exact h
end
section
variable {prog:Program} {w:World} {A:Around} {E:Value->Shared->Prop} {h:Heap} {g:Array GenState} {d:Drawn} {t:Nat} {os:OsState}
theorem qp {so D x C:Addr} {i TD gid T:String} {B:Builtin} {l₀ l:List Value} {K:Frag} {name:Str} {tk:Tok} {Q:Fin->Shared->Prop}
  (hso:h.get? so=some { cls:=.type "super", dict:=none,data:=.fields #[.ref D,.ref x,.ref C],slots:=#[] }) (hno:Looks (model prog w) h (opaqueClassAbove (.ref C)) none)
  (hC:Looks (model prog w) h (mroOf (.ref C)) l₀) (hl:(l₀.dropWhile (· != .ref D)).drop 1=l) (X:K.In h)
  (hf:alongIn K name l=some (some (.builtin i))) (hTf:typeOf (.builtin i)=pure (.type TD)) (slot:Slot TD "__get__" gid) (entry:entryFor table gid=some B) (args:∀ a b c,argsOk gid ⟨[a,b,c],[]⟩)
  (hget:∀ {A':Around} {E':Value->Shared->Prop} (P:Fin->Shared->Prop),P (.done (.ret (.ref h.objs.size))) ⟨h.push (fZ T i x),g,d,t,os⟩->wpAny (model prog w) A' (B ⟨[.builtin i,.ref x,.ref C],[]⟩) P E' ⟨h,g,d,t,os⟩)
  (hxC:x≠C) (hn:(name == ("__class__" : Str))=false)
  (hq:Q (.done (.ret (.ref h.objs.size))) ⟨h.push (fZ T i x),g,d,t,os⟩) :
  wpAny (model prog w) A (Builtin.«super.__getattribute__» ⟨[.ref so,.str name tk],[]⟩) Q E ⟨h,g,d,t,os⟩:=by
 have hlk:=slot.lookup;have hne:(Value.ref x == Value.ref C)=false:=by simp [hxC]
 have hT:(⟨h,g,d,t,os⟩:Shared).TypeIs (.builtin i) TD:=hTf;have hdt:({ cls:=.type "super", dict:=none,data:=.fields #[.ref D,.ref x,.ref C],slots:=#[] }:Obj).data = .fields #[.ref D,.ref x,.ref C]:=rfl
 have f0:(#[.ref D,.ref x,.ref C]:Array Value)[0]? = some (.ref D):=rfl;have f1:(#[.ref D,.ref x,.ref C]:Array Value)[1]? = some (.ref x):=rfl;have f2:(#[.ref D,.ref x,.ref C]:Array Value)[2]? = some (.ref C):=rfl;unfold Builtin.«super.__getattribute__»
 repeat (first
  | (with_reducible refine dg hso hdt f0 ?_) | (with_reducible refine dg hso hdt f1 ?_) | (with_reducible refine dg hso hdt f2 ?_)
  | (with_reducible refine ks_wpAny_notOpaque hno ?_)
  | (with_reducible refine Looks.at hC ?_;rw [hl])
  | (refine ks_forIn_along X (fun _ _=>rfl) rfl ?_ hf)
  | (with_reducible refine wpAny_typeOf hT ?_)
  | (with_reducible refine cV slot hT entry ?_ (args _ _ _))
  | (refine hget _ ?_)
  | (with_reducible refine ⟨_,rfl,?_⟩)
  | (simp only [hn,hne,Bool.or_false,bu,cg])
  | wp_step
  | dsimp only)
 all_goals exact hq
theorem nQ {so D x C:Addr} {i TD gid T:String} {B:Builtin} {l₀ l:List Value} {K:Frag} {name:Str} {pl:Sem Bool} {Q:Value×List Value->Shared->Prop}
  (hso:h.get? so=some { cls:=.type "super", dict:=none,data:=.fields #[.ref D,.ref x,.ref C],slots:=#[] }) (hno:Looks (model prog w) h (opaqueClassAbove (.ref C)) none)
  (hC:Looks (model prog w) h (mroOf (.ref C)) l₀) (hl:(l₀.dropWhile (· != .ref D)).drop 1=l) (X:K.In h)
  (hf:alongIn K name l=some (some (.builtin i))) (hTf:typeOf (.builtin i)=pure (.type TD)) (slot:Slot TD "__get__" gid) (entry:entryFor table gid=some B) (args:∀ a b c,argsOk gid ⟨[a,b,c],[]⟩)
  (hget:∀ {A':Around} {E':Value->Shared->Prop} (P:Fin->Shared->Prop),P (.done (.ret (.ref h.objs.size))) ⟨h.push (fZ T i x),g,d,t+1,os⟩->wpAny (model prog w) A' (B ⟨[.builtin i,.ref x,.ref C],[]⟩) P E' ⟨h,g,d,t+1,os⟩)
  (hxC:x≠C) (hn:(name == ("__class__" : Str))=false)
  (hq:Q (.ref h.objs.size,[]) ⟨h.push (fZ T i x),g,d,t+1,os⟩) :
  wpAny (model prog w) A (getMethod (.ref so) name pl) Q E ⟨h,g,d,t,os⟩:=by
 have hlk:=F.ks_slot_super_ga.lookup;have hcan:=F.ks_canon_super_ga;have hT:∀ t',(⟨h,g,d,t',os⟩:Shared).TypeIs (.ref so) "super" := fun _=>⟨_,hso,rfl⟩
 unfold getMethod;refine ah (wpAny_specialOf (hT _) hlk ?_);show wpAny _ _ (if (Manifest.canonical "super.__getattribute__" != "object.__getattribute__")=true then _ else _) _ _ _
 rw [ay hcan];unfold getAttr getAttrBy;refine ah (ah (wpAny_mkText (bw (ah (wpAny_typeOf (hT _) (ah (bS hlk ?_)))))));show wpAny _ _ (getAttrByItsOwn (.ref so) (.str name t) (.type "super") (.builtin "super.__getattribute__") true false) _ _ _
 unfold getAttrByItsOwn hookBefore callGetattribute boundAndCalled;refine ah (bS (show (if onTheHeap (.type "super") then typeLookup (.type "super") "__getattr__" else pure none)=pure none from rfl) ?_)
 refine ah (wpAny_attempt (bw ?_));show wpAny _ _ (bindSpecial (.builtin "super.__getattribute__") (.ref so) >>= _) _ _ _
 refine ah (bS (F.ks_slot_super_ga.bind _) ?_);refine bx (Q:=fun v s'=>v = .ref h.objs.size/\s'=⟨h.push (fZ T i x),g,d,t+1,os⟩) (E:=fun _ _=>False)
  (cV F.ks_slot_super_ga (hT _) F.ks_entry_super_ga (qp hso hno hC hl X hf hTf slot entry args hget hxC hn ⟨_,rfl,rfl,rfl⟩) (F.ks_gaArgs_super _ _)) (fun v s' hv=>?_) fun _ _ z=>z.elim
 refine o0_2 hv fun rf0 rf1=>?_;clear hv;subst rf0;subst rf1;exact ak (ak hq)
end
end Mine
namespace Mine
section
variable {prog:Program} {w:World} {A:Around} {s:Shared} {b x:Addr} {T i:String} {vs:List Value}
theorem t8 {R:Result->Shared->Prop} (hb:s.heap.get? b=some (fZ T i x)) (hT:T = "method-wrapper" \/ T = "builtin_function_or_method")
  (hc:∀ {Q':Unit->Shared->Prop} {E':Value->Shared->Prop},Q' () s->wpAny (model prog w) A.in1 (checkBoundCall i ⟨.ref x::vs,[]⟩) Q' E' s) (hqu:(Code.builtin i ⟨.ref x::vs,[]⟩).quiet=true)
  (hq:codeAny (model prog w) A (.builtin i ⟨.ref x::vs,[]⟩) R s):codeAny (model prog w) A (.call (.ref b) ⟨vs,[]⟩) R s:=by
 refine codeAny_of_tree ?_;show wpAny _ A.in1 (callAny (.ref b) _) _ _ _;unfold callAny;refine ah (wpAny_load hb ?_);have h1:((fZ T i x).cls == .type "method" || (fZ T i x).cls == .type "builtin_function_or_method" || (fZ T i x).cls == .type "method-wrapper")=true:=by
  rcases hT with rfl | rfl <;> rfl
 have h2:((fZ T i x).cls != .type "method")=true:=by
  rcases hT with rfl | rfl <;> rfl
 show wpAny _ _ (if _ then _ else _) _ _ _
 rw [ay h1];show wpAny _ _ (if ((fZ T i x).cls != .type "method")=true then _ else _) _ _ _
 rw [ay h2];exact ah (hc (ak ⟨hqu,hq⟩))
theorem qI {M:Model} (hT:T = "method-wrapper" \/ T = "builtin_function_or_method") (h:Heap) (X:h.get? b=some (fZ T i x)):∃ k,(k=Keeper.frame\/k=Keeper.machine\/k=Keeper.boundFrame)/\Looks M h (keeperOf (.ref b)) k:=by
 refine ⟨.machine,.inr (.inl rfl),(Looks.ld (part:=none) X).andThen ?_⟩;rcases hT with rfl | rfl <;> exact .now
theorem yq {A:Around} {s:Shared} {Q':Unit->Shared->Prop} {E':Value->Shared->Prop} {M:Model} (q:Q' () s):wpAny M A (checkBoundCall "list.__init__" ⟨[.ref x],[]⟩) Q' E' s :=
 bS (a:=()) (by first | rfl | kernel_rfl) q
end
end Mine
namespace Mine
structure Al (C:Cx) (env:Env) (f Dc:Addr) (me:Str):Prop where
 ks:env.kindOf "super" = some .globalImplicit
 kc:env.kindOf "__class__" = some .free
 fu:env.func=some f
 fd:∃ of fd ar,C.K.lookup f=some of/\of.data = .func fd/\(fd.params.posonlyargs++fd.params.args).head? = some ar/\ar.arg=me
 co:∃ cc oc vs file tf,env.code = .ref cc/\C.K.lookup cc=some oc/\oc.data = .fields vs/\vs[2]? = some (.str file tf)/\((C.prog.main.file:Str) == file)=true
 top:(C.prog.main.scope.names.lookup ("super" : Str)).isSome=false
 cell:∃ cl o,env.cells.lookup (Str.ofString "__class__")=some cl/\C.K.lookup cl=some o/\o.data = .cell (some (.ref Dc))
 cls:∃ o cd,C.K.lookup Dc=some o/\o.data = .cls cd
 mg:C.mg "super" = none
 mb:C.mb "super" = some (.type "super")
section
variable {C:Cx} {n:Nat} {env:Env} {S:St}
theorem uD {f Dc x c d:Addr} {me:Str} {kv:Option (Str×AV)} {sq:Option (List (Str×Str))} (F:Al C env f Dc me) {A:Around} {Y D:List Addr} {dZ s:Shared} {body:List Stmt} {p0 p1:Pos} {attr:Str} {whole:Sem Value} {Q:Value->Shared->Prop} (R:Rel C Y dZ D env S s)
  (hat:(attr == ("__class__" : Str))=false) (hme:S.μ.lookup me=some (.raw (.ref x))) (hk:env.kindOf me=some .local) (hx:(x,AO.obj c d kv sq) ∈ S.M) (hsub:mroIn C.K c (.ref Dc)=some true)
  (q:∀ h',h'.get? s.heap.objs.size=some (ks_superObj Dc x c)->(∀ y o,s.heap.get? y=some o->h'.get? y=some o)->Q (.ref s.heap.objs.size) { s with heap:=h' }) :
  _root_.PySem.wpAt (model C.prog C.w) A (.func body env) (attributeBase (.Call (.Name "super" p0) [] [] p1) attr env whole) Q No s:=by
 refine o3_7 F.fd fun of fd ar f1 f2 f3 f4=>?_;refine o5_10 F.co fun cc oc vs file tf c1 c2 c3 c4 c5=>?_;refine o2_5 F.cell fun cl ocl l1 l2 l3=>?_;refine o2_4 F.cls fun oD cdD d1 d2=>?_;refine o0_2 (R.ob _ hx) fun z1 _=>?_;refine o2_4 z1 fun vs' k e _=>?_;clear z1;refine o1_3 R.fr.loc fun m hn z=>?_;refine o1_3 (z me _ hme hk) fun v e1 r=>?_
 (refine VR.gX r fun e_0=>?_;subst e_0)
 subst f4;have X:=R.bs.K;have ev:=R.ev;have hg:s.heap.Ns env.globals C.mg:=by rw [R.ev.glob];exact R.bs.g
 have hb:s.heap.Ns env.builtins C.mb:=by rw [R.ev.wV];exact R.bs.b
 clear R z;obtain ⟨hh,g,dd,t,os⟩:=s;refine ks_wpAt_super_base (env:=env) F.ks F.kc hat F.fu (X _ _ f1) f2 f3 c1 (X _ _ c2) c3 c4 c5 F.top ?_;refine ks_loadName_global ev.kind F.ks (Calls.loadGlobal_builtin (mg:=C.mg) (mb:=C.mb) hg F.mg hb F.mb ⟨rfl,?_⟩);refine wpAny_loadName_free ev.kind F.kc l1 ⟨_,X _ _ l2,l3⟩ ?_;refine cu ev.kind hk hn e1 ?_;refine ks_wpAny_isType_cls (X _ _ d1) d2 ⟨rfl,?_⟩;refine ks_wpAny_call_super (X _ _ d1) d2 e rfl (fun c e=>?_) (looks_mroIn X hsub) (fun h' e k=>q h' e k);cases sq <;> exact (nomatch e)
end
end Mine
end
section
open PySem PySem.W PySem.Calls PyProof.Rows
namespace Mine
structure C6 (TD gid T:String) (B:Builtin):Prop where
 slot:Slot TD "__get__" gid
 entry:entryFor table gid=some B
 args:∀ a b c,argsOk gid ⟨[a,b,c],[]⟩
 bd:T = "method-wrapper" \/ T = "builtin_function_or_method"
theorem z7:C6 "wrapper_descriptor" "wrapper_descriptor.__get__" "method-wrapper" Builtin.«wrapper_descriptor.__get__»:=⟨qv,pU,q3,.inl rfl⟩
section
variable {C:Cx} (ok:C.Ok) {n:Nat} {env:Env} {S:St}
include ok
theorem qs {f Dc x c d:Addr} {me name:Str} {kv:Option (Str×AV)} {sq:Option (List (Str×Str))} {i TD gid T:String} {B B2:Builtin} {l:List Value} {cd:ClassData} {body:List Stmt} {p0 p1 apos pos:Pos} {pl:Sem Bool} {P:AV->St->Prop} (F:Al C env f Dc me) (de:C6 TD gid T B)
  (hn:(name == ("__class__" : Str))=false) (hme:S.μ.lookup me=some (.raw (.ref x))) (hk:env.kindOf me=some .local) (hx:(x,AO.obj c d kv sq) ∈ S.M) (hsub:mroIn C.K c (.ref Dc)=some true) (hlist:subIn C.K (.ref c) (.type "list")=some true)
  (hop:nsIn C.K cStatics "thirdparty.any" = some none) (hcd:clsIn C.K c=some cd) (hl:(cd.mro.dropWhile (· != .ref Dc)).drop 1=l) (hf:alongIn C.K name l=some (some (.builtin i))) (hTf:typeOf (.builtin i)=pure (.type TD))
  (hget:∀ {M:Model} {A':Around} {E':Value->Shared->Prop} {s:Shared} {P:Fin->Shared->Prop},Looks M s.heap (isInstance (.ref x) (.type "list")) true->P (.done (.ret (.ref s.heap.objs.size))) { s with heap:=s.heap.push (fZ T i x) }->wpAny M A' (B ⟨[.builtin i,.ref x,.ref c],[]⟩) P E' s)
  (hchk:∀ {M:Model} {A':Around} {s:Shared} {Q':Unit->Shared->Prop} {E':Value->Shared->Prop},C.K.In s.heap->(∃ ob,s.heap.get? x=some ob/\ob.cls = .ref c/\notCls ob=true)->Q' () s->wpAny M A' (checkBoundCall i ⟨[.ref x],[]⟩) Q' E' s) (hqu:(Code.builtin i ⟨[.ref x],[]⟩).quiet=true) (hent:entryFor table i=some B2)
  (hrun:∀ A' Y D dZ ee (Q':Value->Shared->Prop),Rel C Y dZ D env S ee->(∀ v d8 av eG,P av eG->Rel C Y dZ D env eG d8->Kp C Y env S ee eG d8->VR d8.heap (Xo C Y env eG) v av->Q' v d8) ->
   wpAny (model C.prog C.w) A' (B2 ⟨[.ref x],[]⟩) (fun fin s'=>match fin with | .done (.ret v)=>Q' v s' | _=>False) (fun _ _=>False) ee)
  (he:eval (.Call (.Attribute (.Call (.Name "super" p0) [] [] p1) name apos) [] [] pos) env=(do
   let ov <- attributeBase (.Call (.Name "super" p0) [] [] p1) name env (eval (.Call (.Name "super" p0) [] [] p1) env)
   standAt apos.atName
   let (f,first) <- holding [ov] (getMethod ov name pl)
   callWith pos f first (backTo pos (starEach [] env)) []):=by rfl) {A:Around} {Y D:List Addr} {dZ s:Shared} {Q:Value->Shared->Prop} (R:Rel C Y dZ D env S s) (q:∀ v d8 av eG,P av eG->Rel C Y dZ D env eG d8->Kp C Y env S s eG d8->VR d8.heap (Xo C Y env eG) v av->Q v d8) :
  _root_.PySem.wpAt (model C.prog C.w) A (.func body env) (eval (.Call (.Attribute (.Call (.Name "super" p0) [] [] p1) name apos) [] [] pos) env) Q No s:=by
 refine ks_wpAt_MethodCall (pl:=pl) ?_ he;refine uD F R hn hme hk hx hsub fun h' e1 k1=>?_;have d9:Rel C Y dZ D env S { s with heap:=h' }:=R.go ok ⟨.of_keeps k1,rfl,rfl,id⟩
 have eE:Kp C Y env S s S { s with heap:=h' }:=Kp.go R ⟨.of_keeps k1,rfl,rfl,id⟩
 have o:=d9.ob _ hx;have hI:=vG (M:=model C.prog C.w) d9.bs.K o hlist;have X:=d9.bs.K;have hxc:x≠c:=by
  rintro rfl;refine o0_2 o fun z1 _=>?_;clear o;refine o2_4 z1 fun vs k e _=>?_;clear z1;unfold clsIn at hcd;split at hcd
  ·rename_i oc od cd' sl ho;have e2:=X _ _ ho;rw [e] at e2;cases sq <;> cases e2
  ·cases hcd
 obtain ⟨hp,g,dd,t,os⟩:=s;refine nQ (h:=h') (t:=t) (l₀:=cd.mro) e1 (looks_opaque X hop) ?_ hl X hf hTf de.slot de.entry de.args (fun P h=>hget (s:=⟨h',g,dd,t+1,os⟩) hI h) hxc hn ?_
 ·exact fun A Q E s k q=>ah ((looks_clsIn X hcd) A _ E s k (ak q))
 have k2:∀ b o,h'.get? b=some o->(h'.push (fZ T i x)).get? b=some o:=fun b o e=>aA _ e;have st2:fC C.T [] ⟨h',g,dd,t,os⟩ ⟨h'.push (fZ T i x),g,dd,t+1,os⟩:=⟨.of_keeps k2,rfl,rfl,id⟩;have eB:Rel C Y dZ D env S ⟨h'.push (fZ T i x),g,dd,t+1,os⟩:=d9.go ok st2;have eN:=eE.trans (Kp.go d9 st2);have eb:(h'.push (fZ T i x)).get? h'.objs.size=some (fZ T i x):=Heap.get?_push_at rfl rfl;refine callWith_of rfl (qI (b:=h'.objs.size) (i:=i) (x:=x) de.bd) (evalArgs_nil3 ⟨eb,?_⟩);refine dF (t8 (vs:=[]) eb de.bd (fun q=>hchk eB.bs.K (by obtain ⟨⟨vs,k,e,_⟩,_⟩:=eB.ob _ hx;exact ⟨_,e,rfl,by cases sq <;> rfl⟩) q) hqu (codeAny_builtin hent ?_))
 refine bx (hrun _ Y D dZ _ Q eB fun v ez av fk p eV fG r=>q v ez av fk p eV (eN.trans fG) r) (fun fin s' z=>?_) fun _ _ z=>z.elim;rcases fin with (v | _ | _ | _) | _ <;> first | exact z | exact z.elim
end
end Mine
end
section
open PySem PySem.W PySem.Calls PyProof.Rows
set_option tactic.hygienic false
namespace Mine
section
variable {C:Cx} (ok:C.Ok) {n:Nat} {env:Env} {S:St}
include ok
end
end Mine
namespace Mine
section
variable {C:Cx} (ok:C.Ok) {n:Nat} {env:Env} {S:St}
include ok
theorem xZ {i:Nat} {x c d:Addr} {kv:Option (Str×AV)} {l:List (Str×Str)} (hM:S.M[i]? = some (x,AO.obj c d kv (some l))) (hz:l.length<=sizeLine) {P:AV->St->Prop} (h:P .none ⟨S.μ,S.M.set i (x,.obj c d kv (some []))⟩):∀ A' Y D dZ ee (Q':Value->Shared->Prop),Rel C Y dZ D env S ee->(∀ v d8 av eG,P av eG->Rel C Y dZ D env eG d8->Kp C Y env S ee eG d8->VR d8.heap (Xo C Y env eG) v av->Q' v d8) ->
   wpAny (model C.prog C.w) A' (Builtin.«list.__init__» ⟨[.ref x],[]⟩) (fun fin s'=>match fin with | .done (.ret v)=>Q' v s' | _=>False) (fun _ _=>False) ee:=fun A' Y D dZ ee Q' R q=>by
 refine o0_2 (R.ob _ (eu hM)) fun z1 _=>?_;refine o2_4 z1 fun vs k e hl=>?_;clear z1;have hlen:vs.toArray.size=l.length:=by rw [aK,(hl l rfl).length,az]
 refine o0_2 (Rel.rJ ok R hM e (fun _=>#[]) (ws:=[]) (l':=[]) rfl .nil) fun R' K'=>?_;have fin:=q .none _ _ _ h R' K' .none;show wpAny _ _ (do let old <- Builtin.List.listItems (.ref x);Builtin.List.listUpdate (.ref x) fun _=>#[];letGo old.toList.reverse;ret .none) _ _ _
 refine ah (wpAny_listItems e rfl ?_);refine ah (wpAny_updateSeq e rfl (hz:=by rw [hlen];exact hz) (_hz':=by simp) ?_)
 refine ah (wpAny_letGo (ak fin))
end
end Mine
end
section
open PySem PySem.W PySem.Calls PyProof.Rows Builtin Builtin.ObjectAttr Builtin.Getset_descriptor
set_option tactic.hygienic false
namespace Mine
theorem qz (self:Value):refuseLoop self "__setattr__" [.type "list", .type "object"]=pure ():=by
 first
 | kernel_rfl
 | (unfold refuseLoop;simp;exact PySem.F.store_object.passes self)
structure nK (K:Frag) (c:Addr):Prop where
 set:findIn K (.ref c) "__setattr__" = some (some (.builtin "object.__setattr__"))
 over:∃ cd,clsIn K c=some cd/\cd.mro.isEmpty=false/\cd.mro.contains (.type "object")=true/\∀ self,refuseLoop self "__setattr__" cd.mro=pure ()
 dict:(clsIn K c).any (·.hasDict)=true
theorem pn {prog:Program} {w:World} {A:Around} {s:Shared} {K:Frag} {x c:Addr} {R:Result->Shared->Prop} {ox:Obj} {od:Option Obj} {name:Str} {tk:Tok} {v:Value} {r:Option Value} (X:K.In s.heap) (I:InstAt s.heap x ox c od) (T:nK K c) (ht:takerIn K c name=some r)
  (h:∀ b,wpAny (model prog w) A.in1 (match r with | some a=>setByDescriptor a (.ref x) v | none=>storeInOwnDict (.ref x) (.ref c) (.str name tk) name v b)
   (fun fin s'=>match fin with | .done f=>R (.ok f) s' | .again c'=>c'.quiet=true/\codeAny (model prog w) A c' R s') (fun e s'=>R (.error e) s') s) :
  codeAny (model prog w) A (.call (.builtin "object.__setattr__") ⟨[.ref x,.str name tk,v],[]⟩) R s:=by
 have SF:=PySem.F.store_object;refine o1_5 T.over fun cd hc ne hco href=>?_;have sub:Looks (model prog w) s.heap (isInstance (.ref x) (.type "object")) true:=I.type.andThen (looks_mroIn X (by unfold mroIn;rw [hc,Option.bind_some,aq (by rw [ne];decide),hco]))
 refine codeAny_call_builtin SF.slot.plain SF.entry (@check_slot (model prog w) _ _ s "object.__setattr__" "object" "__setattr__" (.ref x) [.str name tk,v] [] _ SF.kind SF.split sub (SF.args (.ref x) (.str name tk) v) ?_)
 refine o1_3 (Option.bind_eq_some_iff.mp ht) fun attr ha hr=>?_;have hm:Looks (model prog w) s.heap (mroOf (.ref c)) cd.mro:=(looks_clsIn X hc).andThen .now;have L3:Looks (model prog w) s.heap (storeTaker? attr) r:=by
  cases attr with
  | none=>cases hr;exact .now
  | some a =>
    refine o1_3 (aS.mp hr) fun b hb rf2=>?_;subst rf2;refine (looks_takesIn X hb).andThen ?_;cases b <;> exact .now
 rw [osa_eq,refuse_eq];refine ah (ah (I.type.here (ah (hm.here ?_))));rw [href];refine ak (ah (I.type.here (ah ((cA X ha).here (ah (L3.here ?_))))));exact h _
end Mine
end
section
open PySem PySem.W PySem.Calls PyProof.Rows
set_option tactic.hygienic false
namespace Mine
section
variable {C:Cx} (ok:C.Ok) {n:Nat} {env:Env} {S:St}
include ok
theorem oZ {A:Around} {s:Shared} {x c d:Addr} {ox:Obj} {name:Str} {v:Value} {Q:Unit->Shared->Prop} (K:C.K.In s.heap) (T:nK C.K c) (hx:s.heap.get? x=some ox) (hcl:ox.cls = .ref c) (hno:notCls ox=true) (hd:ox.dict=some d)
  (hn:s.heap.get? d=some ⟨.type "dict", none,.dict #[] 0,#[]⟩) (ht:takerIn C.K c name=some none)
  (h:∀ h' hs t ep tk,h'.get? d=some ⟨.type "dict", none,.dict #[⟨hs,.str name t,v⟩] ep,#[]⟩->Heap.SameBut d s.heap h'->Q () { s with heap:=h',toks:=tk }):wpAny (model C.prog C.w) A (setAttr (.ref x) name v) Q No s:=by
 have I:InstAt s.heap x ox c (some ⟨.type "dict", none,.dict #[] 0,#[]⟩):=⟨hx,hcl,hno,by rw [hd];exact hn⟩
 refine set_plain K I T.set (pn (s:={ s with toks:=s.toks+1 }) K I T ht fun b=>?_)
 refine o1_3 (any_some T.dict) fun cd hc hd'=>?_;obtain ⟨oc,odi,oda,osl⟩:=ox;dsimp only at hcl hd;subst hcl hd;refine ah (ak (ah (ah (cQ hx (ah ((looks_clsIn (show C.K.In ({ s with toks:=s.toks+1 }:Shared).heap from K) hc).here ?_))))))
 rw [hd'];refine ak (a:=some d) (ah (ak (ah ?_)));unfold nsSet;refine ah (ah (wpAny_askSetting (ak (ah (wpAny_mkText (ah (cQ hn ?_)))))));dsimp only;have eA:aRefKeyMayBeTheName name #[]=false:=by first | rfl | (rw [aRefKeyMayBeTheName_at];rfl)
 rw [eA];refine wpAny_updatePart hn ?_;have eP:∀ H Kk,Obj.putName name H Kk v ⟨.type "dict", none,.dict #[] 0,#[]⟩=⟨.type "dict", none,.dict #[⟨H,Kk,v⟩] 1,#[]⟩:=fun H Kk=>by simp [Obj.putName_eq,Obj.putNameByArray]
 have D':=fun H Kk=>cW (h:=s.heap) (a:=d) (Obj.putName name H Kk v) hn (by rw [eP];rfl)
 refine ah (wpAny_lookBehind (D' _ _) (by rw [eP];exact pastItsLine_dict (by show 1<=sizeLine+1;unfold sizeLine;lia)) ?_)
 refine ak ?_;exact h _ _ _ _ _ (by rw [<- eP];exact D' _ _) (b9 ..)
theorem rq {i:Nat} {a c d:Addr} {sq:Option (List (Str×Str))} {o value:Expr} {attr:Str} {pos' pos:Pos} {av:AV} {P:AF->St->Prop} (T:nK C.K c) (ht:takerIn C.K c attr=some none)
  (hM:S.M[i]? = some (a,.obj c d none sq)) (hv:PE C n env S value av) (ho:PE C n env S o (.raw (.ref a))) (h:P .next ⟨S.μ,S.M.set i (a,.obj c d (some (attr,av)) sq)⟩)
  (hs:swapsWith value (some (.Attribute o attr pos')) pos.line env=pure false:=by rfl):E1 C n env S (.Assign [.Attribute o attr pos'] value pos) P :=
 fun A Y dZ D s Q ha R q=>plainObj_wpAny_Assign_Attribute (hs:=hs) (G.at hv ha R fun v ee d9 eE fy=>by
  refine G.at ho ha d9 fun ov d8 eB eN fz=>?_;refine VR.fM fz ?_;refine o0_2 (eB.ob _ (eu hM)) fun z1 hdict=>?_;refine o2_4 z1 fun vs k e hsq=>?_;clear z1;have hdX:d ∈ fa env++fj S.M:=aa _ (eU (eu hM) (by simp [foot,AO.more]))
  have hda:d≠a:=by
   have nd:=(aJ.mp eB.nd).2.1;intro q;have hf:(foot (a,AO.obj c d none sq)).Nodup:=by
    unfold fj at nd;exact fV nd (eu hM)
   simp [foot,AO.more] at hf;exact hf q.symm
  refine oZ ok eB.bs.K T e rfl (by cases sq <;> rfl) rfl hdict ht fun h' hs t ep tk hd' hb=>?_
  have hT:d ∉ C.T:=eB.tn (by rw [<- aH];exact af _ hdX)
  have st:fC C.T [d] d8 { d8 with heap:=h',toks:=tk }:=⟨.sameBut hb hT,rfl,rfl,id⟩
  have rv:VR h' (Xo C Y env S) v av:=(eN _ _ fy).stp st.heap (eB.inX hdX) eB.hT;refine o0_2 (eB.kJ ok (s':={ d8 with heap:=h',toks:=tk }) (o':=.obj c d (some (attr,av)) sq) hM rfl (by simp [foot,AO.more]:d ∈ foot (a,AO.obj c d none sq)) st ⟨_,hd'⟩
   ⟨⟨vs,k,(hb.2 a hda.symm).trans e,fun l el=>VRs.stp st.heap (eB.inX hdX) eB.hT (hsq l el)⟩,hs,t,ep,v,hd',rv⟩) fun eV fG=>?_
  exact q _ _ _ _ h eV ((eE.trans eN).trans fG) .next)
end
end Mine
end
section
open PySem PySem.W PySem.Calls PyProof.Rows Builtin Builtin.ObjectAttr Builtin.Getset_descriptor
set_option tactic.hygienic false
namespace Mine
noncomputable abbrev l5 (C dx:Addr):Obj:={ cls:=.ref C,dict:=some dx,data:=.seq #[] }
structure wL (M:Model) (h:Heap) (C:Addr):Prop where
 obj:∃ oc od cd sl,h.get? C=some ⟨oc,od,.cls cd,sl⟩/\cd.abstract=false/\cd.hasDel=false/\cd.mro.isEmpty=false
 made:Looks M h (Bind.madeBy (.ref C)) (some "list.__new__")
 base:Looks M h (Bind.staticBase (.ref C)) (.ref C)
 self:Looks M h (isSubtype (.ref C) (.ref C)) true
 top:Looks M h (isSubtype (.ref C) (.type "list")) true
 call:Looks M h (specialOf (.ref C) "__call__") (some (.builtin "type.__call__"))
 typ:Looks M h (isInstance (.ref C) (.type "type")) true
section
variable {prog:Program} {w:World} {A:Around} {K:Frag} {C:Addr} {R:Result->Shared->Prop} {h:Heap} {g:Array GenState} {d:Drawn} {t:Nat} {os:OsState}
theorem Ck {rest:List Value} (Y:wL (model prog w) h C) (harg:argsOk "list.__new__" ⟨.ref C::rest,[]⟩)
  (hq:R (.ok (.ret (.ref (h.objs.size+1)))) ⟨(h.push emptyDict).push (l5 C h.objs.size),g,d,t,os⟩) :
  codeAny (model prog w) A (.call (.builtin "list.__new__") ⟨.ref C::rest,[]⟩) R ⟨h,g,d,t,os⟩:=by
 obtain ⟨z1,made,base,self,top,call,typ⟩:=Y;refine o4_8 z1 fun oc od cd sl hC e1 e2 e4=>?_;clear z1;refine codeAny_call_builtin_code (plainId_quiet F.plain_list_new _) ?_;have hk:builtinKind "list.__new__" = some .builtinFn:=by decide +kernel
 have hs:splitId "list.__new__" = some ("list", "__new__"):=by decide +kernel
 simp only [checkBuiltinCall,hk,hs];have isT:Looks (model prog w) h (isType (.ref C)) true:=(Looks.ld hC).andThen .now
 repeat (first | simp only [bne_self_eq_false,bu,cg] | lk)
 refine codeAny_builtin_stack F.entry_list_new rfl fun p st=>?_;rw [Around.under_plainId F.plain_list_new _];have hown:=owner_list_new;simp only [hown];refine ah (isT.at ?_);simp only [Bool.not_true,bu,cg];refine ah (top.at ?_);simp only [Bool.not_true,bu,cg];show wpAny _ _ (newDict >>= _) _ _ _;refine ah (cE ?_ (by size_fits))
 dsimp only;refine ah ?_;unfold newObj;dsimp only;rw [aq (by simp)]
 show wpAny _ _ (newObjAsIs _ _ _) _ _ _;unfold newObjAsIs classHasDel;refine ah (wpAny_alloc (ah (ah (wpAny_load (aA _ (aA _ hC)) (ak ?_)))));rw [e2];refine ak (ak ?_);show R _ _;rw [Heap.size_push];exact hq
end
end Mine
end
section
open PySem PySem.W PySem.Calls PyProof.Rows Builtin
set_option tactic.hygienic false
namespace Mine
section
variable {prog:Program} {w:World} {A:Around} {C:Addr} {R:Result->Shared->Prop} {h:Heap} {g:Array GenState} {d:Drawn} {t:Nat} {os:OsState}
theorem A9 {rest:List Value} {init:Value} (Y:wL (model prog w) h C) (harg:argsOk "list.__new__" ⟨.ref C::rest,[]⟩) (hi:Looks (model prog w) h (typeLookup (.ref C) "__init__") (some init))
  (hb:∀ self,Looks (model prog w) h (bindSpecial init self) (init,[self]))
  (hq:codeAny (model prog w) (A.under (.builtin "type.__call__" ⟨.ref C::rest,[]⟩)) (.call init ⟨.ref (h.objs.size+1)::rest,[]⟩) (InitBack (h.objs.size+1) R) ⟨(h.push emptyDict).push (l5 C h.objs.size),g,d,t,os⟩) :
  codeAny (model prog w) A (.call (.ref C) ⟨rest,[]⟩) R ⟨h,g,d,t,os⟩:=by
 have Y':=Y;obtain ⟨z1,made,base,self,top,call,typ⟩:=Y;refine o4_8 z1 fun oc od cd sl hC e1 e2 e4=>?_;clear z1;refine codeAny_of_tree ?_;show wpAny _ _ (callAny (.ref C) _) _ _ _;refine nd_load hC ?_;show wpAny _ _ (callAny.viaDunder (.ref C) _) _ _ _;unfold callAny.viaDunder;refine ah (call.at ?_);dsimp only;rw [tc_bind];refine ah (ak (ah (ak ?_)));refine ak (a:=Fin.again (.call (.builtin "type.__call__") ⟨.ref C::rest,[]⟩)) (And.intro rfl ?_)
 refine codeAny_call_builtin_at (Code.quiet_builtin _ (by decide +kernel)) entry_typeCall (check_slot tc_kind tc_split typ (tc_args _ _ _) ?_)
 unfold Builtin.«type.__call__»;have hm:Looks (model prog w) h (mroOf (.ref C)) cd.mro:=((Looks.ld (part:=none) hC).andThen .now).andThen .now
 repeat (first | simp only [e4,bu,cg] | with_reducible refine dF ?_ | lk)
 refine Ck Y' harg ?_;have k:∀ b o,h.get? b=some o->((h.push emptyDict).push (l5 C h.objs.size)).get? b=some o:=fun b o e=>aA _ (aA _ e);have hx:((h.push emptyDict).push (l5 C h.objs.size)).get? (h.objs.size+1)=some (l5 C h.objs.size):=by heap_get
 have t1:Looks (model prog w) ((h.push emptyDict).push (l5 C h.objs.size)) (typeOf (.ref (h.objs.size+1))) (.ref C):=(Looks.ld hx).andThen .now;have s1:=self.keeps k;have i1:=hi.keeps k;have b1:=(hb (.ref (h.objs.size+1))).keeps k;unfold isInstance callSpecial? specialOf
 repeat (first | with_reducible refine dF ?_ | lk)
 refine codeAny_mono hq fun r s' z=>?_;rcases r with e | (v | _ | _ | _) <;> first | exact z | exact z.elim | skip
 obtain ⟨rfl,z⟩:=z;exact ak (ak z)
end
end Mine
end
section
open PySem PySem.W PySem.Calls PyProof.Rows
set_option tactic.hygienic false
namespace Mine
structure oK (K:Frag) (c:Addr):Prop where
 obj:∃ oc od cd sl,K.lookup c=some ⟨oc,od,.cls cd,sl⟩/\cd.abstract=false/\cd.hasDel=false/\cd.mro.isEmpty=false/\(sl.toList[4]?).join=some (.builtin "list.__new__")
 self:mroIn K c (.ref c)=some true
 top:mroIn K c (.type "list")=some true
 call:specialIn K (.ref c) "__call__" = some (some (.builtin "type.__call__"))
 typ:instIn K (.ref c) (.type "type")=some true
theorem vf {K:Frag} {M:Model} {h:Heap} {C:Addr} (X:K.In h) (m:oK K C):wL M h C:=by
 obtain ⟨z1,m1,m2,m3,m4⟩:=m;refine o4_9 z1 fun oc od cd sl ho e1 e2 e4 e3=>?_;clear z1;have hc:clsIn K C=some cd:=by unfold clsIn;rw [ho]
 have hm:Looks M h (mroOf (.ref C)) cd.mro:=(looks_clsIn X hc).andThen .now;obtain ⟨c,l,hl⟩:∃ c l,cd.mro=c::l:=by cases q:cd.mro with | nil=>rw [q] at e4;cases e4 | cons c l=>exact ⟨c,l,rfl⟩
 have made:Looks M h (Bind.madeBy (.ref C)) (some "list.__new__"):=by
  intro A Q E s k q;unfold Bind.madeBy;refine ah (hm A _ E s k ?_);rw [hl,dw];refine ah (ah (ah (ah (cQ (k _ _ (X _ _ ho)) (ak ?_)))));dsimp only;rw [<- Array.getElem?_toList,e3];exact ak (ak (ak q))
 refine ⟨⟨oc,od,cd,sl,X _ _ ho,e1,e2,e4⟩,made,?_,looks_mroIn X m1,looks_mroIn X m2,looks_specialIn X m3,looks_instIn X m4⟩;intro A Q E s k q;unfold Bind.staticBase;refine ah (hm A _ E s k ?_);rw [hl,dw];exact ah (ah (ah (made A _ E s k (ak (ak (ak q))))))
section
variable {C:Cx} (ok:C.Ok) {n:Nat} {M:List (Addr×AO)} {args:List AV}
include ok
theorem yd {c fI:Addr} {P:AV->List (Addr×AO)->Prop} (hm:oK C.K c) (harg:∀ vs:List Value,vs.length=args.length->argsOk "list.__new__" ⟨.ref c::vs,[]⟩) (hi:findIn C.K (.ref c) "__init__" = some (some (.ref fI))) (hf:typeIn C.K (.ref fI)=some (.type "function"))
  (h:∀ x d,FC C n fI (M++[(x,.obj c d none (some []))]) (.raw (.ref x)::args) fun av M'=>av = .none/\P (.raw (.ref x)) M'):FC C (n+1) c M args P:=by
 intro env μ A Y dZ D s vs Q ha R rv q;obtain ⟨hh,g,d,t,os⟩:=s;refine A9 (vf R.bs.K hm) (harg vs rv.length) (cA R.bs.K hi) (fun self=>bind_fn R.bs.K self hf) ?_;have hA:AOk n (A.under (.builtin "type.__call__" ⟨.ref c::vs,[]⟩)):=⟨ha.1,by have:=ha.2;show A.depth+1+n<900;lia,by have:=ha.3;show A.units+1+8 * n<9000;lia⟩
 have kk:∀ b o,hh.get? b=some o->((hh.push emptyDict).push (l5 c hh.objs.size)).get? b=some o:=fun b o e=>aA _ (aA _ e);have ex:((hh.push emptyDict).push (l5 c hh.objs.size)).get? (hh.objs.size+1)=some (l5 c hh.objs.size):=by heap_get
 have ed:((hh.push emptyDict).push (l5 c hh.objs.size)).get? hh.objs.size=some emptyDict:=by heap_get
 have no:∀ k,hh.get? (hh.objs.size+k)=none:=fun k=>by
  cases e:hh.get? (hh.objs.size+k) with
  | none=>rfl
  | some o=>exact absurd (bH e) (Nat.not_lt.mpr (Nat.le_add_right _ _))
 refine o0_2 (R.newObj ok (a:=hh.objs.size+1) (o:=.obj c hh.objs.size none (some [])) (s':=⟨(hh.push emptyDict).push (l5 c hh.objs.size),g,d,t,os⟩)
  (fun b hb=>by
   have hb':b=hh.objs.size+1\/b=hh.objs.size:=by simpa [foot,AO.more] using hb
   rcases hb' with rfl | rfl
   ·exact ⟨no 1,_,ex⟩
   ·exact ⟨no 0,_,ed⟩)
  (by simp [foot,AO.more]) ⟨.of_keeps kk,rfl,rfl,id⟩ ⟨⟨[],0,ex,fun l e=>by cases e;exact .nil⟩,ed⟩) fun d9 eE=>?_
 refine h _ _ env μ _ Y dZ D _ _ _ hA d9 (.cons (.raw _) (eE.all rv)) fun v s' av S' p R' K' r=>?_;refine o0_3 p fun hμ rf1 hP=>?_;clear p;subst rf1;refine VR.mu r ?_;exact ⟨rfl,q _ _ _ _ ⟨hμ,hP⟩ R' (eE.trans K') (.raw _)⟩
end
end Mine
namespace Mine
end Mine
namespace Mine
section
variable {C:Cx} (ok:C.Ok) {n:Nat} {env:Env} {S:St}
include ok
end
end Mine
namespace Mine
structure uc (K:Frag) (c:Addr):Prop where
 sub:subIn K (.ref c) (.type "list")=some true
 get:findIn K (.ref c) "__getitem__" = some (some (.builtin "list.__getitem__"))
 set:findIn K (.ref c) "__setitem__" = some (some (.builtin "list.__setitem__"))
 iter:findIn K (.ref c) "__iter__" = some (some (.builtin "list.__iter__"))
 noq:noSeq K c=true
theorem vz:builtinKind "list.__getitem__" = some .method\/builtinKind "list.__getitem__" = some .slot:=.inl (by decide +kernel)
theorem vt:builtinKind "list.__setitem__" = some .method\/builtinKind "list.__setitem__" = some .slot:=.inr (by decide +kernel)
theorem Bo:builtinKind "list.__iter__" = some .method\/builtinKind "list.__iter__" = some .slot:=.inr (by decide +kernel)
theorem uW:splitId "list.__getitem__" = some ("list", "__getitem__"):=by decide +kernel
theorem uV:splitId "list.__setitem__" = some ("list", "__setitem__"):=by decide +kernel
theorem A1:splitId "list.__iter__" = some ("list", "__iter__"):=by decide +kernel
section
variable {prog:Program} {w:World} {A:Around} {E:Value->Shared->Prop} {s:Shared} {K:Frag} {x c:Addr} {ox:Obj} {od:Option Obj}
theorem Bm (X:K.In s.heap) (L:uc K c) (I:InstAt s.heap x ox c od) (M:Model):Looks M s.heap (isInstance (.ref x) (.type "list")) true:=I.type.andThen (looks_subIn X L.sub)
theorem sf {id n:String} {B:Builtin} {args:List Value} {Q:Value->Shared->Prop} (X:K.In s.heap) (L:uc K c) (I:InstAt s.heap x ox c od)
  (hk:builtinKind id=some .method\/builtinKind id=some .slot) (hsp:splitId id=some ("list", n)) (hp:plainId id=true) (he:entryFor table id=some B) (ha:argsOk id ⟨.ref x::args,[]⟩)
  (h:wpAny (model prog w) A.in1 (B ⟨.ref x::args,[]⟩) (fun fin s'=>match fin with | .done (.ret v)=>Q v s' | _=>False) E s) :
  wpAny (model prog w) A (call (.builtin id) (.ref x::args)) Q E s:=by
 refine dF (codeAny_call_builtin_at (plainId_quiet hp _) he (nI hk hsp (Bm X L I _) ha ?_));rw [Around.under_plainId hp];refine bx h (fun fin s' z=>?_) fun _ _ e=>e;cases fin with
 | done f=>cases f <;> first | exact z | exact z.elim
 | again _=>exact z.elim
theorem sj {k:Value} {name:Str} {Q:Value->Shared->Prop} (X:K.In s.heap) (L:uc K c) (I:InstAt s.heap x ox c od) (h:Q k s):wpAny (model prog w) A (sequenceKey (.ref x) k name) Q E s:=by
 unfold sequenceKey;refine ah (I.type.here ?_);refine ah ((anyM_none X L.noq).here ?_);rw [ay (show (!false)=true from rfl)];exact ak h
theorem vp {sl:Addr} {vl vu vs:Value} {lo hi st:Option Int} {M:Model} {Q:Value×Value×Value->Shared->Prop} (hs:s.heap.IsSliceOf sl vl vu vs) (pl:IsPart vl lo) (pu:IsPart vu hi) (ps:IsPart vs st) (h0:st≠some 0)
  (h:Q (rawPart lo,rawPart hi,rawPart st) s):wpAny M A (Builtin.List.listSliceParts (.ref sl)) Q E s:=by
 refine o1_4 (id hs) fun os hos hcs hds=>?_;rw [listSliceParts_eq];have hstep : ¬ ((rawPart st == rawInt 0)=true):=by
  cases st with
  | none=>exact b7
  | some c =>
    intro hh;have:c=0:=by simpa [rawPart,rawInt] using hh
    exact h0 (by rw [this])
 refine ah (dg hos hds (x:=vs) rfl (ah (wpAny_listPart ps ?_)));rw [aq hstep];refine ah (dg hos hds (x:=vl) rfl (ah (wpAny_listPart pl ?_)));exact ah (dg hos hds (x:=vu) rfl (ah (wpAny_listPart pu (ak h))))
theorem iH {sl:Addr} {vl vu vs:Value} {M:Model} {Q:Option Int->Shared->Prop} (hs:s.heap.IsSliceOf sl vl vu vs) (h:Q none s):wpAny M A (Builtin.List.listSubscript? (.ref sl)) Q E s:=by
 refine o1_4 (id hs) fun os hos hcs hds=>?_;have hTs:s.TypeIs (.ref sl) "slice" := ⟨os,hos,hcs⟩
 unfold Builtin.List.listSubscript?;refine ah (wpAny_specialOf hTs slice_no_index ?_);simp only [Option.isNone_none,if_true];exact ak h
theorem lW {sl:Addr} {vl vu vs:Value} {lo hi st:Option Int} {items:Array Value} {n:Nat} {Q:Value->Shared->Prop} (X:K.In s.heap) (L:uc K c) (I:InstAt s.heap x ox c od) (hd:ox.data = .seq items n)
  (hs:s.heap.IsSliceOf sl vl vu vs) (pl:IsPart vl lo) (pu:IsPart vu hi) (ps:IsPart vs st) (h0:st≠some 0)
  (h:Q (.ref s.heap.objs.size) { s with heap:=s.heap.push { cls:=.type "list", data:=.seq (slicePick items lo hi st) } })
  (hsz:items.size<=sizeLine):wpAny (model prog w) A (getItem (.ref x) (.ref sl)) Q E s:=by
 refine o1_4 (id hs) fun os hos hcs hds=>?_;have hTs:s.TypeIs (.ref sl) "slice" := ⟨os,hos,hcs⟩
 unfold getItem;refine bw (ah (sj X L I ?_));refine ah (kfo_special X I L.get slot_list_getitem.bind (sf (n := "__getitem__") X L I vz uW slot_list_getitem.plain entry_list_getitem (args_list_getitem _ _) ?_))
 show wpAny _ _ (Builtin.List.listSubscript? (.ref sl) >>= _) _ _ s;refine ah (iH hs ?_);show wpAny _ _ (typeOf (.ref sl) >>= _) _ _ s;refine ah (wpAny_typeOf hTs ?_);rw [aq (by decide)]
 refine ah (vp hs pl pu ps h0 ?_);refine ah (m:=Builtin.List.listItems (.ref x)) ?_;unfold Builtin.List.listItems;refine ah (wpAny_seqItems I.at_ hd (ak ?_));refine ah (bS (sliceIndices_raw lo hi st items.size h0) ?_);exact ah (cE (ak (ak h)) (bC (slicePick_size_le items lo hi st) hsz))
theorem jh {sl y:Addr} {oy:Obj} {vl vu vs:Value} {lo hi:Option Int} {items new:Array Value} {n m:Nat} {Q:Unit->Shared->Prop} (X:K.In s.heap) (L:uc K c) (I:InstAt s.heap x ox c od) (hd:ox.data = .seq items n)
  (hs:s.heap.IsSliceOf sl vl vu vs) (pl:IsPart vl lo) (pu:IsPart vu hi) (ps:IsPart vs none) (hy:s.heap.get? y=some oy) (hcy:oy.cls = .type "list") (hdy:oy.data = .seq new m) (hxy:x≠y)
  (hlen:items.size+new.size<=1000000)
  (h:Q () { s with heap:=s.heap.update x (Obj.mapSeq fun xs=>xs.extract 0 (sliceBounds lo hi none items.size).1.toNat++new++xs.extract (max (sliceBounds lo hi none items.size).1 (sliceBounds lo hi none items.size).2.1).toNat xs.size) }) :
  wpAny (model prog w) A (setItem (.ref x) (.ref sl) (.ref y)) Q E s:=by
 refine o1_4 (id hs) fun os hos hcs hds=>?_;have hTs:s.TypeIs (.ref sl) "slice" := ⟨os,hos,hcs⟩
 have hTy:s.TypeIs (.ref y) "list" := ⟨oy,hy,hcy⟩
 have sl0:sizeLine=16777216:=by decide
 unfold setItem;refine bw (ah (sj X L I ?_));refine ah (kfo_special X I L.set slot_list_setitem.bind (sf (n := "__setitem__") X L I vt uV slot_list_setitem.plain entry_list_setitem (args_list_setitem _ _ _) ?_))
 show wpAny _ _ (Builtin.List.listSubscript? (.ref sl) >>= _) _ _ s;refine ah (iH hs ?_);show wpAny _ _ (typeOf (.ref sl) >>= _) _ _ s;refine ah (wpAny_typeOf hTs ?_);rw [aq (by decide)]
 refine ah (vp hs pl pu ps (by simp) ?_)
 rw [show Builtin.List.listSameRef (.ref x) (.ref y)=false from aY.mpr hxy];dsimp only;rw [aq (show ¬ (false=true) from b7)];refine ah (m:=Builtin.List.listAllItems (.ref y) _) ?_;unfold Builtin.List.listAllItems;refine ah (wpAny_typeOf hTy ?_);rw [ay (by decide)]
 refine wpAny_listItems hy hdy ?_;refine ah (wpAny_listItems I.at_ hd ?_);refine ah (bS (sliceIndices_raw lo hi none items.size (by simp)) ?_)
 have hstep:(sliceBounds lo hi none items.size).2.2=1:=rfl;rw [ay (by rw [hstep];rfl)]
 refine ah (dc ?_);rw [aq (by unfold Builtin.List.listTooLong;simp;lia)]
 refine ah (wpAny_updateSeq I.at_ hd (hz:=by lia) (_hz':=by simp only [Array.size_append,Array.size_extract];lia) ?_)
 refine ah (wpAny_letGo (ak (ak h)))
theorem xW {Q:Value->Shared->Prop} (X:K.In s.heap) (L:uc K c) (I:InstAt s.heap x ox c od)
  (hQ:Q (.ref s.heap.objs.size) { s with heap:=s.heap.push { cls:=.type "list_iterator", data:=.fields #[.ref x,.int 0 0] } }):wpAny (model prog w) A (pyIter (.ref x)) Q E s:=by
 unfold pyIter;refine ah (ah (I.type.here ((cA X L.iter).here ?_)));show wpAny _ A (callSpecialIfBoundUnlessNone? (.ref x) "__iter__" _ >>= _) Q E s
 have cc:∀ {Q':Value->Shared->Prop},Q' (.ref s.heap.objs.size) { s with heap:=s.heap.push { cls:=.type "list_iterator", data:=.fields #[.ref x,.int 0 0] } }->wpAny (model prog w) A (call (.builtin "list.__iter__") [.ref x]) Q' E s:=fun {Q'} h=>by
  refine sf (n := "__iter__") X L I Bo A1 slot_list_iter.plain entry_list_iter (args_list_iter _) ?_
  show wpAny _ _ (do ret (<- newFields "list_iterator" [.ref x,rawInt 0])) _ _ s
  exact ah (cE (ak h))
 refine ah ?_;simp only [callSpecialIfBoundUnlessNone?,bindSpecialIfBound?];refine bw (ah (ah (ah (I.type.here ((cA X L.iter).here ?_)))));simp only [slot_list_iter.bind];refine ah (wpAny_askSetting (wpAny_ite ?_));have fin2:∀ (R:Option Value->Shared->Prop),R (some (.ref s.heap.objs.size)) { s with heap:=s.heap.push { cls:=.type "list_iterator", data:=.fields #[.ref x,.int 0 0] } }->wpAny (model prog w) A (call (.builtin "list.__iter__") [.ref x] >>= fun v=>pure (some v)) R E s:=fun R h=>ah (cc (ak h))
 have fin3:=fun (R:Option Value->Shared->Prop) (refuse:Sem Value) (h:R (some (.ref s.heap.objs.size)) { s with heap:=s.heap.push { cls:=.type "list_iterator", data:=.fields #[.ref x,.int 0 0] } })=>show wpAny (model prog w) A (if (Value.builtin "list.__iter__" == Value.none)=true then (refuse >>= fun v=>pure (some v)) else (call (.builtin "list.__iter__") [.ref x] >>= fun v=>pure (some v))) R E s from by
  simp only [builtin_beq_none,bu,cg];exact fin2 R h
 split
 ·refine ah (ak (ak (fin3 _ _ ?_)));exact ah (wpAny_specialOf (T := "list_iterator") ⟨_,aI _ rfl,rfl⟩ di.lookup (ak hQ))
 ·refine wpAny_tryCatch (ah (ak (ak (fin3 _ _ ?_))));exact ah (wpAny_specialOf (T := "list_iterator") ⟨_,aI _ rfl,rfl⟩ di.lookup (ak hQ))
theorem Bl {value slice:Expr} {i:Value} {ops:List Value} {Q:Value->Shared->Prop} (X:K.In s.heap) (L:uc K c) (I:InstAt s.heap x ox c od) (hg:wpAny (model prog w) A (getItem (.ref x) i) Q E s)
  (hs:subscripted slice false (.ref x) i=operate ops (getItem (.ref x) i)):wpAny (model prog w) A (subscriptTail value slice (.ref x) i) Q E s:=by
 unfold subscriptTail getitemInPython;refine ah (ah (ah (I.type.here ((cA X L.get).here (ak ?_)))));rw [hs];exact ah (wpAny_operating (bx hg (fun r ez jy=>ah (wpAny_letTemporaryGo (ak jy))) fun _ _ x=>x))
end
end Mine
namespace Mine
theorem lZ {C:Cx} {h:Heap} {X:List Addr} {p c d:Addr} {kv:Option (Str×AV)} {l:List (Str×Str)} (o:OR C h X p (.obj c d kv (some l))) :
  ∃ vs k od,h.get? p=some ⟨.ref c,some d,.seq vs.toArray k,#[]⟩/\InstAt h p ⟨.ref c,some d,.seq vs.toArray k,#[]⟩ c (some od)/\VRs h X vs (l.map gu):=by
 refine o0_2 o fun z1 hd=>?_;clear o;refine o2_4 z1 fun vs k e r=>?_;clear z1;cases kv with
 | none=>exact ⟨vs,k,_,e,⟨e,rfl,rfl,hd⟩,r l rfl⟩
 | some q =>
   obtain ⟨y,a⟩:=q;refine o4_6 hd fun hs tk ep u e2 _=>?_;clear hd;exact ⟨vs,k,_,e,⟨e,rfl,rfl,e2⟩,r l rfl⟩
section
variable {C:Cx} (ok:C.Ok) {n:Nat} {env:Env} {S:St}
include ok
theorem EV.A2 {o lo:Expr} {p c d:Addr} {kv:Option (Str×AV)} {l:List (Str×Str)} {i:Nat} {ps pos:Pos} (L:uc C.K c) (hM:(p,AO.obj c d kv (some l)) ∈ S.M) (ho:PE C n env S o (.raw (.ref p))) (hi:PE C n env S lo (.int i)) (hil:i<=l.length) (hz:l.length<=1000)
  (hs:∀ t u,subscripted (.Slice (some lo) none none ps) false (.ref t) u=operate [u,.ref t] (getItem (.ref t) u):=by intros;with_unfolding_all rfl) :
  PE C n env S (.Subscript o (.Slice (some lo) none none ps) pos) (.lst ((l.drop i).map gu)):=fun A Y dZ D s Q ha R q=>by
 have sl:sizeLine=16777216:=by decide
 refine Subscript_ (G.at ho ha R fun v ee d9 eE fy=>?_);refine VR.fM fy ?_;refine dU ?_;rw [dD];refine G.at hi ha d9 fun v d8 eB eN fz=>?_;refine VR.ff fz fun u=>?_
 ·
  rw [c7];refine ak (ak ?_);have eV:=eB.go ok (fC.alloc C.T d8 { cls:=.type "slice", data:=.fields #[.int i u,.none,.none] })
  refine o3_6 (lZ (eV.ob _ hM)) fun vs kk od e I rs=>?_;have hlen:vs.length=l.length:=by rw [rs.length,az]
  refine Bl eV.bs.K L I (lW eV.bs.K L I rfl (dR ..) (.int _ _) .none .none (by simp) ?_ (by rw [aK];lia)) (hs _ _)
  rw [slicePick_from _ i (by rw [aK];lia)]
  have x:=fC.alloc C.T { d8 with heap:=d8.heap.push { cls:=.type "slice", data:=.fields #[.int i u,.none,.none] } } { cls:=.type "list", data:=.seq (vs.drop i).toArray }
  refine q _ _ _ S ⟨rfl,rfl⟩ (eV.go ok x) ((eE.trans eN).trans (Kp.go eB ((fC.alloc ..).gP x))) (.lst (aI _ rfl) (fun h=>(eV.live h).ne (eH _) rfl) ?_);rw [List.map_drop];exact VRs.stp (Stp.push C.T ..) (fun _ h=>nomatch h) eV.hT ((VRs.drop i rs))
theorem An {o lo value:Expr} {j:Nat} {p c d:Addr} {kv:Option (Str×AV)} {l:List (Str×Str)} {i:Nat} {ps pos' pos:Pos} {P:AF->St->Prop} (L:uc C.K c) (hM:S.M[j]? = some (p,AO.obj c d kv (some l))) (hv:PE C n env S value (.lst [])) (ho:PE C n env S o (.raw (.ref p))) (hi:PE C n env S lo (.int i)) (hil:i<=l.length) (hz:l.length<=1000)
  (h:P .next ⟨S.μ,S.M.set j (p,AO.obj c d kv (some (l.take i)))⟩)
  (hs:swapsWith value (some (.Subscript o (.Slice (some lo) none none ps) pos')) pos.line env=pure false:=by rfl) :
  E1 C n env S (.Assign [.Subscript o (.Slice (some lo) none none ps) pos'] value pos) P:=fun A Y dZ D s Q ha R q=>by
 refine wpAny_Assign_Subscript (hs:=hs) (G.at hv ha R fun v AG gn Am zo=>?_);refine G.at ho ha gn fun v ee d9 eE fy=>?_;refine VR.fM fy ?_;refine dU ?_;rw [dD];refine G.at hi ha d9 fun v d8 eB eN fz=>?_;refine VR.ff fz fun u=>?_
 ·
  rw [c7];refine ak (ak ?_);have xs:=fC.alloc C.T d8 { cls:=.type "slice", data:=.fields #[.int i u,.none,.none] }
  have eV:=eB.go ok xs;have r3:=(eN _ _ (eE _ _ zo)).go xs eB.hT;refine o3_6 (lZ (eV.ob _ (eu hM))) fun vs kk od e I rs=>?_;have hlen:vs.length=l.length:=by rw [rs.length,az]
  refine VR.iL r3 fun y ws m ey ny ry=>?_
  ·
   have hw:ws=[]:=by refine VRs.fN ry ?_;rfl
   subst hw;have hb:sliceBounds (some (i:Int)) none none vs.toArray.size=((i:Int),(vs.length:Int),1):=by
    simp only [sliceBounds,Option.getD_none];have h1 : ¬ ((i:Int)<0):=by lia
    simp only [h1,cg,show (1:Int) > 0 by decide,if_true,aK]
    congr 1;lia
   have hxy:p≠y:=fun e=>ny (fJ.mpr (.inr (.inl (aa _ (eU (eu hM) (e▸aj ..))))));refine jh eV.bs.K L I rfl (dR ..) (.int _ _) .none .none ey rfl rfl hxy (by simp;lia) ?_
   rw [hb];refine o0_2 (Rel.rJ ok eV hM e (fun xs=>xs.extract 0 (i:Int).toNat++([]:List Value).toArray++xs.extract (max (i:Int) (vs.length:Int)).toNat xs.size) (ws:=vs.take i) (l':=l.take i)
    (by
     have hm:(max (i:Int) (vs.length:Int)).toNat=vs.length:=by lia
     rw [hm];apply Array.toList_inj.mp;simp) (by rw [List.map_take];exact VRs.take i rs)) fun gm gK=>?_
   exact q _ _ _ _ h gm (((Am.trans eE).trans eN).trans ((Kp.go eB xs).trans gK)) .next
end
end Mine
namespace Mine
noncomputable def SeqAt (h:Heap) (x:Addr) (items:Array Value):Prop:=∃ o,h.get? x=some o/\∃ n,o.data = .seq items n
section
variable {prog:Program} {w:World} {A:Around} {E:Value->Shared->Prop} {s:Shared}
theorem jc {it l:Addr} {i:Nat} {items:Array Value} {x:Value} {Q:Option Value->Shared->Prop} (hit:s.heap.IsListIter it l i)
  (hl:SeqAt s.heap l items) (hx:items[i]? = some x)
  (hQ:∀ h',h'.IsListIter it l (i+1)->Heap.SameBut it s.heap h'->Q (some x) { s with heap:=h' }) :
  wpAny (model prog w) A (pyNext (.ref it)) Q E s:=by
 refine o1_4 (id hit) fun o ho hc hd=>?_;refine o1_3 hl fun ol hol zz=>?_;refine o1_2 zz fun nl hdl=>?_;clear hl;unfold pyNext;refine ah (wpAny_attempt (wpAny_callSpecial?_slot (name:=Str.ofString "__next__") hit.typeIs di
  (cV di hit.typeIs entry_listiter_next ?_ (args_listiter_next _))))
 show wpAny _ _ (field (.ref it) 0 >>= _) _ _ s;refine ah (dg ho hd (x:=.ref l) rfl ?_);show wpAny _ _ (if (Value.ref l == Value.none)=true then _ else _) _ _ s
 rw [aq (show ¬ ((Value.ref l == Value.none)=true) from b7)];show wpAny _ _ (field (.ref it) 1 >>= _) _ _ s;refine ah (dg ho hd (x:=.int i 0) rfl ?_);show wpAny _ _ (seqItems? (.ref l) >>= _) _ _ s;refine ah (wpAny_seqItems hol hdl ?_);simp only [bL,hx];refine ah (wpAny_setField ho hd (by simp) (ak ⟨x,rfl,ak (hQ _ ?_ (b9 ..))⟩))
 exact ⟨_,cW _ ho (Obj.isFreed_of_fields (Obj.data_mapFields hd _)),(Obj.cls_mapFields ..).trans hc,by
  rw [Obj.data_mapFields hd];simp [rawInt]⟩
theorem jB {it l:Addr} {i:Nat} {items:Array Value} {Q:Option Value->Shared->Prop} (hh:A.handled=none)
  (hit:s.heap.IsListIter it l i) (hl:SeqAt s.heap l items) (hx:items[i]? = none)
  (hQ:∀ h',Heap.ExtBut it s.heap h'->Q none { s with heap:=h' }):wpAny (model prog w) A (pyNext (.ref it)) Q E s:=by
 refine o1_4 (id hit) fun o ho hc hd=>?_;refine o1_3 hl fun ol hol zz=>?_;refine o1_2 zz fun nl hdl=>?_;clear hl;unfold pyNext;refine ah (wpAny_attempt (wpAny_callSpecial?_slot (name:=Str.ofString "__next__") hit.typeIs di
  (cV di hit.typeIs entry_listiter_next ?_ (args_listiter_next _))))
 show wpAny _ _ (field (.ref it) 0 >>= _) _ _ s;refine ah (dg ho hd (x:=.ref l) rfl ?_);show wpAny _ _ (if (Value.ref l == Value.none)=true then _ else _) _ _ s
 rw [aq (show ¬ ((Value.ref l == Value.none)=true) from b7)];show wpAny _ _ (field (.ref it) 1 >>= _) _ _ s;refine ah (dg ho hd (x:=.int i 0) rfl ?_);show wpAny _ _ (seqItems? (.ref l) >>= _) _ _ s;refine ah (wpAny_seqItems hol hdl ?_);simp only [bL,hx];refine ah (dc (ah (wpAny_setField ho hd (by simp) ?_)))
 show wpAny _ _ (newExc (.type "StopIteration") [] >>= _) _ _ _
 refine ah ?_;simp only [newExc,newTuple];refine ah (cE ?_ (by size_fits))
 refine ah (m:=firstArgMember _ _) (bS (a:=Value.none) (by first | rfl | (simp only [firstArgMember];rfl)) ?_)
 refine cE ?_ (by size_fits)
 simp only [raiseNew];refine ah (wpAny_handled ?_);rw [show A.in1.handled=none from hh];refine ah (ak (wpAny_throw ?_));refine ah (wpAny_isInstance (T := "StopIteration") (b:=true) ⟨_,aI _ rfl,rfl⟩ isSubtype_stop ?_)
 exact ak (hQ _ (((b9 ..).extBut.push _).push _))
end
theorem SeqAt.keep {h h':Heap} {x:Addr} {items:Array Value} (a:SeqAt h x items) (k:∀ o,h.get? x=some o->h'.get? x=some o):SeqAt h' x items:=let ⟨o,e,r⟩:=a;⟨o,k o e,r⟩
noncomputable def mL (h:Heap) (v:Value) (q:Str×Str):Prop:=∃ T o n t u,v = .ref T/\h.get? T=some o/\o.cls = .type "tuple" /\ o.data = .seq #[.str q.1 t,.str q.2 u] n
theorem pieceAt {h:Heap} {X:List Addr} {v:Value} {q:Str×Str} (r:VR h X v (gu q)):mL h v q:=by
 refine VR.vA r ?_;clear r;intro _ _ _ e n rs e_0;cases e_0
 ·
  refine VRs.gT rs ?_;clear rs;intro _ _ r1 rs e_0;cases e_0
  ·refine VRs.gT rs ?_;clear rs;intro _ _ r2 rs e_0;cases e_0;(refine VRs.nq rs fun e_0=>?_;subst e_0);(refine VR.iW r1 fun _ e_0=>?_;subst e_0);(refine VR.iW r2 fun _ e_0=>?_;subst e_0);exact ⟨_,_,_,_,_,rfl,e,rfl,rfl⟩
noncomputable def PSt (I ax:Addr) (vs:List Value) (l:List (Str×Str)) (i:Nat) (h:Heap):Prop:=h.IsListIter I ax i/\SeqAt h ax vs.toArray/\∀ (j:Nat) (v:Value) (q:Str×Str),vs[j]? = some v->l[j]? = some q->mL h v q
noncomputable def pPt (l:List (Str×Str)) (i:Nat) (vals:Array Value):Prop:=∃ q t u,l[i]? = some q/\vals = #[.str q.1 t,.str q.2 u]
theorem WalksU.pile {prog:Program} {w:World} {A:Around} (hh:A.handled=none) (I ax:Addr) (hne:ax≠I) (vs:List Value) (l:List (Str×Str)) (hl:vs.length=l.length) (fp:List Addr) (hI:I ∈ fp) (ha:ax ∈ fp)
  (hT:∀ (j:Nat) (T:Addr),vs[j]? = some (.ref T)->T ∈ fp/\T≠I) :
  WalksU prog w A I fp [I] l.length (pPt l) (PSt I ax vs l) (fun i T h=>PSt I ax vs l (i+1) h/\T≠I):=by
 have keepP:∀ {h h':Heap},(∀ b ∈ fp,b≠I->∀ o,h.get? b=some o->h'.get? b=some o)->(∀ (j:Nat) (v:Value) (q:Str×Str),vs[j]? = some v->l[j]? = some q->mL h v q)->∀ (j:Nat) (v:Value) (q:Str×Str),vs[j]? = some v->l[j]? = some q->mL h' v q:=fun k r j v q hv hq=>by
  refine o5_8 (r j v q hv hq) fun T o n t u rf5 e r2=>?_;subst rf5;refine o0_2 (hT j T hv) fun h1 h2=>?_;exact ⟨T,o,n,t,u,rfl,k T h1 h2 o e,r2⟩
 refine ⟨fun b hb=>by simp at hb;rw [hb];exact hI,fun i h h' st k=>⟨st.1.at fun o e=>k I hI o e,st.2.1.keep fun o e=>k ax ha o e,keepP (fun b hb _ o e=>k b hb o e) st.2.2⟩,fun i s Q E hi st hQ=>?_,fun elts k pos i T s Q E hm hQ=>?_,fun i T h hm=>by simp [hm.2],fun s Q E st hQ=>?_,fun _ _ _ _ st hQ=>wpAny_pyIter_listiter st.1 hQ⟩
 ·have hiv:i<vs.length:=by lia
  refine jc st.1 st.2.1 (x:=vs[i]) (by simp [hiv]) fun h' hit' hs'=>?_
  have k:∀ b ∈ fp,b≠I->∀ o,s.heap.get? b=some o->h'.get? b=some o:=fun b _ hb o e=>hs'.extBut b o hb e;have P':=keepP k st.2.2;refine o5_9 (P' i vs[i] l[i] (by simp [hiv]) (by simp [hi])) fun T o n t u e1 e2 e3 e4=>?_
  rw [e1];have hTI:=(hT i T (by rw [<- e1];simp [hiv])).2
  refine hQ T _ h' s.toks ⟨l[i],t,u,by simp [hi],rfl⟩ ⟨o,e2,e3,n,e4⟩ ⟨⟨hit',st.2.1.keep fun o e=>hs'.extBut _ o hne e,P'⟩,hTI⟩ fun b o hb e=>hs'.extBut b o (by simpa using hb) e
 ·refine o0_2 hm fun z1 hTI=>?_;clear hm;refine o0_3 z1 fun hit hsq hp=>?_;clear z1;refine o1_4 (id hit) fun o ho hc hd=>?_;unfold letOwnedTupleGo;refine ah (wpAny_load ho ?_);rw [hc,hd];show wpAny _ A (if (["enumerate", "zip", "dict_itemiterator", "dict_reverseitemiterator", "odict_iterator", "itertools.zip_longest", "itertools.pairwise"].contains "list_iterator" && _)=true then _ else _) Q _ s
  rw [aq (by rw [show (["enumerate", "zip", "dict_itemiterator", "dict_reverseitemiterator", "odict_iterator", "itertools.zip_longest", "itertools.pairwise"].contains "list_iterator")=false by decide,Bool.false_and];exact b7)]
  exact ak (hQ s.heap ⟨hit,hsq,hp⟩ fun _ _ _ e=>e)
 ·refine jB hh st.1 st.2.1 (by simp;lia) fun h' he'=>hQ h' s.toks fun b o hb e=>he' b o (by simpa using hb) e
end Mine
end
section
open PySem PySem.W PySem.Calls PyProof.Rows
open PySem.W.X (tableObj)
set_option tactic.hygienic false
namespace Mine
structure jF (K:Frag) (c P:Addr):Prop where
 at_:∃ o vs file tf flags tg inF text tt,K.lookup c=some o/\o.cls = .type "code" /\ o.data = .fields vs/\vs.getD 11 .none = .ref P/\vs[11]? = some (.ref P)/\vs.getD 18 .none = .str file tf/\vs.getD 7 .none = .int flags tg/\vs.getD 9 .none = .bool inF/\vs.getD 10 .none = .int text tt
 ne:c≠P
theorem jF.code {K:Frag} {c P:Addr} (x:jF K c P) {h:Heap} (hK:K.In h) {ps:Array Value} (e:h.get? P=some (tableObj ps)) (tr:TriplesOk ps.toList):h.IsCode c P ps/\h.TableAt c P ps:=by
 refine o9_18 x.at_ fun o vs file tf flags tg inF text tt a1 a2 a3 a4 a5 a6 a7 a8 a9=>?_;exact ⟨⟨o,vs,file,tf,flags,tg,inF,text,tt,_,hK _ _ a1,a3,a4,a6,a7,a8,a9,e,rfl,tr,x.ne⟩,⟨o,vs,hK _ _ a1,a2,a3,a5⟩,e⟩
theorem zS {M:Model} {A:Around} {E:Value->Shared->Prop} {s:Shared} {env:Env} {c P:Addr} {ps:Array Value} {pos:Pos} {qualname:Str} {scope:Scope} {Q:Value->Shared->Prop} (hc:env.code = .ref c) (hok:s.heap.IsCode c P ps) (htab:s.heap.TableAt c P ps)
  (hQ:∀ code h' tk ps',Heap.ExtBut P s.heap h'->s.heap.objs.size<=h'.objs.size->h'.get? P=some (tableObj ps')->TriplesOk ps'.toList->(∃ more,ps'=ps++more)->Q code { s with heap:=h',toks:=tk }):wpAny M A (genexprCode env pos qualname scope) Q E s:=by
 cases hnf:codeAmong pos ps.toList with
 | none =>
   exact wpAny_genexprCodeX hc hok htab hnf fun c' h' tk hx hge hlt hcode _ htab' _=>hQ _ h' tk _ hx (by lia) htab'.2 (by obtain ⟨_,_,_,_,_,_,_,_,_,_,_,_,_,_,_,_,_,_,_,tr,_⟩:=hcode;exact tr) ⟨_,rfl⟩
 | some cv =>
   obtain ⟨o,vs,file,tf,flags,tg,inF,text,tt,op,ho,hd,h11,h2,h7,h9,h10,hop,hpd,htr,hne⟩:=id hok;unfold genexprCode codeAt;rw [hc,aq (show ¬ ((Value.ref c == Value.none)=true) from b7)];refine ah (wpAny_fieldsOf ho hd ?_);rw [h11];refine ah (wpAny_fieldsOf hop hpd ?_);rw [hnf];exact ak (hQ cv s.heap s.toks ps (Heap.ExtBut.refl _ _) (bF _) htab.2 htr ⟨#[],by simp⟩)
theorem q6 (n:Nat):passing (fun _=>true) n 0=List.range n:=by simp [passing]
noncomputable def BIn (C:Cx):Prop:=∃ bm o,C.mg "__builtins__" = some (.ref bm)/\bm≠builtinsNs/\C.K.lookup bm=some o/\o.cls = .type "module" /\ o.dict=some builtinsNs/\o.data = .plain
section
variable {C:Cx} (ok:C.Ok) {n:Nat} {env:Env} {S:St}
include ok
theorem vM {elt iter:Expr} {xa xb:Str} {pa pb pt pos:Pos} {kt:Nat} {scope:Scope} {c P cl p d:Addr} {kv:Option (Str×AV)} {l:List (Str×Str)} {Fv:Str×Str->Value->Prop} {A:Around} {Y D:List Addr} {dZ s:Shared} {Q:Value->Shared->Prop}
  (hco:scope.isCoroutine=false) (hok:j0 scope env=true) (hcell:∀ y ∈ scope.names,y.2≠.cell) (h0:scope.names.lookup (".0" : Str)=some NameKind.local) (hxa:scope.names.lookup xa=some .local) (hxb:scope.names.lookup xb=some .local) (hab:xa≠xb) (hkind:scope.kind = .function)
  (ci:jF C.K c P) (hcode:env.code = .ref c) (hPT:P ∈ C.T) (bi:BIn C) (L:uc C.K cl) (hit:PE C n env S iter (.raw (.ref p))) (hM:(p,AO.obj cl d kv (some l)) ∈ S.M)
  (hel:∀ (A':Around) (E':Value->Shared->Prop) cs Ca code bn (d8:Shared) mS q t u,A'.handled=none->q ∈ l->d8.heap.Ns Ca mS->mS xa=some (.str q.1 t)->mS xb=some (.str q.2 u)->d8.heap.Ns mainGlobals C.mg->d8.heap.Ns builtinsNs C.mb->env.globals=mainGlobals->bn=builtinsNs ->
   wpAny (model C.prog C.w) A' (eval elt (genEnv scope cs Ca code bn env)) (fun y ez=>Fv q y/\Keeps d8 ez) E' d8)
  (ha:AOk n A) (R:Rel C Y dZ D env S s)
  (k:∀ a fp wr G St gr,Rel C Y dZ D env S gr->Kp C Y env S s S gr->WalksS C.prog C.w A.in4 a fp wr G l.length (fun j y=>∃ q,l[j]? = some q/\Fv q y) St->St 0 gr->(∀ i s,St i s->s.TypeIs (.ref a) "generator")->a ∈ fp->(∀ b ∈ fp,b<gr.heap.objs.size) ->
   (∀ s',Moved wr G gr s'->Rel C Y dZ D env S s'/\Kp C Y env S s S s')->Q (.ref a) gr)
  (hs:∀ x,genFold iter env x=pure x:=by intro _;rfl) :
  wpAny (model C.prog C.w) A (eval (.GeneratorExp elt [⟨.Tuple [.Name xa pa,.Name xb pb] kt pt,iter,[],0⟩] scope pos) env) Q No s:=by
 have hroom:A.depth<recursionLimit:=by have:=ha.depth;show A.depth<1000;lia
 refine wpAny_GeneratorExp_walksQT ha.handled hco (jv hok) hcell h0 hxa hxb hab hkind hroom (G.at hit ha R fun v ee d9 eE fy=>?_) hs
 (refine VR.gX fy fun e_0=>?_;subst e_0)
 refine o3_6 (lZ (d9.ob _ hM)) fun vs kk od e I rs=>?_;have hlen:vs.length=l.length:=by rw [rs.length,az]
 refine xW d9.bs.K L I ?_;have x2:=fC.alloc C.T ee { cls:=.type "list_iterator", data:=.fields #[.ref p,.int 0 0] }
 have eB:=d9.go ok x2;refine ⟨eB.bs.lim,?_⟩;refine o1_3 (eB.bs.tab P hPT) fun ps ep tr=>?_;refine o0_2 (ci.code eB.bs.K ep tr) fun hc1 hc2=>?_;refine zS hcode hc1 hc2 fun code jy tk ps' hx hsz3 ep' tr' hmo=>?_;have x3:fC C.T [] { ee with heap:=ee.heap.push { cls:=.type "list_iterator", data:=.fields #[.ref p,.int 0 0] } } { ee with heap:=jy,toks:=tk }:=⟨⟨fun a o e _ t=>hx a o (fun q=>t (q▸hPT)) e,fun a ht vs e t=>by
  by_cases h:a=P
  ·subst h;have ev:vs=ps:=by
    have q:=e.symm.trans ep;simp only [Option.some.injEq] at q;unfold tableObj at q;simpa using q
   subst ev;refine o1_2 hmo fun more hmo=>?_;exact ⟨ps',ep',tr',more,hmo⟩
  ·exact ⟨vs,hx a _ h e,t,#[],by simp⟩⟩,rfl,rfl,id⟩
 have x13:=x2.gP x3;have eV:=d9.go ok x13;have keep3:∀ a o,ee.heap.get? a=some o->a≠P->jy.get? a=some o:=fun a o e h=>hx a o h (aA _ e);have nP:∀ a,a ∉ C.T->a≠P:=fun a h e=>h (e▸hPT);refine o2_8 bi fun bm bo b1 b2 b3 b4 b5 b6=>?_;clear bi;refine wpAny_builtinsFor (by rw [d9.ev.glob];exact eV.bs.g) b1 b2 (eV.bs.K _ _ b3) b4 b5 b6 ?_
 have hI3:ee.heap.objs.size<jy.objs.size:=by
  have:(ee.heap.push { cls:=.type "list_iterator", data:=.fields #[.ref p,.int 0 0] }).objs.size<=jy.objs.size:=hsz3
  rw [Heap.size_push] at this;lia
 have live3:∀ {a o},ee.heap.get? a=some o->a<jy.objs.size:=fun e=>Nat.lt_trans (bH e) hI3;have neI:∀ {a o},ee.heap.get? a=some o->a≠ee.heap.objs.size:=fun e=>cz (bH e);have pT:p ∉ C.T:=d9.tn (aa _ (af _ (eU hM (aj ..))));have rs3:=VRs.stp x13.heap (fun _ h=>nomatch h) d9.hT rs;have piece3:∀ (j:Nat) (v:Value) (q:Str×Str),vs[j]? = some v->l[j]? = some q->mL jy v q:=fun j v q hv hq=>by
  refine o1_3 (rs3.get (i:=j) (a:=gu q) (by simp [hq])) fun v' h1 h2=>?_
  rw [hv] at h1;cases h1;exact pieceAt h2
 have hT':∀ (j:Nat) (T:Addr),vs[j]? = some (.ref T)->T ∈ List.range jy.objs.size/\T≠ee.heap.objs.size:=fun j T hv=>by
  refine o1_2 (⟨_,aX (by
   have:=(aM.mp hv).1;lia)⟩:∃ q,l[j]? = some q) fun q hq=>?_
  refine o1_3 (rs.get (i:=j) (a:=gu q) (by simp [hq])) fun v' h1 h2=>?_
  rw [hv] at h1;cases h1;refine VR.vA h2 ?_;clear h2;intro _ _ _ e _ _ e_0;cases e_0
  ·exact ⟨aL.mpr (live3 e),neI e⟩
 have hcs:∃ o,ee.heap.get? cStatics=some o:=d9.bs.live (.inr (.inr (.inr rfl)));have hIP:ee.heap.objs.size≠P:=fun e=>by
  have:=d9.bs.iG hPT;exact this.ne (eH _) e.symm
 refine ⟨ee.heap.objs.size,List.range jy.objs.size,[ee.heap.objs.size],l.length,pPt l,PSt ee.heap.objs.size p vs l,fun i T h=>PSt ee.heap.objs.size p vs l (i+1) h/\T≠ee.heap.objs.size,fun _=>true,fun i y=>∃ q,l[i]? = some q/\Fv q y,rfl,
  fun A' hA'=>WalksU.pile hA' _ p (neI e) vs l hlen _ (aL.mpr hI3) (aL.mpr (live3 e)) hT',fun i vals h=>?_,⟨⟨_,hx _ _ hIP (aI _ rfl),rfl,rfl⟩,⟨_,keep3 _ _ e (nP _ pT),_,rfl⟩,piece3⟩,fun b hb=>aL.mp hb,eV.bs.lim,fun h=>?_,fun href hk=>⟨fun A' E' i va vb oR mS hA' hPt hns ha hb hkeep=>wpAny_tests_nil ⟨rfl,oR.heap,oR.toks,rfl,fun _ _ e=>e⟩,fun A' E' i va vb oR mS hA' hPt _ hns hma hmb hkeep=>?_⟩,fun a x6 tk' gs hgb hag hsz5 hk5 W hat=>?_⟩
 ·refine o3_5 h fun q t u _ e=>?_;clear h;exact ⟨_,_,e⟩
 ·refine o1_2 hcs fun o e=>?_;clear hcs;exact neI e (ao.mp h)
 ·refine o3_5 hPt fun q t u hq e=>?_;clear hPt;have e1:va = .str q.1 t/\vb = .str q.2 u:=by simpa using e
  refine o0_2 e1 fun rf0 rf1=>?_;clear e1;subst rf0;subst rf1;have kOld:∀ b,C.Old b->∀ o,jy.get? b=some o->oR.heap.get? b=some o:=fun b hb o e=>by
   refine o1_2 (d9.bs.live hb) fun o' e'=>?_;exact hkeep b (aL.mpr (bH e)) (by simp;exact neI e') o (hk b o e)
  refine bx (hel A' E' _ _ _ _ oR mS q t u hA' (aV hq) hns hma hmb (eV.bs.g.at' fun o e=>kOld _ (.inr (.inl rfl)) o e) (eV.bs.b.at' fun o e=>kOld _ (.inr (.inr (.inl rfl))) o e) d9.ev.glob rfl) (fun y CZ z=>⟨⟨q,hq,z.1⟩,z.2⟩) fun _ _ e=>e
 ·rw [q6,List.length_range] at W;have x35:fC C.T [] { ee with heap:=jy,toks:=tk } { ee with gens:=ee.gens.push gs,toks:=tk',heap:=x6 }:=⟨.of_keeps hk5,rfl,rfl,fun b=>b.push hgb⟩
  have x15:=x13.gP x35;refine k a _ _ _ _ _ (d9.go ok x15) (eE.trans (Kp.go d9 x15)) (W.imp fun j y h=>?_) hat (fun i s' st=>st.1.typeIs) (aj ..) (fun b hb=>?_) fun s' hm=>?_
  ·refine o1_3 h fun i hi zz=>?_;refine o1_3 zz fun q hq hv=>?_;clear h;have:i=j:=by
    have:=aM.mp hi;refine o1_2 this fun h1 h2=>?_;clear this;simpa using h2.symm
   subst this;exact ⟨q,hq,hv⟩
  ·show b<x6.objs.size;rw [hsz5];rcases aG.mp hb with rfl | hb
   ·exact Nat.lt_succ_self _
   ·rcases aG.mp hb with rfl | hb
    ·exact Nat.lt_succ_of_lt hag
    ·exact Nat.lt_succ_of_lt (Nat.lt_trans (aL.mp hb) hag)
  ·have nw:∀ {b o},ee.heap.get? b=some o->b ∉ jy.objs.size::[ee.heap.objs.size]:=fun e h=>by
    rcases aG.mp h with h | h
    ·exact absurd (live3 e) (h▸dP _)
    ·exact neI e (ao.mp h)
   have x1':fC C.T [] ee s':=⟨⟨fun a o e n t=>hm.heap a o (nw e) (x15.heap.keep a o e n t),fun a ht vs e t=>by
    refine o1_4 (x15.heap.tabs a ht vs e t) fun vs' e' t' mo=>?_;exact ⟨vs',hm.heap a _ (nw e) e',t',mo⟩⟩,hm.os.trans x15.os,hm.drawn.trans x15.dr,fun b=>hm.gens.bare (x15.bare b)⟩
   exact ⟨d9.go ok x1',eE.trans (Kp.go d9 x1')⟩
end
end Mine
namespace Mine
theorem CE:builtinKind "list.__getattribute__" = some .method\/builtinKind "list.__getattribute__" = some .slot:=.inr (by decide +kernel)
theorem Ci:splitId "list.__getattribute__" = some ("list", "__getattribute__"):=by decide +kernel
theorem vh:plainId "list.__getattribute__" = true:=by decide +kernel
section
variable {prog:Program} {w:World} {A:Around} {E:Value->Shared->Prop} {s:Shared} {K:Frag} {x c:Addr} {ox:Obj} {od:Option Obj}
theorem ni {v:Value} {name:Str} {expr:Bool} {Q:Value->Shared->Prop} (X:K.In s.heap) (L:uc K c) (I:InstAt s.heap x ox c od) (hga:findIn K (.ref c) "__getattribute__" = some (some (.builtin "list.__getattribute__"))) (hk:findIn K (.ref c) "__getattr__" = some none)
  (hf:findObj K c od name=some (.value v)) (hh:handedIn v=true) (h:Q v { s with toks:=s.toks+1 }):wpAny (model prog w) A (getAttr (.ref x) name expr) Q E s:=by
 obtain ⟨hp,g,d,t,os⟩:=s;unfold getAttr getAttrBy;refine ah (wpAny_mkText (bw (ah (I.type.at (ah ((cA X hga).at ?_))))));show wpAny _ _ (getAttrByItsOwn (.ref x) (.str name t) (.ref c) (.builtin "list.__getattribute__") true expr) _ _ _
 unfold getAttrByItsOwn hookBefore callGetattribute boundAndCalled;refine ah ?_;rw [ay (by rfl)]
 refine (cA X hk).at ?_;refine ah (wpAny_attempt (bw ?_));rw [aq (by cases expr <;> simp [onTheHeap])]
 refine ah ?_;rw [PySem.F.slot_list_getattribute.bind];refine ak ?_;refine sf (s:=⟨hp,g,d,t+1,os⟩) (n := "__getattribute__") X L I CE Ci vh am_entry_list_getattribute (PySem.F.args_list_getattribute_2 _ _) ?_
 unfold Builtin.«object.__getattribute__»;refine ah (ak (a:=(Value.ref x,[Value.str name t])) ?_);refine ah (ak (a:=name) ?_);refine ah (I.type.at ?_);refine ah ((looks_find X I hf).at ?_);refine ak ?_;show wpAny _ _ (handedOut v) _ _ _;rw [handedOut_of hh];exact ak h
end
end Mine
end
section
open PySem PySem.W PySem.Calls PyProof.Rows
set_option tactic.hygienic false
namespace Mine
theorem AK {prog:Program} {w:World} {A:Around} {I:Addr} {fp wr:List Addr} {G:Array GenState->Array GenState->Prop} {n:Nat} {P:Nat->Value->Prop} {St:Nat->Shared->Prop}
  (W:WalksS prog w A I fp wr G n P St):WalksS prog w A I fp wr G (n+1) (fun i v=>∃ j,i=j+1/\P j v) (fun i s=>∃ j,i=j+1/\St j s) where
 sub:=W.sub
 grefl:=W.grefl
 gtrans:=W.gtrans
 frame:=fun i s h' tk ⟨j,e,st⟩ ht hk=>⟨j,e,W.frame j s h' tk st ht hk⟩
 item:=fun i s Q E hi ⟨j,e,st⟩ hQ=>W.item j s Q E (by lia) st fun v s' hP hst hm=>hQ v s' ⟨j,e,hP⟩ ⟨j+1,by lia,hst⟩ hm
 done:=fun s Q E ⟨j,e,st⟩ hQ=>W.done s Q E (by have:n=j:=(by lia);exact this▸st) hQ
 self:=fun i s Q E ⟨j,e,st⟩ hQ=>W.self j s Q E st hQ
noncomputable def shiftV (k:Int) (val:Nat->Int):Nat->Int
 | 0=>k
 | i+1=>val i
theorem kL (k:Int) (val:Nat->Int):∀ n,preSum (shiftV k val) (n+1)=k+preSum val n
 | 0=>by simp [preSum,shiftV]
 | n+1=>by
   have:=kL k val n;simp only [preSum] at this ⊢;rw [this];simp [shiftV,Int.add_assoc]
theorem wz (x y:Value):argsOk "sum" ⟨[x,y],[]⟩:=by unfold argsOk;kernel_rfl
section
variable {prog:Program} {w:World} {A:Around} {E:Value->Shared->Prop} {s:Shared}
theorem call_sum2 {x:Value} {k:Int} {tk:Tok} {Q:Value->Shared->Prop}
  (h:wpAny (model prog w) A.in1 (pyIter x) (fun it d8=>∃ I fp wr G n P St val,it = .ref I/\WalksS prog w A.in1 I fp wr G n P St/\St 0 d8/\(∀ b ∈ fp,b<d8.heap.objs.size) /\
   (∀ i v,P i v->∃ t,v = .int (val i) t) /\
   ∀ s' t',Moved wr G d8 s'->Q (.int (k+preSum val n) t') s') E s) :
  wpAny (model prog w) A (call (.builtin "sum") [x,.int k tk]) Q E s:=by
 refine call_function_tree F.kind_sum F.plain_sum F.entry_sum (wz _ _) ?_;unfold Builtin.«sum»;simp only [bg,bO];rw [aq (by decide)]
 refine ah (bS (show Builtin.Builtins.bindParams "sum" ["start"] 0 ⟨[.int k tk],[]⟩=pure [some (.int k tk)] from rfl) ?_)
 refine ah (bx h (fun it d8 jY=>?_) fun _ _ e=>e);refine o8_14 jY fun I fp wr G n P St val rf8 W hst hfp hval hQ=>?_;clear jY;subst rf8;have fin:∀ (st:Int) (tk':Tok) (ez:Shared),(st=0\/st=2)->(∃ tt,ez={ d8 with toks:=tt }/\d8.toks<=tt) ->
   wpAny (model prog w) A.in1 (do
    forIn [("str", "strings", "''"),("bytes", "bytes", "b''"),("bytearray", "bytearray", "b''")] PUnit.unit
     fun (x:String×String×String) __s=>do
     let __do_lift <- isInstance (.int k tk') (Value.type x.fst)
     if __do_lift=true then do
       rule "sum.start-refused"
       raiseErrorMade "TypeError"
         (toString "sum() can't sum " ++ toString x.2.fst++toString " [use " ++ toString x.2.snd ++
          toString ".join(seq) instead]")
       pure (ForInStep.yield PUnit.unit)
      else pure (ForInStep.yield PUnit.unit)
    let __do_lift <- newList [.int k tk']
    again (Code.builtin "sum.loop" { pos:=[Value.ref I,__do_lift,rawInt st,rawInt 0] })) (fun fin s'=>match fin with
   | Fin.done (Flow.ret v)=>Q v s'
   | Fin.done _=>False
   | Fin.again c'=>c'.quiet=true/\codeAny (model prog w) A c' (fun r s'=>match r with
       | Except.ok (Flow.ret v)=>Q v s'
       | Except.ok a=>False
       | Except.error e=>E e s') s') E ez:=by
  intro st tk' _ hst2 hz;refine o1_3 hz fun tt rf1 htt=>?_;clear hz;subst rf1;simp only [dw,List.forIn_nil];refine ah (ah (ah (wpAny_isInstance (T := "int") (b:=false) (typeIs_int _ _ _) PySem.sub_int_str ?_)))
  simp only [bu,cg];refine ak (ah (ah (wpAny_isInstance (T := "int") (b:=false) (typeIs_int _ _ _) sub_int_bytes ?_)))
  simp only [bu,cg];refine ak (ah (ah (wpAny_isInstance (T := "int") (b:=false) (typeIs_int _ _ _) sub_int_bytearray ?_)))
  simp only [bu,cg];refine ak (ak ?_);refine ah (cE ?_);have hSf:d8.heap.objs.size ∉ fp:=fun hm=>dP _ (hfp _ hm);have e1:preSum (shiftV k val) 1=k:=by simp [preSum,shiftV]
  refine ak ⟨plainId_quiet F.plain_sum_loop _,codeAny_sum_loopAnyS (AK W) (shiftV k val) (fun i v ⟨j,e,hP⟩=>by subst e;exact hval j v hP) d8.heap.objs.size hSf n 1 _ tk' 0 st hst2 (by lia) (by lia)
   ⟨0,rfl,W.frame 0 d8 _ _ hst htt fun b _ o e=>aA _ e⟩ (by rw [e1];exact aI _ rfl) fun s' t' hm=>?_⟩
  rw [kL];exact hQ s' t' (hm.drop_new htt)
 show wpAny _ _ (if _ then _ else _) _ _ _
 split
 ·refine ah (dc (ah (wpAny_mkInt ?_)));exact fin 0 _ _ (.inl rfl) ⟨_,rfl,Nat.le_succ _⟩
 ·exact fin 2 _ _ (.inr rfl) ⟨_,rfl,bF _⟩
end
end Mine
namespace Mine
theorem g4:∀ {names:List (Str×NameKind)} {n:Nat} {acc:List (Str×Addr)} {p:Str×Addr},p ∈ cellsFrom n names acc->p ∈ acc\/(p.1,NameKind.cell) ∈ names
 | [],_,_,_,h=>.inl h
 | (name,kind)::r,n,acc,p,h=>by
   unfold cellsFrom at h;split at h
   ·rename_i hk;have ek:kind = .cell:=by simpa using hk
    subst ek;rcases g4 h with z | z
    ·rcases aG.mp z with z | z
     ·subst z;exact .inr (aj ..)
     ·exact .inl z
    ·exact .inr (ai _ z)
   ·rcases g4 h with z | z
    ·exact .inl z
    ·exact .inr (ai _ z)
theorem gp:∀ {names:List (Str×NameKind)} {n:Nat} {acc:List (Str×Addr)},(cellsFrom n names acc).map (·.1)=((names.filter (·.2 == .cell)).map (·.1)).reverse++acc.map (·.1)
 | [],_,_=>rfl
 | (name,kind)::r,n,acc=>by
   unfold cellsFrom;by_cases hk:(kind == NameKind.cell)=true
   ·rw [ay hk,gp,bW (by exact hk)];simp
   ·rw [aq hk,gp,bX (by exact hk)]
theorem iP:∀ {l:List (Str×Addr)},(l.map (·.1)).Nodup->∀ {p:Str×Addr},p ∈ l->l.lookup p.1=some p.2
 | [],_,_,h=>nomatch h
 | (k,v)::r,nd,p,h=>by
   simp only [aU,bV] at nd;rcases aG.mp h with e | h
   ·subst e;simp [List.lookup]
   ·have hne:(p.1 == k)=false:=aY.mpr fun e=>nd.1 (e▸aE.mpr ⟨p,h,rfl⟩);simp only [List.lookup,hne];exact iP nd.2 h
theorem mG {kindOf:Str->Option NameKind}:∀ {bs:List (Str×Value)} {m:Str->Option Value},(∀ x ∈ bs,kindOf x.1=some .local)->∀ x,bindL kindOf bs m x=(bs.reverse.lookup x).or (m x)
 | [],m,_,x=>rfl
 | (n,v)::r,m,h,x=>by
   unfold bindL;rw [ay (h (n,v) (aj ..)),mG (fun y hy=>h y (ai _ hy))];simp only [List.reverse_cons,cN];cases r.reverse.lookup x with
   | some u=>rfl
   | none =>
     simp only [Option.none_or,List.lookup];by_cases hx:x=n
     ·subst hx;simp
     ·have:(x == n)=false:=aY.mpr hx;simp [this,hx]
end Mine
namespace Mine
structure DK (C:Cx) (K:Type) [DecidableEq K] where
 knd:KeyKind C.prog C.w K
 ob:List (K×AV)->AO
 av:K->AV
 more:∀ l,(ob l).more=[]
 to:∀ {h X a l},OR C h X a (ob l)->∃ kvs,h.DictOf knd a kvs/\PRs h X kvs l
 of:∀ {h X a l kvs},h.DictOf knd a kvs->PRs h X kvs l->OR C h X a (ob l)
 is:∀ {h X v k},VR h X v (av k)->knd.is k v=true
noncomputable def sK (C:Cx):DK C Str:=⟨PySem.strKind C.prog C.w,.eY,.str,fun _=>rfl,fun x=>x,fun a b=>⟨_,a,b⟩,fun r=>by refine VR.fO r fun _=>?_;exact strKind_is _ _ _ _⟩
noncomputable def iK (C:Cx):DK C Int:=⟨PySem.intKind C.prog C.w,.pQ,.int,fun _=>rfl,fun x=>x,fun a b=>⟨_,a,b⟩,fun r=>by refine VR.ff r fun _=>?_;exact intKind_is _ _ _ _⟩
section
variable {C:Cx} (ok:C.Ok) {n:Nat} {env:Env} {S:St} {K:Type} [DecidableEq K] (k:DK C K)
theorem mw {a:Addr} {l:List (K×AV)}:foot (a,k.ob l)=[a]:=by unfold foot;rw [k.more]
theorem z0 {a:Addr} {l:List (K×AV)} {M:List (Addr×AO)} (hM:(a,k.ob l) ∈ M):a ∈ fj M:=eU hM (by rw [mw k];exact aj ..)
include ok
omit ok in
theorem CO {Y D:List Addr} {dZ s:Shared} (R:Rel C Y dZ D env S s) {a:Addr} {l:List (K×AV)} (hM:(a,k.ob l) ∈ S.M):a ∉ C.T:=R.tn (aa _ (af _ (z0 k hM)))
omit ok in
theorem BB {Y D:List Addr} {dZ s:Shared} (hsm:C.Old sysModules) (R:Rel C Y dZ D env S s) {a:Addr} {l:List (K×AV)} (hM:(a,k.ob l) ∈ S.M):(a == sysModules)=false :=
 aY.mpr fun e=>(R.hi a (aa _ (af _ (z0 k hM)))).1 (e▸hsm)
theorem Rel.qw {Y D:List Addr} {dZ s s':Shared} (R:Rel C Y dZ D env S s) {i:Nat} {a:Addr} {l:List (K×AV)} (hM:S.M[i]? = some (a,k.ob l)) {x:K} {v:Value} {av:AV} (rv:VR s.heap (Xo C Y env S) v av) {kvs:List (K×Value)} (hr:PRs s.heap (Xo C Y env S) kvs l)
  (e:s'.heap.DictOf k.knd a (PySem.stored kvs x v)) (st:fC C.T [a] s s'):Rel C Y dZ D env ⟨S.μ,S.M.set i (a,k.ob (iZ l x av))⟩ s'/\Kp C Y env S s ⟨S.μ,S.M.set i (a,k.ob (iZ l x av))⟩ s':=by
 have hl:=R.inX (aa _ (z0 k (eu hM)));have lv:jr s'.heap a:=by refine o3_5 e fun o es ep ho _=>?_;clear e;exact ⟨o,ho⟩
 exact R.kJ ok hM ((k.more _).trans (k.more _).symm) (by rw [mw k];exact aj ..) st lv (k.of e ((hr.stored rv).stp st.heap hl R.hT))
theorem jt {o ix value:Expr} {pos' pos:Pos} {P:AF->St->Prop} (hv:EV C n env S value fun av d7=>∃ i a l x,d7.M[i]? = some (a,k.ob l)/\l.length<=1000/\PE C n env d7 o (.raw (.ref a))/\PE C n env d7 ix (k.av x)/\P .next ⟨d7.μ,d7.M.set i (a,k.ob (iZ l x av))⟩)
  (hs:swapsWith value (some (.Subscript o ix pos')) pos.line env=pure false:=by rfl):E1 C n env S (.Assign [.Subscript o ix pos'] value pos) P:=fun A Y dZ D s Q ha R q=>by
 have sl:sizeLine=16777216:=by decide
 refine wpAny_Assign_Subscript (hs:=hs) (hv A Y dZ D s _ ha R fun v ee av d7 jx d9 eE fy=>?_);refine o4_9 jx fun i a l x hM hz ho hi h=>?_;clear jx;refine G.at ho ha d9 fun v d8 eB eN fz=>?_;refine VR.fM fz ?_;refine G.at hi ha eB fun v ez eV fG f7=>?_;refine o1_3 (k.to (eV.ob _ (eu hM))) fun kvs e rs=>?_;refine wpAny_setItem_pairs (k.is f7) e (fun h' e' hb=>?_) (by rw [rs.length];lia)
 have st:fC C.T [a] ez { ez with heap:=h',toks:=ez.toks+1 }:=⟨.sameBut hb (CO k eV (eu hM)),rfl,rfl,id⟩
 refine o0_2 (Rel.qw ok k eV hM (fG _ _ (eN _ _ fy)) rs (s':={ ez with heap:=h',toks:=ez.toks+1 }) e' st) fun gm gK=>?_
 exact q _ _ _ _ h gm (((eE.trans eN).trans fG).trans gK) .next
theorem O.k6 {value slice:Expr} {a:Addr} {l:List (K×AV)} {x:K} {c:AV} (hM:(a,k.ob l) ∈ S.M) (hk:ie l x=some c)
  (hs:∀ t u,k.knd.is x u=true->subscripted slice false (.ref t) u=operate [.ref t,u] (getItem (.ref t) u)):P2 C n env S (subscriptTail value slice) (.raw (.ref a)) (k.av x) c :=
 fun A Y dZ D s v v' Q ha R r r' q=>by
  refine VR.fM r ?_;refine o1_3 (k.to (R.ob _ hM)) fun kvs e rs=>?_;refine o1_3 (rs.at hk) fun y hx rx=>?_;exact tail_any e.typeIs F.slot_dict_getitem.lookup (wpAny_getItem_of (k.is r') e.mapOf hx (xJ ok R q _ _ (.toks ..) rx)) (hs _ _ (k.is r'))
theorem O.Di {a:Addr} {l:List (K×AV)} {x:K} {y:AV} (hsm:C.Old sysModules) (hM:(a,k.ob l) ∈ S.M):PN C n env S (fun vs=>call (.builtin "dict.get") (.ref a::vs)) [k.av x,y] ((ie l x).getD y):=fun A Y dZ D s vs Q ha R r q=>by
 refine VRs.eW r fun v0 _ r rs=>?_
 ·
  refine VRs.eW rs fun v1 _ r1 rs=>?_
  ·
   refine VRs.fN rs ?_;refine o1_3 (k.to (R.ob _ hM)) fun kvs e rk=>?_;refine call_meetsIn PySem.F.slot_dict_get e.typeIs PySem.F.entry_dict_get (PySem.F.args_dict_get_3 _ _ _) (meets_dict_get_default k.knd a (k.is r) (BB k hsm R hM) v1) ⟨_,e.mapOf,?_⟩;refine xJ ok R q _ _ (.toks ..) ?_;cases h:ie l x with
   | none=>rw [rk.none h];exact r1
   | some c=>refine o1_3 (rk.at h) fun w e1 rw_=>?_;rw [e1];exact rw_
theorem Rel.newDict {Y D:List Addr} {dZ s s':Shared} (R:Rel C Y dZ D env S s) {a:Addr} {l:List (K×AV)} {kvs:List (K×Value)} (hd:s.heap.get? a=none) (e:s'.heap.DictOf k.knd a kvs) (st:fC C.T [] s s') (hr:PRs s.heap (Xo C Y env S) kvs l) :
  Rel C Y dZ D env ⟨S.μ,S.M++[(a,k.ob l)]⟩ s'/\Kp C Y env S s ⟨S.μ,S.M++[(a,k.ob l)]⟩ s':=by
 have lv:jr s'.heap a:=by refine o3_5 e fun o es ep ho _=>?_;clear e;exact ⟨o,ho⟩
 refine R.newObj ok (fun b hb=>?_) (by rw [mw k];simp) st (k.of e ?_)
 ·rw [mw k] at hb;have:b=a:=by simpa using hb
  subst this;exact ⟨hd,lv⟩
 ·refine PRs.stp st.heap (fun _ h=>nomatch h) (fun b h=>af _ h) (hr.sub fun b o eb nb h3=>?_);replace h3:b ∈ Xo C Y env ⟨S.μ,S.M++[(a,k.ob l)]⟩:=h3;rw [fJ] at nb h3;have ef:fj (S.M++[(a,k.ob l)])=fj S.M++[a]:=by rw [ic,mw k]
  simp only [ef,au,ao] at nb h3;rcases h3 with h | (h | h | h) | h
  ·exact nb (.inl h)
  ·exact nb (.inr (.inl (.inl h)))
  ·exact nb (.inr (.inl (.inr h)))
  ·subst h;rw [hd] at eb;cases eb
  ·exact nb (.inr (.inr h))
theorem EV.yg {pos:Pos} {P:AV->St->Prop} (h:∀ a,P (.raw (.ref a)) ⟨S.μ,S.M++[(a,k.ob [])]⟩):EV C n env S (.Dict [] [] pos) P:=fun A Y dZ D s Q ha R q=>by
 refine wpAny_Dict_empty ?_;refine o0_2 (Rel.newDict ok k R (a:=s.heap.objs.size) (l:=[]) (kvs:=[]) (eH _) (s':={ s with heap:=s.heap.push { cls:=.type "dict", data:=.dict #[] } }) (Heap.DictOf.new s.heap) (.alloc ..) .nil) fun R' K'=>?_
 exact q _ _ _ _ (h _) R' K' (.raw _)
end
end Mine
namespace Mine
inductive CRs:List (Value×Value)->List (Str×Str)->Prop
 | nil:CRs [] []
 | cons {k v:Str} {t u:Tok} {vs:List (Value×Value)} {l:List (Str×Str)}:CRs vs l->CRs ((.str k t,.str v u)::vs) ((k,v)::l)
noncomputable def CPs (C:Cx) (pairs:List (Sem Value×Sem Value)) (l:List (Str×Str)):Prop:=∀ A s (Q:List (Value×Value)->Shared->Prop),(∀ vs tk,CRs vs l->Q vs { s with toks:=tk })->wpAny (model C.prog C.w) A (evalPairs pairs) Q No s
section
variable {C:Cx} (ok:C.Ok) {n:Nat} {env:Env} {S:St}
theorem CPs.nil:CPs C [] []:=fun A s Q h=>evalPairs_nil (h [] s.toks .nil)
theorem CPs.cons {k v:Str} {k0 k1:Nat} {p0 p1 pos:Pos} {rest:List (Sem Value×Sem Value)} {l:List (Str×Str)} (h:CPs C rest l) :
  CPs C ((eval (.Constant (.str k) k0 p0) env,do let x <- eval (.Constant (.str v) k1 p1) env;standAt pos;pure x)::rest) ((k,v)::l):=fun A s Q q =>
 evalPairs_cons (dh (ah (dh (ah (bY (ak (h A _ _ fun vs tk r=>q _ tk (.cons r))))))))
noncomputable def Ag (l:List (Str×Str)):List (Str×AV):=l.foldl (fun acc p=>iZ acc p.1 (.str p.2)) []
theorem t6 {h:Heap} {X:List Addr}:∀ {vs:List (Value×Value)} {l:List (Str×Str)},CRs vs l->∃ kvs,Carries (PySem.strKind C.prog C.w) vs kvs/\∀ acc (acc':List (Str×AV)),PRs h X acc acc'->PRs h X (merged acc kvs) (l.foldl (fun acc p=>iZ acc p.1 (.str p.2)) acc'):=fun {vs l} r=>by
 induction r with
 | nil=>exact ⟨[],trivial,fun acc acc' r=>by simpa [merged] using r⟩
 | @cons k v t u _ _ _ ih =>
   refine o1_3 ih fun kvs h1 h2=>?_;clear ih;exact ⟨(k,.str v u)::kvs,⟨strKind_is _ _ _ _,rfl,h1⟩,fun acc acc' ra=>by simpa [merged] using h2 _ _ (ra.stored (.str v u))⟩
include ok
theorem EV.CQ {keys:List (Option Expr)} {values:List Expr} {pos:Pos} {pairs:List (Sem Value×Sem Value)} {l:List (Str×Str)} {P:AV->St->Prop}
  (hshape:(evalEachOpt keys env).zip ((evalEach values env).map fun v=>do let x <- v;standAt pos;pure x)=pairs.map fun p=>(some p.1,p.2)) (h0:pairs≠[]) (hlen:pairs.length<=15) (hp:CPs C pairs l)
  (h:∀ a,P (.raw (.ref a)) ⟨S.μ,S.M++[(a,.eY (Ag l))]⟩):EV C n env S (.Dict keys values pos) P:=fun A Y dZ D s Q ha R q=>by
 refine wpAny_Dict_pairs (knd:=PySem.strKind C.prog C.w) hshape h0 hlen (hp A _ _ fun vs tk r=>?_);refine o1_3 (t6 (C:=C) (h:=s.heap) (X:=Xo C Y env S) r) fun kvs h1 h2=>?_;refine ⟨kvs,h1,Heap.DictOf.new s.heap,fun h' e hb=>?_⟩;have st:fC C.T [] s { s with heap:=h',toks:=tk+vs.length }:=⟨.of_keeps fun a o e=>hb.extBut a o (cz (bH e)) (aA _ e),rfl,rfl,id⟩
 refine o0_2 (Rel.newDict ok (sK C) R (a:=s.heap.objs.size) (eH _) (s':={ s with heap:=h',toks:=tk+vs.length }) e st (h2 [] [] .nil)) fun R' K'=>?_
 exact q _ _ _ _ (h _) R' K' (.raw _)
inductive kH:List (Option Expr)->List Expr->List (Str×Str)->Prop
 | nil:kH [] [] []
 | cons {k v:Str} {k0 k1:Nat} {p0 p1:Pos} {ks:List (Option Expr)} {vs:List Expr} {l:List (Str×Str)}:kH ks vs l->kH (some (.Constant (.str k) k0 p0)::ks) (.Constant (.str v) k1 p1::vs) ((k,v)::l)
omit ok in
theorem kH.pairs {pos:Pos}:∀ {keys:List (Option Expr)} {values:List Expr} {l:List (Str×Str)},kH keys values l->∃ pairs,(evalEachOpt keys env).zip ((evalEach values env).map fun v=>do let x <- v;standAt pos;pure x)=pairs.map (fun p=>(some p.1,p.2))/\pairs.length=l.length/\CPs C pairs l:=fun {keys values l} r=>by
 induction r with
 | nil=>exact ⟨[],rfl,rfl,CPs.nil⟩
 | @cons k v k0 k1 p0 p1 _ _ _ _ ih =>
   refine o1_4 ih fun pairs h1 h2 h3=>?_;clear ih;refine ⟨(eval (.Constant (.str k) k0 p0) env,do let x <- eval (.Constant (.str v) k1 p1) env;standAt pos;pure x)::pairs,?_,by simp [h2],h3.cons⟩
   rw [aU,<- h1];rfl
theorem EV.CP {keys:List (Option Expr)} {values:List Expr} {pos:Pos} {l:List (Str×Str)} {P:AV->St->Prop} (hk:kH keys values l) (h0:(l.length == 0)=false) (hlen:l.length<=15)
  (h:∀ a,P (.raw (.ref a)) ⟨S.μ,S.M++[(a,.eY (Ag l))]⟩):EV C n env S (.Dict keys values pos) P:=by
 refine o1_4 (hk.pairs (C:=C) (env:=env) (pos:=pos)) fun pairs h1 h2 h3=>?_;exact EV.CQ ok h1 (fun e=>by rw [e] at h2;rw [<- h2] at h0;simp at h0) (by lia) h3 h
theorem E1.cell {x:Str} {px pos:Pos} {e:Expr} {P:AF->St->Prop} (h:EV C n env S e fun a d7=>P .next ⟨ins x a d7.μ,d7.M⟩)
  (hk:env.kindOf x=some .cell:=by rfl) (hf:env.func.isSome=true:=by rfl) (hc:∃ c,env.cells.lookup x=some c:=by exact ⟨_,rfl⟩)
  (hs:swapsWith e (some (.Name x px)) pos.line env=pure false:=by rfl):E1 C n env S (.Assign [.Name x px] e pos) P:=E1.assign ok (.inr ⟨⟨hk,hf⟩,hc⟩) h hs
theorem E1.loc {x:Str} {px pos:Pos} {e:Expr} {P:AF->St->Prop} (h:EV C n env S e fun a d7=>P .next ⟨ins x a d7.μ,d7.M⟩)
  (hk:env.kindOf x=some .local:=by rfl)
  (hs:swapsWith e (some (.Name x px)) pos.line env=pure false:=by rfl):E1 C n env S (.Assign [.Name x px] e pos) P:=E1.assign ok (.inl hk) h hs
theorem TG.cell {x:Str} {p:Pos} {a:AV} {P:St->Prop} (h:P ⟨ins x a S.μ,S.M⟩) (hk:env.kindOf x=some .cell:=by rfl) (hf:env.func.isSome=true:=by rfl) (hc:∃ c,env.cells.lookup x=some c:=by exact ⟨_,rfl⟩):TG C n env S (.Name x p) a P:=TG.name ok (.inr ⟨⟨hk,hf⟩,hc⟩) h
theorem TG.loc {x:Str} {p:Pos} {a:AV} {P:St->Prop} (h:P ⟨ins x a S.μ,S.M⟩) (hk:env.kindOf x=some .local:=by rfl):TG C n env S (.Name x p) a P:=TG.name ok (.inl hk) h
end
end Mine
namespace Mine
section
variable {C:Cx} (ok:C.Ok) {n:Nat} {env:Env} {S:St}
include ok
end
end Mine
namespace Mine
theorem s8 {h:Heap} {P:Addr} {o:Obj} {ps:Array Value} (e:h.get? P=some o):(h.update P fun _=>tabObj ps).get? P=some (tabObj ps):=by
 obtain ⟨objs,l⟩:=h;simp only [Heap.get?,Heap.update,Array.getElem?_modify] at e ⊢;cases he:objs[P]? with
 | none=>rw [he] at e;cases e
 | some x=>simp
section
variable {C:Cx} (ok:C.Ok) {n:Nat} {env:Env} {S:St} {Y D:List Addr} {dZ s s':Shared}
include ok
theorem Rel.AE (R:Rel C Y dZ D env S s) {i:Nat} {P c':Addr} {ps ps':Array Value} {oc:Obj} (hM:S.M[i]? = some (P,.fix (tabObj ps))) (st:fC C.T [P] s s') (hP:s'.heap.get? P=some (tabObj ps')) (hn:s.heap.get? c'=none) (hc:s'.heap.get? c'=some oc) :
  Rel C Y dZ D env ⟨S.μ,S.M.set i (P,.fix (tabObj ps'))++[(c',.fix oc)]⟩ s'/\Kp C Y env S s ⟨S.μ,S.M.set i (P,.fix (tabObj ps'))++[(c',.fix oc)]⟩ s':=by
 have eP:s.heap.get? P=some (tabObj ps):=R.ob _ (eu hM);have hPf:P ∈ foot (P,AO.fix (tabObj ps)):=by simp [foot]
 have hPT:P ∉ C.T:=R.tn (aa _ (af _ (eU (eu hM) hPf)));have e1:=s8 (ps:=ps') eP;have ne:∀ a,a≠P->(s.heap.update P fun _=>tabObj ps').get? a=s.heap.get? a:=fun a h=>Heap.get?_update_ne _ _ _ _ h;have neT:∀ a ∈ C.T,a≠P:=fun a h e=>hPT (e▸h);have st1:fC C.T [P] s { s with heap:=s.heap.update P fun _=>tabObj ps' } :=
  ⟨⟨fun a o e n _=>by rw [ne a (fun q=>n (by simp [q]))];exact e,fun a ha vs e t=>⟨vs,by rw [ne a (neT a ha)];exact e,t,#[],by simp⟩⟩,rfl,rfl,id⟩
 refine o0_2 (R.kJ ok hM (o':=.fix (tabObj ps')) rfl hPf st1 ⟨_,e1⟩ e1) fun R1 K1=>?_;have st2:fC C.T [] { s with heap:=s.heap.update P fun _=>tabObj ps' } s':=by
  refine ⟨⟨fun a o e _ t=>?_,fun a ha vs e t=>st.heap.tabs a ha vs (by rw [<- ne a (neT a ha)];exact e) t⟩,st.os,st.dr,st.bare⟩
  by_cases h:a=P
  ·subst h;rw [show s'.heap.get? a=some (tabObj ps') from hP];exact e1.symm.trans e
  ·rw [ne a h] at e;exact st.heap.keep a o e (fun q=>h (by simpa using q)) t
 have hcP:c'≠P:=fun q=>by rw [q,eP] at hn;cases hn
 refine o0_2 (R1.newObj ok (a:=c') (o:=.fix oc) (fun b hb=>by
  have e:b=c':=by simpa [foot,AO.more] using hb
  subst e;exact ⟨(ne b hcP).trans hn,_,hc⟩) (by simp [foot,AO.more]) st2 hc) fun R2 K2=>?_
 exact ⟨R2,K1.trans K2⟩
omit ok in
theorem jF.hd {K:Frag} {c P:Addr} (x:jF K c P) {h:Heap} (hK:K.In h):CodeHd h c P:=by
 refine o9_18 x.at_ fun o vs file tf flags tg inF text tt a1 a2 a3 a4 a5 a6 a7 a8 a9=>?_;exact ⟨o,vs,file,tf,flags,tg,inF,text,tt,hK _ _ a1,a2,a3,a5,a4,a6,a7,a8,a9,x.ne⟩
omit ok in
theorem BIn.at' (bi:BIn C) (R:Rel C Y dZ D env S s) {P:Addr} {ps:Array Value} (eP:s.heap.get? P=some (tabObj ps)):s.heap.BuiltinsAt C.mg P/\mainGlobals≠P:=by
 refine o2_8 bi fun bm o b1 b2 b3 b4 b5 b6=>?_;clear bi;have e:=R.bs.K _ _ b3;refine o3_6 R.bs.g fun og es ep eg hg _=>?_;refine ⟨⟨bm,o,b1,b2,fun q=>?_,fun q=>?_,e,b4,b5,b6⟩,fun q=>?_⟩
 ·rw [q,eg] at e;cases e;rw [hg] at b6;cases b6
 ·rw [q,eP] at e;cases e;cases b6
 ·rw [q,eP] at eg;cases eg;cases hg
theorem EV.Bj {params:Arguments} {body:Expr} {scope:Scope} {pos:Pos} {c P:Addr} {ps:Array Value} {clos:List (Str×Addr)} {i:Nat} {P':AV->St->Prop} (hM:S.M[i]? = some (P,.fix (tabObj ps))) (hcode:env.code = .ref c) (ci:jF C.K c P) (bi:BIn C) (ht:TriplesOk ps.toList) (hnf:codeAmong pos ps.toList=none)
  (hdef:defaultsOf params env=([],[])) (hcl:closureFor scope env=pure clos)
  (h:∀ f c' oc ctv,(∃ vs t,oc.data = .fields vs/\vs[1]? = some (.str (env.qual ++ "<lambda>") t)) ->
   P' (.raw (.ref f)) ⟨S.μ,(S.M.set i (P,.fix (tabObj (ps ++ #[rawInt pos.line,rawInt pos.col,.ref c'])))++[(c',.fix oc)])++[(f,.fix (kla_obj "<lambda>" (env.qual ++ "<lambda>") params body scope clos ((C.mg "__name__").getD .none) c' ctv))]⟩) :
  EV C n env S (.Lambda params body scope pos) P':=by
 intro A Y dZ D s Q ha R q;have eP:s.heap.get? P=some (tabObj ps):=R.ob _ (eu hM);have hPT:P ∉ C.T:=R.tn (aa _ (af _ (eU (eu hM) (by simp [foot]))))
 refine o0_2 (bi.at' R eP) fun hb hgP=>?_;refine kla_eval hdef (kla_makeFunction (mg:=C.mg) hcl R.ev.glob R.bs.g hcode (ci.hd R.bs.K) eP ht hnf hgP hb fun c' ctv h' tk hx hge hlt hrec htb=>?_);refine o4_8 hrec fun c1 oc vs t e1 e2 e3 e4=>?_;clear hrec;cases e1;have st:fC C.T [P] s { s with heap:=h',toks:=tk } :=
  ⟨⟨fun a o e n _=>hx a o (fun q=>n (by simp [q])) e,fun a ha vs e t=>⟨vs,hx a _ (fun q=>hPT (q▸ha)) e,t,#[],by simp⟩⟩,rfl,rfl,id⟩
 refine o0_2 (R.AE ok hM st htb (dH hge) e2) fun R1 K1=>?_;have ef:(h'.push (kla_obj "<lambda>" (env.qual ++ "<lambda>") params body scope clos ((C.mg "__name__").getD .none) c' ctv)).get? h'.objs.size=some _:=aI _ rfl
 refine o0_2 (R1.newObj ok (a:=h'.objs.size) (s':={ s with heap:=h'.push (kla_obj "<lambda>" (env.qual ++ "<lambda>") params body scope clos ((C.mg "__name__").getD .none) c' ctv),toks:=tk }) (o:=.fix _) (fun b hb=>by
  have e:b=h'.objs.size:=by simpa [foot,AO.more] using hb
  subst e;exact ⟨eH _,_,ef⟩) (by simp [foot,AO.more]) ⟨.push ..,rfl,rfl,id⟩ ef) fun R2 K2=>?_
 exact q _ _ _ _ (h _ c' oc ctv ⟨vs,t,e3,e4⟩) R2 (K1.trans K2) (.raw _)
theorem EV.Bk {params:Arguments} {body:Expr} {scope:Scope} {pos:Pos} {c c' P:Addr} {ps:Array Value} {clos:List (Str×Addr)} {i:Nat} {P':AV->St->Prop} (hM:S.M[i]? = some (P,.fix (tabObj ps))) (hcode:env.code = .ref c) (ci:jF C.K c P) (bi:BIn C) (ht:TriplesOk ps.toList) (hf:codeAmong pos ps.toList=some (.ref c'))
  (hdef:defaultsOf params env=([],[])) (hcl:closureFor scope env=pure clos)
  (h:∀ f ctv,P' (.raw (.ref f)) ⟨S.μ,S.M++[(f,.fix (kla_obj "<lambda>" (env.qual ++ "<lambda>") params body scope clos ((C.mg "__name__").getD .none) c' ctv))]⟩) :
  EV C n env S (.Lambda params body scope pos) P':=by
 intro A Y dZ D s Q ha R q;have eP:s.heap.get? P=some (tabObj ps):=R.ob _ (eu hM);refine o0_2 (bi.at' R eP) fun hb hgP=>?_;refine kla_eval hdef (kla_makeFunctionHit (mg:=C.mg) hcl R.ev.glob R.bs.g hcode (ci.hd R.bs.K) eP ht hf hb fun ctv h' tk hx hge=>?_);have st:fC C.T [] s { s with heap:=h',toks:=tk }:=⟨.of_keeps hx,rfl,rfl,id⟩
 have ef:(h'.push (kla_obj "<lambda>" (env.qual ++ "<lambda>") params body scope clos ((C.mg "__name__").getD .none) c' ctv)).get? h'.objs.size=some _:=aI _ rfl
 have R1:=R.go ok st;have K1:Kp C Y env S s S { s with heap:=h',toks:=tk }:=Kp.go R st
 refine o0_2 (R1.newObj ok (a:=h'.objs.size) (s':={ s with heap:=h'.push (kla_obj "<lambda>" (env.qual ++ "<lambda>") params body scope clos ((C.mg "__name__").getD .none) c' ctv),toks:=tk }) (o:=.fix _) (fun b hb=>by
  have e:b=h'.objs.size:=by simpa [foot,AO.more] using hb
  subst e;exact ⟨eH _,_,ef⟩) (by simp [foot,AO.more]) ⟨.push ..,rfl,rfl,id⟩ ef) fun R2 K2=>?_
 exact q _ _ _ _ (h _ ctv) R2 (K1.trans K2) (.raw _)
end
end Mine
namespace Mine
theorem lT {α:Type} {l:List (Str×α)} {q:Str->Bool} {x:Str} (h:q x=true):(l.filter fun p=>q p.1).lookup x=l.lookup x:=by
 induction l with
 | nil=>rfl
 | cons p l ih =>
   obtain ⟨a,b⟩:=p;rw [dJ];by_cases e:x=a
   ·subst e;rw [ay h,bz,bz,beq_self_eq_true]
   ·have hab:(x == a)=false:=aY.mpr e;by_cases hb:q a=true
    ·rw [ay hb,bz,bz,hab];exact ih
    ·rw [aq hb,bz,hab];exact ih
theorem iA {α:Type} {l:List (Str×α)} {q:Str->Bool} {x:Str} {a:α} (h:(l.filter fun p=>q p.1).lookup x=some a):q x=true:=by
 refine o0_2 (cH.mp (mem_of_lookup h)) fun h1 h2=>?_;exact h2
theorem FCk.yr {C:Cx} (ok:C.Ok) {n:Nat} {env:Env} {S:St} {f:Addr} {args:List AV} {kw:List (Str×AV)} {P:AV->List (Addr×AO)->Prop} {x:Str} {v0:Value} (hx:S.μ.lookup x=some (.raw v0)) (hk:Own env x)
  (h:∀ c o,o.data = .cell (some v0)->env.cells.lookup x=some c->FCk { C with Z:=(c,o)::C.Z } n f S.M args kw P) {A:Around} {Y D:List Addr} {dZ s:Shared} {vs:List Value} {ks:List (Str×Value)} {Q:Result->Shared->Prop}
  (ha:AOk n A) (R:Rel C Y dZ D env S s) (rv:VRs s.heap (Xo C Y env S) vs args) (rk:PRs s.heap (Xo C Y env S) ks kw)
  (q:∀ v s' av S',(S'.μ=S.μ/\P av S'.M)->Rel C Y dZ D env S' s'->Kp C Y env S s S' s'->VR s'.heap (Xo C Y env S') v av->Q (.ok (.ret v)) s'):codeAny (model C.prog C.w) A (.call (.ref f) ⟨vs,ks⟩) Q s:=by
 refine o2_5 (R.fr.cel x _ hx (.inl hk.1)) fun c v' e1 z1 r=>?_;refine o1_3 z1 fun o ho hd=>?_;clear z1;have ev:v0=v':=r.inv;subst ev;obtain ⟨μ,M⟩:=S;have hc:c ∈ fa env:=fB hk e1;refine o1_2 (⟨_,rfl⟩:∃ cl,fa env=env.locals::cl) fun cl hcl=>?_;have ndf:=lq R;have hloc:env.locals ∉ cl:=by rw [hcl] at ndf;exact (bV.mp ndf).1
 have hclf:∀ a ∈ cl,a ∈ fa env:=fun a h=>by rw [hcl];exact ai _ h
 have hcc:c ∈ cl:=by
  rw [hcl] at hc;exact (aG.mp hc).resolve_left (pG R hk e1)
 have disf:∀ a ∈ fa env,a ∉ fj M:=fun a h1 h2=>(aJ.mp R.nd).2.2 a h1 a h2 rfl;let C':Cx:={ C with Z:=(c,o)::C.Z }
 let env':Env:={ env with cells:=[] }
 have efa:fa env'=[env.locals]:=rfl;have hXo:∀ (M':List (Addr×AO)) μ1 μ2 a,a ∈ Xo C' (cl++Y) env' ⟨μ1,M'⟩↔a ∈ Xo C Y env ⟨μ2,M'⟩:=fun M' μ1 μ2 a=>by
  rw [fJ,fJ,efa,hcl];simp only [au,aG,List.not_mem_nil,or_false];show (a ∈ C.T\/_)↔_;constructor
  ·rintro (h | (h | h) | h | h)
   ·exact .inl h
   ·exact .inr (.inl (.inl (.inl h)))
   ·exact .inr (.inl (.inr h))
   ·exact .inr (.inl (.inl (.inr h)))
   ·exact .inr (.inr h)
  ·rintro (h | ((h | h) | h) | h)
   ·exact .inl h
   ·exact .inr (.inl (.inl h))
   ·exact .inr (.inr (.inl h))
   ·exact .inr (.inl (.inr h))
   ·exact .inr (.inr (.inr h))
 let q0:Str->Bool:=fun y=>env.kindOf y == some .local
 let μ':=μ.filter fun p=>q0 p.1
 have notD:∀ a,a ∈ cl++Y\/C.Old a->a ∉ env.locals::fj M:=fun a h1 h2=>by
  have h3:a ∈ fa env++fj M:=by
   rcases aG.mp h2 with h | h
   ·rw [h];exact af _ (jD env)
   ·exact aa _ h
  rcases h1 with h1 | h1
  ·rcases au.mp h1 with h1 | h1
   ·rcases aG.mp h2 with h | h
    ·exact hloc (h▸h1)
    ·exact disf a (hclf a h1) h
   ·exact R.dis a h1 h3
  ·exact (R.hi a (by rw [<- aH];exact af _ h3)).1 h1
 have up:∀ {v av},VR s.heap (Xo C Y env ⟨μ,M⟩) v av->VR s.heap (Xo C' (cl++Y) env' ⟨μ',M⟩) v av:=fun r=>r.sub fun a _ _ n h=>n ((hXo M μ' μ a).mp h);have R1:Rel C' (cl++Y) s (env.locals::fj M) env' ⟨μ',M⟩ s:=by
  refine ⟨⟨R.bs.K,R.bs.g,R.bs.b,R.bs.lim,R.bs.tab⟩,⟨R.ev.kind,R.ev.glob,R.ev.wV,R.ev.more⟩,⟨?_,fun y av e k=>?_,fun y c k e=>(nomatch e),fun y av e=>.inl ?_⟩,fun y c k e=>(nomatch e),fun p hp=>?_,?_,?_,fun a ha=>?_,.refl ..,fun a h=>.inl h,fun p hp=>?_⟩
  ·refine o1_3 R.fr.loc fun m hm z=>?_;refine ⟨m,hm,fun y av e k=>?_⟩;have hq:q0 y=true:=iA e;refine o1_3 (z y av ((lT hq).symm.trans e) k) fun v e2 r2=>?_;exact ⟨v,e2,up r2⟩
  ·have hq:q0 y=true:=iA e;have k':env.kindOf y=some .local:=by simpa [q0] using hq
   rcases k with k | k
   ·rw [show env'.kindOf y=env.kindOf y from rfl,k'] at k;cases k
   ·rw [show env'.kindOf y=env.kindOf y from rfl,k'] at k;cases k
  ·have hq:q0 y=true:=iA e;show env.kindOf y=some .local;simpa [q0] using hq
  ·exact (R.ob p hp).sub fun a _ _ n h=>n ((hXo M μ' μ a).mp h)
  ·rw [efa];exact bV.mpr ⟨disf _ (jD env),(aJ.mp R.nd).2.1⟩
  ·exact fun a h1 h2=>notD a (.inl h1) h2
  ·refine R.hi a ?_;rw [efa] at ha;simp only [au,aG,List.not_mem_nil,or_false] at ha ⊢;rcases ha with h | h | h | h
   ·exact .inl (h▸jD env)
   ·exact .inr (.inl h)
   ·exact .inl (hclf a h)
   ·exact .inr (.inr h)
  ·rcases aG.mp hp with h | h
   ·subst h;exact ⟨ho,af _ hcc,notD c (.inl (af _ hcc))⟩
   ·exact ⟨(R.zb p h).1,aa _ (R.zb p h).2.1,notD _ (.inl (aa _ (R.zb p h).2.1))⟩
 refine h c o hd e1 env' μ' A (cl++Y) s (env.locals::fj M) s vs ks Q ha R1 ?_ ?_ fun v s' av S' p R' K' r=>?_
 ·exact rv.imp fun _ _=>up
 ·exact rk.imp fun _ _=>up
 obtain ⟨μ1,M1⟩:=S';refine o0_2 p fun rf0 p=>?_;subst rf0;have dn:∀ {v av},VR s'.heap (Xo C' (cl++Y) env' ⟨μ',M1⟩) v av->VR s'.heap (Xo C Y env ⟨μ,M1⟩) v av:=fun r=>r.sub fun a _ _ n h=>n ((hXo M1 μ' μ a).mpr h);have Kall:Kp C Y env ⟨μ,M⟩ s ⟨μ,M1⟩ s':=fun v av r=>dn (K' v av (up r));have keep:∀ a o,a ∈ cl++Y\/C.Old a->a ∉ C.T->s.heap.get? a=some o->s'.heap.get? a=some o:=fun a o h1 h2 e=>R'.st.heap.keep a o e (notD a h1) h2;have cellIn:∀ {y c},env.kindOf y=some .cell\/env.kindOf y=some .free->env.cells.lookup y=some c->(c ∈ cl++Y\/C.Old c)/\c ∉ C.T:=fun {y c} k e=>by
  rcases iO k with k | k
  ·have hm:=fB k e;refine ⟨.inl (af _ ?_),R.tn (af _ hm)⟩;rw [hcl] at hm;exact (aG.mp hm).resolve_left (pG R k e)
  ·exact ⟨(R.free y c k e).imp (aa _) id,R.kZ ok k e⟩
 have Rf:Rel C Y dZ D env ⟨μ,M1⟩ s':=by
  refine ⟨⟨R'.bs.K,R'.bs.g,R'.bs.b,R'.bs.lim,R'.bs.tab⟩,R.ev,⟨?_,fun y av e k=>?_,fun y c k e=>?_,fun y av e=>R.fr.kind y av e⟩,R.free,fun p hp=>?_,?_,fun a h1 h2=>?_,fun a ha=>?_,R.st.trans R'.st fun a h=>R.own a ?_,fun a ha=>?_,R.z⟩
  ·refine o1_3 R'.fr.loc fun m hm z=>?_;refine ⟨m,hm,fun y av e k=>?_⟩;have hq:q0 y=true:=by simp [q0,k]
   refine o1_3 (z y av ((lT hq).trans e) k) fun v e2 r2=>?_;exact ⟨v,e2,dn r2⟩
  ·refine o2_5 (R.fr.cel y av e k) fun c2 v2 e2 z2 r2=>?_;refine o1_3 z2 fun o2 ho2 hd2=>?_;clear z2;exact ⟨c2,v2,e2,⟨o2,keep _ _ (cellIn k e2).1 (cellIn k e2).2 ho2,hd2⟩,Kall _ _ r2⟩
  ·refine o2_4 (R.fr.cells y c k e) fun ov o2 ho2 hd2=>?_;exact ⟨ov,o2,keep _ _ (cellIn (.inl k.1) e).1 (cellIn (.inl k.1) e).2 ho2,hd2⟩
  ·exact (R'.ob p hp).sub fun a _ _ n h=>n ((hXo M1 μ' μ a).mpr h)
  ·rw [aJ];refine ⟨ndf,(aJ.mp R'.nd).2.1,fun a h1 b h2 e=>?_⟩;subst e;rw [hcl] at h1;rcases aG.mp h1 with h | h
   ·exact (aJ.mp R'.nd).2.2 a (by rw [efa,h];exact aj ..) a h2 rfl
   ·exact R'.dis a (af _ h) (aa _ h2)
  ·rcases au.mp h2 with h | h
   ·exact R.dis a h1 (af _ h)
   ·exact R'.dis a (aa _ h1) (aa _ h)
  ·refine R'.hi a ?_;rw [efa];rw [hcl] at ha;simp only [au,aG,List.not_mem_nil,or_false] at ha ⊢;rcases ha with (h | h) | h | h
   ·exact .inl h
   ·exact .inr (.inr (.inl h))
   ·exact .inr (.inl h)
   ·exact .inr (.inr (.inr h))
  ·rcases aG.mp h with h | h
   ·rw [h];exact af _ (jD env)
   ·exact aa _ h
  ·rcases au.mp ha with h | h
   ·exact R.own a (af _ h)
   ·rcases R'.own a (aa _ h) with z | z
    ·refine R.own a ?_;rcases aG.mp z with z | z
     ·rw [z];exact af _ (jD env)
     ·exact aa _ z
    ·exact (R.gg z).2.2.2
 exact q v s' av ⟨μ,M1⟩ ⟨rfl,p⟩ Rf Kall (dn r)
end Mine
namespace Mine
end Mine
namespace Mine
noncomputable def t7 (cap:List (Str×Value)):List (Str×AV):=cap.map fun p=>(p.1,.raw p.2)
theorem kD {cap:List (Str×Value)} {x:Str} {av:AV} (h:(t7 cap).lookup x=some av):∃ v,cap.lookup x=some v/\av = .raw v:=by
 induction cap with
 | nil=>cases h
 | cons p cap ih =>
   obtain ⟨y,v⟩:=p;unfold t7 at h;rw [aU,bz] at h;rw [bz];cases e:x == y
   ·rw [e] at h;exact ih h
   ·rw [e] at h;exact ⟨v,rfl,(bE h).symm⟩
theorem yQ {C:Cx} (ok:C.Ok) {n:Nat} {f c':Addr} {M:List (Addr×AO)} {args:List AV} {ab:List (Str×AV)} {qual:Str} {params:Arguments} {body:Expr} {scope:Scope} {cl:List (Str×Addr)} {pm ctv:Value} {oc:Obj} {cap:List (Str×Value)} {P:AV->List (Addr×AO)->Prop}
  (hf:(f,AO.fix (kla_obj "<lambda>" qual params body scope cl pm c' ctv)) ∈ M) (hcd:(c',AO.fix oc) ∈ M) (hoc:∃ vs t,oc.data = .fields vs/\vs[1]? = some (.str qual t))
  (hco:scope.isCoroutine=false) (hgen:scope.isGenerator=false) (hkind:scope.kind = .function) (hcell:∀ x ∈ scope.names,x.2≠.cell) (hmore:∀ x ∈ scope.names,x.2 = .free->(x.1 == ("__classdict__" : Str))=false)
  (hclo:∀ x c,cl.lookup x=some c->∃ o,(c,o) ∈ C.Z) (hcap:∀ x v,cap.lookup x=some v->scope.names.lookup x=some .free/\∃ c o,cl.lookup x=some c/\(c,o) ∈ C.Z/\o.data = .cell (some v))
  (hbind:∀ vs,vs.length=args.length->∃ bs,bindArgs (kla_fn "<lambda>" qual params body scope cl pm (.ref c') ctv) ⟨vs,[]⟩=pure bs/\∀ h X,VRs h X vs args->PRs h X bs ab)
  (hloc:∀ x ∈ ab.map (·.1),scope.names.lookup x=some .local)
  (h:∀ L,EV C n (envX qual scope L f (.ref c') cl) ⟨ab.reverse++t7 cap,M⟩ body fun av S'=>P av S'.M):FC C (n+1) f M args P:=by
 intro env μ A Y dZ D s vs Q ha R rv q;refine o1_3 (hbind vs rv.length) fun bs hb rb'=>?_;have rb:=rb' _ _ rv;refine o2_4 hoc fun cvs t o1 o2=>?_;clear hoc;have hlocB:∀ x ∈ bs,scope.names.lookup x.1=some .local:=fun x hx=>hloc _ (by rw [<- rb.keys];exact aE.mpr ⟨x,hx,rfl⟩)
 refine kla_callFunE (by have:=ha.depth;show A.depth<1000;lia) (R.ob _ hf) rfl hco hgen rfl ⟨c',oc,cvs,t,rfl,R.ob _ hcd,o1,o2⟩ ?_
 rw [hb];refine ak (wpAny_newFunctionEnv hcell hlocB (fun iJ hns hsb=>?_) hkind);have yO:∀ b o,s.heap.get? b=some o->iJ.get? b=some o:=fun b o e=>hsb.extBut b o (cz (bH e)) (aA _ e);have x:fC C.T [] s { s with heap:=iJ,toks:=s.toks+bs.length }:=⟨.of_keeps yO,rfl,rfl,id⟩
 have kindE:∀ y,(envX qual scope s.heap.objs.size f (.ref c') cl).kindOf y=scope.names.lookup y:=fun _=>rfl;have nocell:cl.filter (fun p=>(envX qual scope s.heap.objs.size f (.ref c') cl).kindOf p.1 == some .cell && (envX qual scope s.heap.objs.size f (.ref c') cl).func.isSome)=[]:=by
  rw [cB];intro p _ hp;have:scope.names.lookup p.1=some .cell:=by simpa [kindE] using hp
  exact hcell (p.1,.cell) (mem_of_lookup this) rfl
 have efa:fa (envX qual scope s.heap.objs.size f (.ref c') cl)=[s.heap.objs.size]:=by
  unfold fa;exact congrArg (fun l:List (Str×Addr)=>s.heap.objs.size::l.map (·.2)) nocell
 have hfr:∀ b ∈ fa (envX qual scope s.heap.objs.size f (.ref c') cl),s.heap.get? b=none:=fun b hb=>by
  rw [efa] at hb;have e:b=s.heap.objs.size:=by simpa using hb
  subst e;exact eH _
 have look:∀ {y av},(ab.reverse++t7 cap).lookup y=some av->ab.reverse.lookup y=some av\/(t7 cap).lookup y=some av:=fun {y av} e=>by
  rw [cN] at e;cases h:ab.reverse.lookup y with
  | none=>rw [h] at e;exact .inr e
  | some a=>rw [h] at e;exact .inl e
 have locK:∀ {y av},ab.reverse.lookup y=some av->scope.names.lookup y=some .local:=fun e =>
  hloc _ (aE.mpr ⟨_,cy.mp (mem_of_lookup e),rfl⟩)
 have d9:Rel C (fa env++Y) s (fj M) (envX qual scope s.heap.objs.size f (.ref c') cl) ⟨ab.reverse++t7 cap,M⟩ { s with heap:=iJ,toks:=s.toks+bs.length }:=by
  refine R.enter (S:=⟨μ,M⟩) ok x hfr (fun b hb=>?_) (by rw [efa];simp) ⟨hkind,rfl,rfl,fun y ky=>hmore (y,.free) (mem_of_lookup ky) rfl⟩ ⟨⟨_,hns,fun y av e k=>?_⟩,fun y av e k=>?_,fun y c k _=>absurd rfl (hcell (y,.cell) (mem_of_lookup k.1)),fun y av e=>?_⟩ fun y c _ e=>?_
  ·rw [efa] at hb;have e:b=s.heap.objs.size:=by simpa using hb
   refine o3_5 hns fun o _ _ q _=>?_;clear hns;exact e▸⟨o,q⟩
  ·rcases look e with e | e
   ·refine o1_3 (rb.rev.look e) fun v e1 r=>?_;exact ⟨v,e1,(r.sub (enterX hfr)).stp x.heap (fun _ h=>nomatch h) (fun a h=>af _ h)⟩
   ·refine o1_3 (kD e) fun v e1 rf2=>?_;subst rf2;rw [kindE,(hcap y v e1).1] at k;cases k
  ·rcases look e with e | e
   ·rw [kindE,locK e] at k;rcases k with k | k <;> cases k
   ·refine o1_3 (kD e) fun v e1 rf2=>?_;subst rf2;refine o0_2 (hcap y v e1) fun _ zz=>?_;refine o2_5 zz fun c o e2 hz hd=>?_;exact ⟨c,v,e2,⟨o,yO _ _ (R.zb _ hz).1,hd⟩,.raw v⟩
  ·rcases look e with e | e
   ·exact .inl (locK e)
   ·refine o1_3 (kD e) fun v e1 rf2=>?_;subst rf2;exact .inr (.inr (hcap y v e1).1)
  ·refine o1_2 (hclo y c e) fun o hz=>?_;exact .inl (aa _ (R.zb _ hz).2.1)
 refine ⟨d9.bs.lim,?_⟩;refine kla_codeExpr (bx (h s.heap.objs.size (A.deeper (envX qual scope s.heap.objs.size f (.ref c') cl)) _ _ _ _ (fun v s'=>Q (.ok (.ret v)) s') (ha.deeper _) d9 fun r s' b S' p R' K' rr=>?_) (fun _ _ z=>z) fun _ _ e=>e.elim);refine o0_3 (R.leave (S:=⟨μ,M⟩) ok R') fun Ra Ka Va=>?_;exact q _ _ _ ⟨μ,S'.M⟩ ⟨rfl,p⟩ Ra Ka (Va _ _ rr)
end Mine
namespace Mine
section
variable {C:Cx} {n:Nat} {env:Env} {S:St}
theorem EV.yt {f:Addr} {x:Str} {e:Expr} {es:List Expr} {p pos:Pos} {P:AV->St->Prop} {oc:Value} {od:Option Addr} {fd:FuncData} {sl:Array (Option Value)} (hf:PE C n env S (.Name x p) (.raw (.ref f))) (hM:(f,AO.fix ⟨oc,od,.func fd,sl⟩) ∈ S.M)
  (h:EL C n env S pos (e::es) fun l d7=>(f,AO.fix ⟨oc,od,.func fd,sl⟩) ∈ d7.M/\VN C n env d7 (fun vs=>call (.ref f) vs) l P)
  (he:starEach (e::es) env=(false,eval e env)::starEach es env:=by rfl) (hplain:(backTo pos (starEach es env)).any (·.1)=false:=by rfl):EV C n env S (.Call (.Name x p) (e::es) [] pos) P :=
 fun A Y dZ D s Q ha R q=>cL (G.at hf ha R fun g ee d9 eE fy=>by
  refine VR.fM fy ?_;refine callWith_F ⟨oc,od,fd,sl,d9.ob _ hM⟩ ?_ he hplain;exact h A Y dZ D ee _ ha d9 fun vs d8 l eG fh eB eN fz=>⟨⟨oc,od,fd,sl,eB.ob _ fh.1⟩,fh.2 A Y dZ D d8 vs Q ha eB fz fun r ez b fk fF eV fG f7=>q r ez b fk fF eV ((eE.trans eN).trans fG) f7⟩)
end
end Mine
namespace Mine
noncomputable def abK (a b k:AV):List (Str×AV):=[("a", a),("x", b),("lo", .int 0),("hi", .none),("key", k)]
theorem yU {C:Cx} {fd:FuncData} {T:Addr} {o:Obj} {a b k:AV} (ho:C.K.lookup T=some o)
  (h4:∀ u v p q w,evO 40 [o] (bindArgs fd ⟨[u,v,p,q],[("key", w)]⟩)=some ([T],([("a", u),("x", v),("lo", p),("hi", q),("key", w)]:List (Str×Value)))) :
  ∀ h X vs ks,VRs h X vs [a,b,.int 0,.none]->PRs h X ks ([("key", k)]:List (Str×AV))->C.K.In h->(∀ a,C.Old a->a ∉ X)->∃ bs,(∀ s:Shared,s.heap=h->BindsTo s fd ⟨vs,ks⟩ bs)/\PRs h X bs (abK a b k):=fun hp X vs ks r rk hK _=>by
 refine VRs.eW r fun u _ r rs=>?_;refine VRs.eW rs fun v _ r' rs=>?_;refine VRs.eW rs fun p _ r2 rs=>?_;refine VRs.eW rs fun q _ r3 rs=>?_;refine VRs.fN rs ?_;cases rk with
 | cons rk rn =>
   cases rn;exact ⟨_,fun s e M A E Q hq=>kR _ (h4 u v p q _) (.cons (e▸hK _ _ ho) .nil) hq,.cons r (.cons r' (.cons r2 (.cons r3 (.cons rk .nil))))⟩
section
variable {w:World} {mg mb:Str->Option Value} {Z:Frag} (g:GA w mg mb)
include g
theorem yv {n:Nat} {M:List (Addr×AO)} {r f:Addr} {l:List AV} {xi:Int} {k:Nat} {kf:AV->Int} {oc:Value} {od:Option Addr} {fd:FuncData} {sl:Array (Option Value)} (hM:(r,AO.list l) ∈ M) (hfM:(f,AO.fix ⟨oc,od,.func fd,sl⟩) ∈ M) (hz:l.length<=1000) (hk:k<=l.length)
  (hkey:∀ c ∈ l,FC (CA w mg mb Z) (n+1) f M [c] fun a M'=>a = .int (kf c)/\M'=M) (hp:∀ i c,l[i]? = some c->decide (xi<kf c)=decide (k<=i)) :
  FCk (CA w mg mb Z) (n+2) 133 M [.raw (.ref r),.int xi,.int 0,.none] [("key", .raw (.ref f))] (fun a M'=>a = .int k/\M'=M):=by
 have ok:=okA (Z:=Z) g;have sl:sizeLine=16777216:=by decide
 refine jl ok (ab:=abK (.raw (.ref r)) (.int xi) (.raw (.ref f))) ⟨⟨_,rfl,rfl⟩,⟨_,_,_,_,rfl,rfl,rfl,rfl⟩,rfl,rfl,rfl,(fun x c h=>by cases h),rfl,rfl,rfl,by decide⟩ (by decide)
  ?hb (by intro x hx;simp [abK] at hx;rcases hx with rfl | rfl | rfl | rfl | rfl <;> rfl) ?hbody
 case hb=>exact yU (T:=125) rfl (by intro u v p q w;kernel_rfl)
 intro L;refine EX.cons (E1.ite ((PT.cmp (PE.name rfl) (PE.int ok) (O.lt ok)).then ?_))
 rw [aq (by decide)]
 refine EX.nil (EX.cons (E1.ite ((PT.cmp (PE.name rfl) PE.nul (O.fY ok rfl)).then ?_)))
 rw [ay rfl];refine EX.cons (E1.assign ok (.inl rfl) ((PE.i6 (PE.gB rfl (g.non _ rfl) ((g.mb _ (by decide)).trans rfl)) (PL.cons (PE.name rfl) PL.nil) (O.lu ok hM (by lia))).then (EX.nil ?_)))
 refine EX.cons (E1.ite ((PT.cmp (PE.name rfl) PE.nul (O.fY ok rfl)).then ?_))
 rw [aq (by decide)]
 refine EX.cons (j4 ok (fun m S=>∃ lo hi:Nat,lo<=k/\k<=hi/\hi<=l.length/\m=hi - lo/\S=⟨[("key", .raw (.ref f)),("hi", .int hi),("lo", .int lo),("x", .int xi),("a", .raw (.ref r))],M⟩) l.length ⟨0,l.length,by lia,hk,by lia,by lia,rfl⟩ ?_)
 intro m d7 hz;refine o2_7 hz fun lo hi h1 h2 h3 rf5 rf6=>?_;clear hz;subst rf5;subst rf6;refine (PT.cmp (PE.name rfl) (PE.name rfl) (O.lt ok)).then ?_
 by_cases hlt:lo<hi
 ·rw [ay (by simpa using hlt)]
  have hm:(lo+hi) / 2<l.length:=by lia
  refine o1_2 (⟨_,aX hm⟩:∃ c,l[(lo+hi) / 2]? = some c) fun c hcm=>?_;refine EX.cons (E1.assign ok (.inl rfl) ((PE.cast (PE.bin (PE.bin (PE.name rfl) (PE.name rfl) (O.add ok)) (PE.int ok) (O.fdiv ok (by decide) (by decide))) (congrArg AV.int (yc g lo hi))).then ?_))
  refine EX.cons (E1.ite ?_);refine ET.cmp ((PE.name rfl).then ?_)
  refine EV.yt (PE.name rfl) hfM (PL.then (PL.cons (PE.sub (PE.name rfl) (PE.name rfl) (O.ju ok hM (by lia) (by rw [bL];exact hcm) (by lia))) PL.nil) ⟨hfM,((hkey c (aV hcm)).fn _ _).mono (eqS ?_)⟩)
  refine G2.mono (O.lt ok) (eq2 ?_);refine G1.mono T1.bool (eq2 ?_);rw [hp _ _ hcm];by_cases hkm:k<=(lo+hi) / 2
  ·rw [ay (by simpa using hkm)]
   refine EX.cons (E1.assign ok (.inl rfl) ((PE.name rfl).then (EX.nil (EX.nil ?_))))
   exact ⟨_,Le.pre (ν:=[("mid", .int ((lo+hi) / 2:Nat))]),_,by lia,lo,(lo+hi) / 2,h1,hkm,by lia,rfl,rfl⟩
  ·rw [aq (by simpa using hkm)]
   refine EX.cons (E1.assign ok (.inl rfl) ((PE.cast (PE.bin (PE.name rfl) (PE.int ok) (O.add ok)) (show AV.int ((((lo+hi) / 2:Nat):Int)+1)=AV.int (((lo+hi) / 2+1:Nat):Int) by rw [cJ];rfl)).then (EX.nil (EX.nil ?_))))
   exact ⟨_,Le.pre (ν:=[("mid", .int ((lo+hi) / 2:Nat))]),_,by lia,(lo+hi) / 2+1,hi,by lia,h2,h3,rfl,rfl⟩
 ·rw [aq (by simpa using hlt)]
  have:lo=k:=by lia
  subst this;exact EX.nil (EX.cons (E1.ret ((PE.name rfl).then ⟨rfl,rfl⟩)))
theorem yw {n:Nat} {M:List (Addr×AO)} {r f:Addr} {l:List AV} {xi:Int} {k:Nat} {kf:AV->Int} {oc:Value} {od:Option Addr} {fd:FuncData} {sl:Array (Option Value)} (hM:(r,AO.list l) ∈ M) (hfM:(f,AO.fix ⟨oc,od,.func fd,sl⟩) ∈ M) (hz:l.length<=1000) (hk:k<=l.length)
  (hkey:∀ c ∈ l,FC (CA w mg mb Z) (n+1) f M [c] fun a M'=>a = .int (kf c)/\M'=M) (hp:∀ i c,l[i]? = some c->decide (kf c<xi)=decide (i<k)) :
  FCk (CA w mg mb Z) (n+2) 151 M [.raw (.ref r),.int xi,.int 0,.none] [("key", .raw (.ref f))] (fun a M'=>a = .int k/\M'=M):=by
 have ok:=okA (Z:=Z) g;have sl:sizeLine=16777216:=by decide
 refine jl ok (ab:=abK (.raw (.ref r)) (.int xi) (.raw (.ref f))) ⟨⟨_,rfl,rfl⟩,⟨_,_,_,_,rfl,rfl,rfl,rfl⟩,rfl,rfl,rfl,(fun x c h=>by cases h),rfl,rfl,rfl,by decide⟩ (by decide)
  ?hb (by intro x hx;simp [abK] at hx;rcases hx with rfl | rfl | rfl | rfl | rfl <;> rfl) ?hbody
 case hb=>exact yU (T:=143) rfl (by intro u v p q w;kernel_rfl)
 intro L;refine EX.cons (E1.ite ((PT.cmp (PE.name rfl) (PE.int ok) (O.lt ok)).then ?_))
 rw [aq (by decide)]
 refine EX.nil (EX.cons (E1.ite ((PT.cmp (PE.name rfl) PE.nul (O.fY ok rfl)).then ?_)))
 rw [ay rfl];refine EX.cons (E1.assign ok (.inl rfl) ((PE.i6 (PE.gB rfl (g.non _ rfl) ((g.mb _ (by decide)).trans rfl)) (PL.cons (PE.name rfl) PL.nil) (O.lu ok hM (by lia))).then (EX.nil ?_)))
 refine EX.cons (E1.ite ((PT.cmp (PE.name rfl) PE.nul (O.fY ok rfl)).then ?_))
 rw [aq (by decide)]
 refine EX.cons (j4 ok (fun m S=>∃ lo hi:Nat,lo<=k/\k<=hi/\hi<=l.length/\m=hi - lo/\S=⟨[("key", .raw (.ref f)),("hi", .int hi),("lo", .int lo),("x", .int xi),("a", .raw (.ref r))],M⟩) l.length ⟨0,l.length,by lia,hk,by lia,by lia,rfl⟩ ?_)
 intro m d7 hz;refine o2_7 hz fun lo hi h1 h2 h3 rf5 rf6=>?_;clear hz;subst rf5;subst rf6;refine (PT.cmp (PE.name rfl) (PE.name rfl) (O.lt ok)).then ?_
 by_cases hlt:lo<hi
 ·rw [ay (by simpa using hlt)]
  have hm:(lo+hi) / 2<l.length:=by lia
  refine o1_2 (⟨_,aX hm⟩:∃ c,l[(lo+hi) / 2]? = some c) fun c hcm=>?_;refine EX.cons (E1.assign ok (.inl rfl) ((PE.cast (PE.bin (PE.bin (PE.name rfl) (PE.name rfl) (O.add ok)) (PE.int ok) (O.fdiv ok (by decide) (by decide))) (congrArg AV.int (yc g lo hi))).then ?_))
  refine EX.cons (E1.ite ?_);refine ET.cmp ?_;refine EV.yt (PE.name rfl) hfM (PL.then (PL.cons (PE.sub (PE.name rfl) (PE.name rfl) (O.ju ok hM (by lia) (by rw [bL];exact hcm) (by lia))) PL.nil) ⟨hfM,((hkey c (aV hcm)).fn _ _).mono (eqS ?_)⟩)
  refine (PE.name rfl).then ?_
  refine G2.mono (O.lt ok) (eq2 ?_);refine G1.mono T1.bool (eq2 ?_);rw [hp _ _ hcm];by_cases hkm:(lo+hi) / 2<k
  ·rw [ay (by simpa using hkm)]
   refine EX.cons (E1.assign ok (.inl rfl) ((PE.cast (PE.bin (PE.name rfl) (PE.int ok) (O.add ok)) (show AV.int ((((lo+hi) / 2:Nat):Int)+1)=AV.int (((lo+hi) / 2+1:Nat):Int) by rw [cJ];rfl)).then (EX.nil (EX.nil ?_))))
   exact ⟨_,Le.pre (ν:=[("mid", .int ((lo+hi) / 2:Nat))]),_,by lia,(lo+hi) / 2+1,hi,by lia,h2,h3,rfl,rfl⟩
  ·rw [aq (by simpa using hkm)]
   refine EX.cons (E1.assign ok (.inl rfl) ((PE.name rfl).then (EX.nil (EX.nil ?_))))
   exact ⟨_,Le.pre (ν:=[("mid", .int ((lo+hi) / 2:Nat))]),_,by lia,lo,(lo+hi) / 2,h1,by lia,by lia,rfl,rfl⟩
 ·rw [aq (by simpa using hlt)]
  have:lo=k:=by lia
  subst this;exact EX.nil (EX.cons (E1.ret ((PE.name rfl).then ⟨rfl,rfl⟩)))
end
end Mine
namespace Mine
noncomputable def KCall (C:Cx) (n:Nat) (env:Env) (S:St) (f:Addr) (l:List AV) (kw:List (Str×AV)) (P:AV->St->Prop):Prop :=
 ∀ A Y dZ D s vs ks (Q:Result->Shared->Prop),AOk n A->Rel C Y dZ D env S s->VRs s.heap (Xo C Y env S) vs l->PRs s.heap (Xo C Y env S) ks kw ->
   (∀ v s' av S',P av S'->Rel C Y dZ D env S' s'->Kp C Y env S s S' s'->VR s'.heap (Xo C Y env S') v av->Q (.ok (.ret v)) s')->codeAny (model C.prog C.w) A (.call (.ref f) ⟨vs,ks⟩) Q s
section
variable {C:Cx} {n:Nat} {env:Env} {S:St}
theorem FCk.call {f:Addr} {args:List AV} {kw:List (Str×AV)} {P:AV->List (Addr×AO)->Prop} (h:FCk C n f S.M args kw P):KCall C n env S f args kw fun av S'=>S'.μ=S.μ/\P av S'.M :=
 fun A Y dZ D s vs ks Q ha R rv rk q=>h env S.μ A Y dZ D s vs ks Q ha R rv rk q
theorem KCall.mono {f:Addr} {l:List AV} {kw:List (Str×AV)} {P P':AV->St->Prop} (h:KCall C n env S f l kw P) (hp:∀ av S',P av S'->P' av S'):KCall C n env S f l kw P' :=
 fun A Y dZ D s vs ks Q ha R rv rk q=>h A Y dZ D s vs ks Q ha R rv rk fun v s' av S' p=>q v s' av S' (hp _ _ p)
theorem EV.sS {f:Addr} {x kx:Str} {e ke:Expr} {es:List Expr} {p pos kp:Pos} {P:AV->St->Prop} {o:Obj} {fd:FuncData} (hf:PE C n env S (.Name x p) (.raw (.ref f))) (hK:C.K.lookup f=some o) (hd:o.data = .func fd)
  (h:EL C n env S pos (e::es) fun l d7=>EV C n env d7 ke fun kav eG=>KCall C n env eG f l [(kx,kav)] P)
  (he:starEach (e::es) env=(false,eval e env)::starEach es env:=by rfl):EV C n env S (.Call (.Name x p) (e::es) [⟨some kx,ke,kp⟩] pos) P :=
 fun A Y dZ D s Q ha R q=>cL (G.at hf ha R fun g ee d9 eE fy=>by
  refine VR.fM fy ?_;refine callWith_function_kw (o:=o) (fd:=fd) ?_;rw [he];refine evalArgs_kw rfl ?_;have h1:=h A Y dZ D ee (fun vs d8=>wpAny (model C.prog C.w) A (evalAll ((backToKw pos (keywordEach [⟨some kx,ke,kp⟩] env)).map (·.2))) (fun ks ez=>(ez.heap.get? f=some o/\o.data = .func fd)/\wpAny (model C.prog C.w) A (call (.ref f) ([]++vs) (((backToKw pos (keywordEach [⟨some kx,ke,kp⟩] env)).filterMap (·.1)).zip ks)) Q No ez) No d8) ha d9 fun vs d8 l eG fh eB eN fz=>by
   refine wpAny_evalAll_cons (ah (fh A Y dZ D d8 _ ha eB fun kv ez kav fk fF eV fG f7=>ah (bY (ak ?_))));refine wpAny_evalAll_nil ?_;refine ⟨⟨eV.bs.K _ _ hK,hd⟩,dF (fF A Y dZ D ez vs [(kx,kv)] _ ha eV (fG.all fz) (.cons f7 .nil) fun v s' av S' pp R' K' r=>q v s' av S' pp R' (((eE.trans eN).trans fG).trans K') r)⟩
  rw [he] at h1;exact h1)
end
end Mine
namespace Mine
theorem yT {C:Cx} {fd:FuncData} {T:Addr} {o:Obj} {n:Nat} {t0:Tok} {a b k:AV} (ho:C.K.lookup T=some o) (hs:o.data = .seq #[.int 0 t0,.none] n)
  (h4:∀ u v w,evO 40 [o] (bindArgs fd ⟨[u,v],[("key", w)]⟩)=some ([T],([("a", u),("x", v),("lo", .int 0 t0),("hi", .none),("key", w)]:List (Str×Value)))) :
  ∀ h X vs ks,VRs h X vs [a,b]->PRs h X ks ([("key", k)]:List (Str×AV))->C.K.In h->(∀ a,C.Old a->a ∉ X)->∃ bs,(∀ s:Shared,s.heap=h->BindsTo s fd ⟨vs,ks⟩ bs)/\PRs h X bs (abK a b k):=fun hp X vs ks r rk hK _=>by
 refine VRs.eW r fun u _ r rs=>?_;refine VRs.eW rs fun v _ r' rs=>?_;refine VRs.fN rs ?_;cases rk with
 | cons rk rn =>
   cases rn;exact ⟨_,fun s e M A E Q hq=>kR _ (h4 u v _) (.cons (e▸hK _ _ ho) .nil) hq,.cons r (.cons r' (.cons (.int ..) (.cons .none (.cons rk .nil))))⟩
section
variable {w:World} {mg mb:Str->Option Value} {Z:Frag} (g:GA w mg mb)
include g
theorem xX {n:Nat} {M:List (Addr×AO)} {i:Nat} {r f:Addr} {l:List AV} {xv:AV} {xi:Int} {k:Nat} {kf:AV->Int} {oc:Value} {od:Option Addr} {fd:FuncData} {sl:Array (Option Value)} (hM:M[i]? = some (r,AO.list l)) (hfM:(f,AO.fix ⟨oc,od,.func fd,sl⟩) ∈ M) (hz:l.length<=1000) (hk:k<=l.length)
  (hkx:FC (CA w mg mb Z) (n+2) f M [xv] fun a M'=>a = .int xi/\M'=M) (hkey:∀ c ∈ l,FC (CA w mg mb Z) (n+1) f M [c] fun a M'=>a = .int (kf c)/\M'=M) (hp:∀ i c,l[i]? = some c->decide (xi<kf c)=decide (k<=i)) :
  FCk (CA w mg mb Z) (n+3) 124 M [.raw (.ref r),xv] [("key", .raw (.ref f))] (fun a M'=>a = .none/\M'=M.set i (r,.list (O.n8 l k xv))):=by
 have ok:=okA (Z:=Z) g;have sl:sizeLine=16777216:=by decide
 refine jl ok (ab:=abK (.raw (.ref r)) xv (.raw (.ref f))) ⟨⟨_,rfl,rfl⟩,⟨_,_,_,_,rfl,rfl,rfl,rfl⟩,rfl,rfl,rfl,(fun x c h=>by cases h),rfl,rfl,rfl,by decide⟩ (by decide)
  ?hb (by intro x hx;simp [abK] at hx;rcases hx with rfl | rfl | rfl | rfl | rfl <;> rfl) ?hbody
 case hb=>exact yT (T:=116) rfl rfl (by intro u v w;kernel_rfl)
 intro L;refine EX.cons (E1.ite ((PT.cmp (PE.name rfl) PE.nul (O.fY ok rfl)).then ?_))
 rw [aq (by decide)]
 refine EX.cons ?_;refine E1.loc ok ?_;refine EV.sS (PE.glob rfl (g.glo _ _ rfl)) (show (CA w mg mb Z).K.lookup 133=some _ from rfl) rfl ?_;refine PL.then (PL.cons (PE.name rfl) (PL.cons (a:=.int xi) ?hkk (PL.cons (PE.name rfl) (PL.cons (PE.name rfl) PL.nil)))) ?_
 case hkk =>
  refine EV.yt (PE.name rfl) hfM (PL.then (PL.cons (PE.name rfl) PL.nil) ⟨hfM,(hkx.fn _ _).mono (eqS ?_)⟩)
  exact ⟨rfl,rfl⟩
 refine (PE.name rfl).then ?_
 refine KCall.mono (FCk.call (yv g (eu hM) hfM hz hk hkey hp)) (eqS ?_);refine EX.nil ?_;refine EX.cons (E1.expr (EV.mF F.slot_list_insert cZ F.type_list_insert ((PE.name rfl).then ⟨r,rfl,lU (eu hM),PL.then (PL.cons (PE.name rfl) (PL.cons (PE.name rfl) PL.nil)) (O.insert ok hM (by lia) (by lia) (by lia) (EX.nil ⟨rfl,?_⟩))⟩)))
 rw [bL]
theorem xY {n:Nat} {M:List (Addr×AO)} {i:Nat} {r f:Addr} {l:List AV} {xv:AV} {xi:Int} {k:Nat} {kf:AV->Int} {oc:Value} {od:Option Addr} {fd:FuncData} {sl:Array (Option Value)} (hM:M[i]? = some (r,AO.list l)) (hfM:(f,AO.fix ⟨oc,od,.func fd,sl⟩) ∈ M) (hz:l.length<=1000) (hk:k<=l.length)
  (hkx:FC (CA w mg mb Z) (n+2) f M [xv] fun a M'=>a = .int xi/\M'=M) (hkey:∀ c ∈ l,FC (CA w mg mb Z) (n+1) f M [c] fun a M'=>a = .int (kf c)/\M'=M) (hp:∀ i c,l[i]? = some c->decide (kf c<xi)=decide (i<k)) :
  FCk (CA w mg mb Z) (n+3) 142 M [.raw (.ref r),xv] [("key", .raw (.ref f))] (fun a M'=>a = .none/\M'=M.set i (r,.list (O.n8 l k xv))):=by
 have ok:=okA (Z:=Z) g;have sl:sizeLine=16777216:=by decide
 refine jl ok (ab:=abK (.raw (.ref r)) xv (.raw (.ref f))) ⟨⟨_,rfl,rfl⟩,⟨_,_,_,_,rfl,rfl,rfl,rfl⟩,rfl,rfl,rfl,(fun x c h=>by cases h),rfl,rfl,rfl,by decide⟩ (by decide)
  ?hb (by intro x hx;simp [abK] at hx;rcases hx with rfl | rfl | rfl | rfl | rfl <;> rfl) ?hbody
 case hb=>exact yT (T:=134) rfl rfl (by intro u v w;kernel_rfl)
 intro L;refine EX.cons (E1.ite ((PT.cmp (PE.name rfl) PE.nul (O.fY ok rfl)).then ?_))
 rw [aq (by decide)]
 refine EX.cons ?_;refine E1.loc ok ?_;refine EV.sS (PE.glob rfl (g.glo _ _ rfl)) (show (CA w mg mb Z).K.lookup 151=some _ from rfl) rfl ?_;refine PL.then (PL.cons (PE.name rfl) (PL.cons (a:=.int xi) ?hkk (PL.cons (PE.name rfl) (PL.cons (PE.name rfl) PL.nil)))) ?_
 case hkk =>
  refine EV.yt (PE.name rfl) hfM (PL.then (PL.cons (PE.name rfl) PL.nil) ⟨hfM,(hkx.fn _ _).mono (eqS ?_)⟩)
  exact ⟨rfl,rfl⟩
 refine (PE.name rfl).then ?_
 refine KCall.mono (FCk.call (yw g (eu hM) hfM hz hk hkey hp)) (eqS ?_);refine EX.nil ?_;refine EX.cons (E1.expr (EV.mF F.slot_list_insert cZ F.type_list_insert ((PE.name rfl).then ⟨r,rfl,lU (eu hM),PL.then (PL.cons (PE.name rfl) (PL.cons (PE.name rfl) PL.nil)) (O.insert ok hM (by lia) (by lia) (by lia) (EX.nil ⟨rfl,?_⟩))⟩)))
 rw [bL]
end
end Mine
namespace Mine
noncomputable def e7 (M' M:List (Addr×AO)):Prop:=∃ R,(M'++R).Perm M
theorem e7.of {M' M R:List (Addr×AO)} (h:(M'++R).Perm M):e7 M' M:=⟨R,h⟩
theorem e7.mem {M' M:List (Addr×AO)} (h:e7 M' M) {p:Addr×AO} (hp:p ∈ M'):p ∈ M :=
 h.elim fun _ h=>h.mem_iff.mp (af _ hp)
theorem e7.fj {M' M:List (Addr×AO)} (h:e7 M' M) {a:Addr} (ha:a ∈ Mine.fj M'):a ∈ Mine.fj M:=by
 refine o1_3 (bK.mp ha) fun p hp hb=>?_;exact eU (h.mem hp) hb
theorem vR {M' M:List (Addr×AO)} (h:M'.Perm M):(fj M').Perm (fj M):=h.flatMap_right foot
theorem qL {M' M:List (Addr×AO)}:fj (M'++M)=fj M'++fj M:=c8
theorem e7.nodup {M' M:List (Addr×AO)} (h:e7 M' M) {l:List Addr} (nd:(l++Mine.fj M).Nodup):(l++Mine.fj M').Nodup:=by
 refine o1_2 h fun R h=>?_;have h2:=((vR h).append_left l).symm.nodup nd;rw [qL,<- aH] at h2;exact (aJ.mp h2).1
section
variable {C:Cx} {Y D:List Addr} {dZ s:Shared} {env:Env} {μ μ':List (Str×AV)} {M M':List (Addr×AO)} {n:Nat} {S S':St}
theorem e7.Xo (h:e7 M' M) {a:Addr} (ha:a ∈ Mine.Xo C Y env ⟨μ',M'⟩):a ∈ Mine.Xo C Y env ⟨μ,M⟩:=by
 rw [fJ] at ha ⊢;simp only [au] at ha ⊢;rcases ha with q | (q | q) | q
 ·exact .inl q
 ·exact .inr (.inl (.inl q))
 ·exact .inr (.inl (.inr (h.fj q)))
 ·exact .inr (.inr q)
theorem e7.vr (h:e7 M' M) {v:Value} {av:AV} (r:VR s.heap (Mine.Xo C Y env ⟨μ,M⟩) v av):VR s.heap (Mine.Xo C Y env ⟨μ',M'⟩) v av:=r.sub fun _ _ _ n q=>n (h.Xo q)
theorem Rel.jb (R:Rel C Y dZ D env ⟨μ,M⟩ s) (h:e7 M' M):Rel C Y dZ D env ⟨μ,M'⟩ s:=by
 have up:∀ a,a ∈ fa env++fj M'->a ∈ fa env++fj M:=fun a ha=>by
  rcases au.mp ha with q | q
  ·exact af _ q
  ·exact aa _ (h.fj q)
 refine ⟨R.bs,R.ev,?_,R.free,fun p hp=>(R.ob p (h.mem hp)).sub fun _ _ _ n q=>n (h.Xo q),h.nodup R.nd,fun a ha q=>R.dis a ha (up a q),fun a ha=>R.hi a ?_,R.st,fun a ha=>R.own a (up a ha),R.z⟩
 ·exact (R.fr.sub fun _ _ _ n q=>n (h.Xo q))
 ·rcases au.mp ha with q | q
  ·exact af _ q
  ·refine aa _ ?_;rcases au.mp q with q | q
   ·exact af _ (h.fj q)
   ·exact aa _ q
theorem G.conv {α β:Type} {RR:Heap->List Addr->α->β->Prop} {m:Sem α} {P:β->St->Prop}
  (h:∀ Y dZ D s,Rel C Y dZ D env S s->Rel C Y dZ D env S' s/\∀ v av,VR s.heap (Mine.Xo C Y env S) v av->VR s.heap (Mine.Xo C Y env S') v av) (k:G C n env RR S' m P):G C n env RR S m P :=
 fun A Y dZ D s Q ha R q=>k A Y dZ D s Q ha (h Y dZ D s R).1 fun r s' b S'' p R' K' rr=>q r s' b S'' p R' (fun v av z=>K' v av ((h Y dZ D s R).2 v av z)) rr
theorem G.jb {α β:Type} {RR:Heap->List Addr->α->β->Prop} {m:Sem α} {P:β->St->Prop} (h:e7 M' M) (k:G C n env RR ⟨μ,M'⟩ m P):G C n env RR ⟨μ,M⟩ m P :=
 G.conv (fun Y dZ D s R=>⟨R.jb h,fun v av r=>h.vr r⟩) k
theorem Rel.vN {a:Addr} {l:List AV} (R:Rel C Y dZ D env ⟨μ,(a,.list l)::M⟩ s):Rel C Y dZ D env ⟨μ,M⟩ s/\VR s.heap (Mine.Xo C Y env ⟨μ,M⟩) (.ref a) (.lst l):=by
 have hs:e7 M ((a,AO.list l)::M):=⟨[(a,.list l)],aZ⟩;refine o2_4 (R.ob _ (aj ..)) fun vs k e rv=>?_;have hnd:a ∉ fa env++fj M:=fun q=>by
  have nd:=R.nd;have e1:fj ((a,AO.list l)::M)=a::fj M:=rfl;rw [e1] at nd;have:=List.perm_middle.nodup_iff.mp nd;exact (bV.mp this).1 q
 have hX:a ∉ Mine.Xo C Y env ⟨μ,M⟩:=fun q=>by
  rw [fJ] at q;have hi:=R.hi a (aa _ (af _ (aj ..)));rcases q with q | q | q
  ·exact hi.2.1 q
  ·exact hnd q
  ·exact R.dis a q (aa _ (aj ..))
 exact ⟨R.jb hs,.lst e hX (rv.imp fun _ _ r=>hs.vr r)⟩
theorem Rel.freeze {x:Str} {a:Addr} {l:List AV} (R:Rel C Y dZ D env ⟨μ,(a,.list l)::M⟩ s) (hx:μ.lookup x=some (.raw (.ref a))):Rel C Y dZ D env ⟨ins x (.lst l) μ,M⟩ s/\VR s.heap (Mine.Xo C Y env ⟨ins x (.lst l) μ,M⟩) (.ref a) (.lst l):=by
 refine o0_2 R.vN fun Rm r0=>?_;have eX:Mine.Xo C Y env ⟨ins x (.lst l) μ,M⟩=Mine.Xo C Y env ⟨μ,M⟩:=rfl;refine ⟨⟨Rm.bs,Rm.ev,⟨?_,fun y av ey k=>?_,Rm.fr.cells,fun y av ey=>?_⟩,Rm.free,Rm.ob,Rm.nd,Rm.dis,Rm.hi,Rm.st,Rm.own,Rm.z⟩,r0⟩
 ·refine o1_3 Rm.fr.loc fun m hn z=>?_;refine ⟨m,hn,fun y av ey k=>?_⟩;rw [show (St.mk (ins x (.lst l) μ) M).μ=ins x (.lst l) μ from rfl,fq] at ey;by_cases h:y=x
  ·subst h;rw [ay rfl] at ey;cases ey;refine o1_3 (z y _ hx k) fun v e1 r=>?_;refine VR.gX r fun e0=>?_;subst e0;exact ⟨_,e1,r0⟩
  ·rw [aq h] at ey;exact z y av ey k
 ·rw [show (St.mk (ins x (.lst l) μ) M).μ=ins x (.lst l) μ from rfl,fq] at ey;by_cases h:y=x
  ·subst h;rw [ay rfl] at ey;cases ey;refine o2_5 (Rm.fr.cel y _ hx k) fun c v e1 e2 r=>?_;refine VR.gX r fun e0=>?_;subst e0;exact ⟨_,_,e1,e2,r0⟩
  ·rw [aq h] at ey;exact Rm.fr.cel y av ey k
 ·rw [show (St.mk (ins x (.lst l) μ) M).μ=ins x (.lst l) μ from rfl,fq] at ey;by_cases h:y=x
  ·subst h;exact Rm.fr.kind y _ hx
  ·rw [aq h] at ey;exact Rm.fr.kind y av ey
theorem G.freeze {α β:Type} {RR:Heap->List Addr->α->β->Prop} {m:Sem α} {P:β->St->Prop} {x:Str} {a:Addr} {l:List AV} (hx:μ.lookup x=some (.raw (.ref a))) (h:e7 ((a,.list l)::M') M)
  (k:G C n env RR ⟨ins x (.lst l) μ,M'⟩ m P):G C n env RR ⟨μ,M⟩ m P :=
 G.conv (fun Y dZ D s R=>⟨((R.jb h).freeze hx).1,fun v av r=>(e7.of (R:=[(a,.list l)]) aZ:e7 M' ((a,AO.list l)::M')).vr (h.vr (μ':=μ) r)⟩) k
end
end Mine
namespace Mine
theorem vE {h:Heap} {a:Addr} {vs:List Value} (e:h.IsTuple a vs.toArray):IsTup h a vs.toArray:=by
 refine o1_4 e fun o e1 e2 zz=>?_;refine o1_2 zz fun n e3=>?_;clear e;exact ⟨o,e1,e2,n,e3⟩
section
variable {C:Cx} (ok:C.Ok) {n:Nat} {env:Env} {S:St}
include ok
theorem qZ {x y:Str} {p p' pos:Pos} {k:Nat} {a b:AV} (hx:env.kindOf x=some .local\/Own env x/\∃ c,env.cells.lookup x=some c) (hy:env.kindOf y=some .local\/Own env y/\∃ c,env.cells.lookup y=some c)
  {A:Around} {Y D:List Addr} {dZ s:Shared} {T:Addr} {v1 v2:Value} {Q:Unit->Shared->Prop} (ha:AOk n A) (R:Rel C Y dZ D env S s) (hT:s.heap.IsTuple T #[v1,v2]) (r1:VR s.heap (Xo C Y env S) v1 a) (r2:VR s.heap (Xo C Y env S) v2 b)
  (q:∀ s' S',S'=⟨ins y b (ins x a S.μ),S.M⟩->Rel C Y dZ D env S' s'->Kp C Y env S s S' s'->Q () s'):wpAny (model C.prog C.w) A (assign (.Tuple [.Name x p,.Name y p'] k pos) env (.ref T)) Q No s:=by
 refine assign_Tuple_tuple (items:=#[v1,v2]) ha.handled (vE (vs:=[v1,v2]) hT) (by simp [assignEach]) (by rfl) fun h' hb=>?_
 have st:fC C.T [] s { s with heap:=h' }:=.wj hb fun q=>(R.bs.iG q).ne (eH _) rfl
 have d9:=R.go ok st;have eE:=Kp.go R st;exact dj (cD (store ok Y hx d9 (eE _ _ r1) fun d8 eB eN=>dj (cD (store ok Y hy eB (eN _ _ (eE _ _ r2)) fun ez eV fG=>assignInOrder_nil (q _ _ rfl eV ((eE.trans eN).trans fG))))))
theorem uf {x y z:Str} {e:Expr} {p p' p1 pos pos1 pos2:Pos} {k0:Nat} {body:List Stmt} {l:List AV} {P:AF->St->Prop} (Inv:Nat->St->Prop)
  (hx:env.kindOf x=some .local\/Own env x/\∃ c,env.cells.lookup x=some c) (hy:env.kindOf y=some .local\/Own env y/\∃ c,env.cells.lookup y=some c)
  (hf:PE C n env S (.Name z p1) (.raw (.type "enumerate"))) (h:EV C n env S e fun a d7=>a = .lst l/\Inv 0 d7)
  (turn:∀ i d7 a,l[i]? = some a->Inv i d7->EX C n env ⟨ins y a (ins x (.int i) d7.μ),d7.M⟩ body (Turn (Inv (i+1)) P))
  (fin:∀ d7,Inv l.length d7->P .next d7)
  (hs:∀ v,foldedSetIterable (.Call (.Name z p1) [e] [] pos1) env v=pure v:=by intro _;rfl) (hst:starEach [e] env=[(false,eval e env)]:=by rfl) :
  E1 C n env S (.For (.Tuple [.Name x p,.Name y p'] k0 pos2) (.Call (.Name z p1) [e] [] pos1) body [] pos) P:=by
 intro A Y dZ D s Q ha R q;refine wpAny_For (hs:=hs) (Call_name1 hst (G.at hf ha R fun f ee d9 eE fy=>?_))
 (refine VR.gX fy fun e_0=>?_;subst e_0)
 refine callWith_type1 (h A Y dZ D ee _ ha d9 fun v d8 a eG fh eB eN fz=>?_);refine o0_2 fh fun rf0 sG=>?_;clear fh;subst rf0;refine VR.sD fz ?_;clear fz;intro b vs kk eb nb rs e_0;cases e_0;refine call_enumerate_list (e8 eb) fun h' he hit hsz hkp=>?_;generalize hI:d8.heap.objs.size+1=I at *;generalize hJ:d8.heap.objs.size=J at *;have hIn:d8.heap.get? I=none:=dH (by lia)
 have hJn:d8.heap.get? J=none:=dH (by lia)
 have bJ:b≠J:=fun q=>by rw [q,hJn] at eb;cases eb
 have bI:b≠I:=fun q=>by rw [q,hIn] at eb;cases eb
 have hIJ:I≠J:=by lia
 have W:=WalksT.enumerateD (prog:=C.prog) (w:=C.w) (Draws.list (prog:=C.prog) (w:=C.w) (A:=A.in1) ha.handled J b bJ vs.toArray) I hIJ (fun q=>(aG.mp q).elim hIJ fun q=>bI (ao.mp q).symm) (by simp)
 have el:vs.toArray.size=l.length:=by rw [aK];exact rs.length
 rw [el] at W;have gG:fC C.T [] d8 { d8 with heap:=h' }:=⟨.of_keeps hkp,rfl,rfl,id⟩
 have hw:∀ c ∈ [I,J],d8.heap.get? c=none:=fun c hc=>by
  rcases aG.mp hc with rfl | hc
  ·exact hIn
  ·exact ao.mp hc▸hJn
 have hst0:(∃ old,IsEnum h' I J ((0:Nat):Int) old)/\(h'.IsListIter J b 0/\h'.IsList b vs.toArray):=⟨⟨_,he⟩,hit,(e8 eb).at fun o e=>hkp b o e⟩;have lw:∀ (i:Nat) h,(∃ old,IsEnum h I J (i:Int) old)/\(h.IsListIter J b i/\h.IsList b vs.toArray)->∀ c ∈ [I,J],jr h c:=fun i h st c hc=>by
  rcases aG.mp hc with rfl | hc
  ·obtain ⟨⟨old,e⟩,_⟩:=st;exact ⟨_,e⟩
  ·obtain ⟨_,⟨o,e,_⟩,_⟩:=st;exact ao.mp hc▸⟨o,e⟩
 have hfp:∀ c ∈ I::[J,b],c ∉ fa env++fj eG.M/\c ∉ C.T/\jr h' c:=fun c hc=>by
  have nw:∀ c,d8.heap.get? c=none->c ∉ fa env++fj eG.M/\c ∉ C.T:=fun c hn =>
   ⟨fun q=>(eB.hi _ (by rw [<- aH];exact af _ q)).2.2.ne hn rfl,fun q=>(eB.bs.iG q).ne hn rfl⟩
  rcases aG.mp hc with rfl | hc
  ·exact ⟨(nw _ hIn).1,(nw _ hIn).2,lw 0 _ hst0 _ (by simp)⟩
  rcases aG.mp hc with rfl | hc
  ·exact ⟨(nw _ hJn).1,(nw _ hJn).2,lw 0 _ hst0 _ (by simp)⟩
  ·have e1:=ao.mp hc;subst e1;rw [fJ] at nb;exact ⟨fun q=>nb (.inr (.inl q)),fun q=>nb (.inl q),_,hkp _ _ eb⟩
 refine W.self 0 _ _ _ hst0 ?_;refine oi ok Inv ha eB gG hst0 hfp hw lw (fun i h h' st k=>W.frame i h h' st k) sG (fun i S' s' K hlt hst' _ up inv k=>?_) (fun _ s' Q hst' _ _ k=>W.done s' Q No hst' k) fin fun f s' b S' pb R' K' rf=>q f s' b S' pb R' ((eE.trans eN).trans K') rf;refine W.item i s' _ _ hlt hst' fun T vals h1 tk hP hTn hT hMid hk1=>⟨_,rfl,?_⟩;refine o2_4 hP fun t x' hx' rf3=>?_;clear hP;subst rf3;refine W.go _ _ _ i T _ _ _ hMid fun h2 hst2 hk2=>?_;refine o1_2 (⟨_,aX hlt⟩:∃ a,l[i]? = some a) fun a hla=>?_;refine o1_3 (rs.get hla) fun v' hv' rv=>?_;have exv:x'=v':=by
  have h1:vs[i]? = some x':=by simpa using hx'
  rw [h1] at hv';exact bE hv'
 subst exv;refine k (.ref T) h2 tk hst2 (fun c o hc e=>hk2 c o hc (hk1 c o hc e)) fun Q' R3 K3 q'=>?_;exact qZ ok hx hy ha R3 (hT.at fun o e=>hk2 T o (W.apart _ _ _ hMid) e) (.int ..) (K3 _ _ (up _ _ ((eB.Au ok gG hw (lw 0 _ hst0)).2 _ _ rv))) fun gC gU gY gm gK=>q' gC gU (gY▸turn i S' a hla inv) gm gK
end
end Mine
namespace Mine
theorem nU {prog:Program} {w:World} {A:Around} {E:Value->Shared->Prop} {s:Shared} {l:Addr} {items:List Value} {n:Nat} {k:Int} {t:Tok} {v:Value} {Q:Unit->Shared->Prop}
  (ho:s.heap.get? l=some ⟨.type "list", none,.seq items.toArray n,#[]⟩) (h0:0<=k) (hfit:k<2 ^ 63) (hn:k<items.length)
  (hQ:∀ h' n',h'.get? l=some ⟨.type "list", none,.seq (items.set k.toNat v).toArray n',#[]⟩->Heap.SameBut l s.heap h'->Q () { s with heap:=h' }) :
  wpAny (model prog w) A (setItem (.ref l) (.int k t) v) Q E s:=by
 have hl:s.heap.IsList l items.toArray:=e8 ho;unfold setItem;refine bw ?_;refine ah (wpAny_sequenceKey hl.typeIs (by decide) ?_)
 refine ah (wpAny_callSpecial?_slot (name:=Str.ofString "__setitem__") hl.typeIs slot_list_setitem
  (cV slot_list_setitem hl.typeIs entry_list_setitem ?_ (args_list_setitem _ _ _)))
 show wpAny _ _ (Builtin.List.listSubscript? (.int k t) >>= _) _ _ s;refine ah (wpAny_listSubscript_int (fitsIndex_of h0 hfit) ?_);clear hfit;refine o1_2 (Int.eq_ofNat_of_zero_le h0) fun j rf1=>?_;subst rf1;have hj:j<items.toArray.size:=by simp;lia
 have hx':items.toArray[j]? = some items.toArray[j]:=Array.getElem?_eq_getElem hj;show wpAny _ _ ((seqItemAt l j >>= fun r=>pure (r.map (j,·))) >>= _) _ _ s;refine ah (ah (wpAny_seqItemAt ho rfl (ak ?_)));rw [hx'];show wpAny _ _ (setSeqItemAt l j v >>= _) _ _ s;refine o1_2 (Obj.data_mapSeq (o:=⟨.type "list", none,.seq items.toArray n,#[]⟩) rfl (·.setIfInBounds j v)) fun n' hd'=>?_
 have hfin:=cW (Obj.mapSeq (·.setIfInBounds j v)) ho (Obj.isFreed_of_seq hd');refine ah (wpAny_setSeqItemAt ho rfl ?_);have e:∃ n',Obj.mapSeq (·.setIfInBounds j v) ⟨.type "list", none,.seq items.toArray n,#[]⟩=⟨.type "list", none,.seq (items.set j v).toArray n',#[]⟩:=⟨n',by
  have h1:(Obj.mapSeq (·.setIfInBounds j v) ⟨.type "list", none,.seq items.toArray n,#[]⟩)=⟨.type "list", none,(Obj.mapSeq (·.setIfInBounds j v) ⟨.type "list", none,.seq items.toArray n,#[]⟩).data,#[]⟩:=rfl
  rw [h1,hd'];simp⟩
 refine o1_2 e fun n2 e=>?_;rw [e] at hfin;exact ak ⟨.none,rfl,ak (hQ _ n2 hfin (b9 ..))⟩
theorem VRs.set {h:Heap} {X:List Addr} {v:Value} {a:AV} (p:VR h X v a):∀ {vs:List Value} {l:List AV} (k:Nat),VRs h X vs l->VRs h X (vs.set k v) (l.set k a) :=
 fun {vs l} k r=>by
 induction l generalizing vs k with
 | nil=>exact VRs.fN r .nil
 | cons b l ih =>
   refine VRs.eW r fun _ _ q rs=>?_;cases k with
   | zero=>exact .cons p rs
   | succ k=>exact .cons q (ih k rs)
section
variable {C:Cx} (ok:C.Ok) {n:Nat} {env:Env} {S:St}
include ok
theorem wR {o ix value:Expr} {op:Operator} {pos' pos:Pos} {P:AF->St->Prop} {i:Nat} {a:Addr} {l:List AV} {k:Int} {old x new:AV} (ho:PE C n env S o (.raw (.ref a))) (hi:PE C n env S ix (.int k)) (hM:S.M[i]? = some (a,.list l))
  (h0:0<=k) (hk:l[k.toNat]? = some old) (hfit:k<2 ^ 63) (hv:PE C n env S value x) (hop:P2 C n env S (inplaceOp op) old x new) (h:P .next ⟨S.μ,S.M.set i (a,.list (l.set k.toNat new))⟩)
  (hs:∀ ov iv new,augStore ix ov iv new=(do holding [new,ov,iv] (setItem ov iv new);release [new,ov,iv] [];pure .next):=by intro _ _ _;rfl):E1 C n env S (.AugAssign (.Subscript o ix pos') op value pos) P:=fun A Y dZ D s Q ha R q=>by
 refine wpAny_AugAssign_Subscript_any (ha:=hs) (G.at ho ha R fun v ee d9 eE fy=>?_)
 (refine VR.gX fy fun e_0=>?_;subst e_0)
 refine G.at hi ha d9 fun v d8 eB eN fz=>?_;refine VR.pK fz ?_;clear fz;intro t e_0;cases e_0;refine o2_4 (eB.ob _ (eu hM)) fun vs kk e rs=>?_;refine o1_3 (rs.get hk) fun u hu ru=>?_;refine wpAny_getItem_list (e8 e) h0 hfit (by simpa using hu) ?_
 refine G.at hv ha eB fun v ez eV fG f7=>?_;refine hop A Y dZ D ez _ _ _ ha eV (fG _ _ ru) f7 fun v gC CS gU gY gm gK zm=>?_;refine o0_2 gY fun rf0 rf1=>?_;clear gY;subst rf0;subst rf1;refine o2_4 (gm.ob _ (eu hM)) fun vs4 kk4 e4 rs4=>?_;have hkl:k.toNat<l.length:=(aM.mp hk).1;refine nU e4 h0 hfit (by rw [rs4.length];lia) fun h' n' e' hb=>?_
 have hT:a ∉ C.T:=gm.tn (aa _ (af _ (eU (eu hM) (aj ..))));refine o0_2 (Rel.ki ok gm (s':={ gC with heap:=h' }) hM e' ⟨.sameBut hb hT,rfl,rfl,id⟩ (VRs.set zm k.toNat rs4)) fun R' K'=>?_
 exact q _ _ _ _ h R' ((((eE.trans eN).trans fG).trans gK).trans K') .next
end
end Mine
namespace Mine
section
variable {C:Cx} {n:Nat} {env:Env} {S:St}
theorem EV.wg {T:String} {x:Str} {e:Expr} {es:List Expr} {p pos:Pos} {P:AV->St->Prop} (hf:PE C n env S (.Name x p) (.raw (.type T)))
  (h:EL C n env S pos (e::es) fun l d7=>VN C n env d7 (fun vs=>call (.type T) vs) l P)
  (he:starEach (e::es) env=(false,eval e env)::starEach es env:=by rfl) (hplain:(backTo pos (starEach es env)).any (·.1)=false:=by rfl):EV C n env S (.Call (.Name x p) (e::es) [] pos) P :=
 fun A Y dZ D s Q ha R q=>cL (G.at hf ha R fun f ee d9 eE fy=>by
  refine VR.fM fy ?_;refine PyProof.Rows.callWith_type1 ?_ he hplain;exact h A Y dZ D ee _ ha d9 fun vs d8 l eG fh eB eN fz=>fh A Y dZ D d8 vs Q ha eB fz fun r ez b fk fF eV fG f7=>q r ez b fk fF eV ((eE.trans eN).trans fG) f7)
theorem PE.wg {T:String} {x:Str} {e:Expr} {es:List Expr} {p pos:Pos} {l:List AV} {c:AV} (hf:PE C n env S (.Name x p) (.raw (.type T))) (hl:PL C n env S pos (e::es) l) (h:PN C n env S (fun vs=>call (.type T) vs) l c)
  (he:starEach (e::es) env=(false,eval e env)::starEach es env:=by rfl) (hplain:(backTo pos (starEach es env)).any (·.1)=false:=by rfl):PE C n env S (.Call (.Name x p) (e::es) [] pos) c :=
 EV.wg hf (hl.then h) he hplain
end
end Mine
end
section
open PySem PySem.W PySem.Calls PyProof.Rows
namespace Mine
theorem sY {h:Heap} {X:List Addr}:∀ {vs:List Value} {ns:List Int},VRs h X vs (ns.map .int)->∃ ps:List (Int×Tok),vs=ps.map (fun p=>Value.int p.1 p.2)/\ps.map (·.1)=ns :=
 fun {vs ns}=>by
 induction ns generalizing vs with
 | nil=>exact fun r=>VRs.fN r ⟨[],rfl,rfl⟩
 | cons a ns ih =>
   exact fun r=>VRs.eW r fun _ _ r rs=>by
    refine o1_3 (ih rs) fun ps e1 e2=>?_;exact VR.ff r fun t=>⟨(a,t)::ps,by rw [e1];rfl,by rw [<- e2];rfl⟩
section
variable {C:Cx} (ok:C.Ok) {n:Nat} {env:Env} {S:St}
include ok
theorem O.qt {ns:List Int}:PN C n env S (fun vs=>call (.builtin "sum") vs) [.lst (ns.map .int)] (.int ns.sum):=.of ok fun A X s vs Q ha _ r lt _ q=>by
 refine VRs.eW r fun _ _ r rs=>?_
 ·
  refine VRs.fN rs ?_;refine VR.iL r fun _ _ _ e nx rs=>?_
  ·
   rename_i b ws kk;refine o1_3 (sY rs) fun ps rf1 e2=>?_;subst rf1;have hl:s.heap.IsList b (intItems ps.toArray):=by
    have:=e8 e;rw [show intItems ps.toArray=(ps.map fun p=>Value.int p.1 p.2).toArray by simp [intItems]];exact this
   refine sum_intListG ha.handled hl fun h' tk t' hk=>?_;have e3:preSum (numAt ps.toArray) ps.toArray.size=ns.sum:=by
    rw [preSum_eq,cT (by simp),<- e2]
   rw [e3];exact q _ _ ⟨.of_keeps hk,rfl,rfl,id⟩ (.int ..)
end
end Mine
end
section
open PySem PySem.W PySem.Calls PyProof.Rows
set_option tactic.hygienic false
namespace Mine
section
variable {C:Cx} {Y W V D rz:List Addr} {dZ ee s s':Shared} {env:Env} {S jz:St}
theorem Rel.rE {Y':List Addr} (ok:C.Ok) (R:Rel C Y ee rz env S s) (st:fC C.T V s s') (hVY:∀ a ∈ V,a ∈ Y) (hW:∀ a ∈ V,a ∈ rz) (hf:∀ x c,q9 env x->env.cells.lookup x=some c->c ∉ V)
  (hY:∀ a ∈ Y',a ∈ Y) (hn:∀ a ∈ Y',a ∉ V) (hf':∀ x c,q9 env x->env.cells.lookup x=some c->c ∈ Y'\/C.Old c) (hz:∀ p ∈ C.Z,p.1 ∈ Y') :
  Rel C Y' ee rz env S s'/\∀ v av,VR s.heap (Xo C Y env S) v av->VR s'.heap (Xo C Y' env S) v av:=by
 have h:∀ a o,s'.heap.get? a=some o->a ∉ Xo C Y env S->a ∉ Xo C Y' env S:=fun a o _ n q=>by
  rw [fJ] at n q;rcases q with q | q | q
  ·exact n (.inl q)
  ·exact n (.inr (.inl q))
  ·exact n (.inr (.inr (hY a q)))
 have hX:∀ a ∈ V,a ∈ Xo C Y env S:=fun a h=>fJ.mpr (.inr (.inr (hVY a h)));have nw:∀ a ∈ fa env++fj S.M,a ∉ V:=fun a ha q=>R.dis a (hVY a q) ha;refine ⟨⟨R.bs.stp ok st.heap fun b hb=>(R.hi b (aa _ (aa _ (hVY b hb)))).1,R.ev,
  (R.fr.stp st.heap hX R.hT (fun b hb=>⟨nw b (af _ hb),R.tn (af _ hb)⟩) (fun x c k e=>⟨hf x c k e,R.kZ ok k e⟩)).sub h,hf',
  fun p hp=>((R.ob p hp).stp st.heap hX R.hT fun b hb=>⟨nw b (aa _ (eU hp hb)),R.tn (aa _ (af _ (eU hp hb)))⟩).sub h,R.nd,fun a ha=>R.dis a (hY a ha),fun a ha=>?_,
  R.st.trans st fun a ha=>.inl (hW a ha),R.own,fun p hp=>⟨(R.z p hp).1,hz p hp,(R.z p hp).2.2⟩⟩,fun v av r=>(r.stp st.heap hX R.hT).sub h⟩
 have ha2:a ∈ fa env++(fj S.M++Y):=by
  simp only [au] at ha ⊢;rcases ha with q | q | q
  ·exact .inl q
  ·exact .inr (.inl q)
  ·exact .inr (.inr (hY a q))
 refine ⟨(R.hi a ha2).1,(R.hi a ha2).2.1,?_⟩;refine o1_2 ((R.hi a ha2).2.2) fun o e=>?_;refine ⟨o,st.heap.keep a o e ?_ (R.hi a ha2).2.1⟩;simp only [au] at ha;rcases ha with q | q | q
 ·exact nw a (af _ q)
 ·exact nw a (aa _ q)
 ·exact hn a q
theorem Rel.BN (ok:C.Ok) (gn:Rel C Y dZ D env jz s) (x:fC C.T [] s ee) (hw:∀ b ∈ W,s.heap.get? b=none) (R:Rel C (V++Y) ee (W++(fa env++fj jz.M)) env S s'):Rel C Y dZ D env S s':=by
 have fr:∀ a,a ∈ W++(fa env++fj jz.M)->a ∈ D\/dZ.heap.get? a=none:=fun a ha=>by
  rcases au.mp ha with h | h
  ·exact (gn.gg (hw a h)).2.2.2
  ·exact gn.own a h
 refine ⟨R.bs,R.ev,R.fr.sub unY,gn.free,fun p hp=>(R.ob p hp).sub unY,R.nd,fun a ha=>R.dis a (aa _ ha),fun a ha=>R.hi a ?_,?_,fun a ha=>?_,gn.z⟩
 ·simp only [au] at ha ⊢;rcases ha with h | h | h
  ·exact .inl h
  ·exact .inr (.inl h)
  ·exact .inr (.inr (.inr h))
 ·exact (gn.st.gP x).trans R.st fun a ha=>fr a ha
 ·rcases R.own a ha with h | h
  ·exact fr a h
  ·by_cases hd:a ∈ D
   ·exact .inl hd
   ·cases e:dZ.heap.get? a with
    | none=>exact .inr rfl
    | some o =>
      have hT:a ∉ C.T:=R.tn (by rw [<- aH];exact af _ ha)
      rw [x.heap.keep a o (gn.st.heap.keep a o e hd hT) (fun q=>nomatch q) hT] at h;cases h
theorem Rel.zY (ok:C.Ok) (gn:Rel C Y dZ D env jz s) (x:fC C.T [] s ee) (hw:∀ b ∈ W,s.heap.get? b=none) (hv:∀ b ∈ V,b ∈ W) {d8:Shared} (R:Rel C (V++Y) ee (W++(fa env++fj jz.M)) env S s') (st:fC C.T V s' d8) :
  Rel C Y dZ D env S d8/\∀ v av,VR s'.heap (Xo C (V++Y) env S) v av->VR d8.heap (Xo C Y env S) v av:=by
 have B:=gn.BN ok x hw R;have hX:∀ a ∈ V,a ∈ Xo C (V++Y) env S:=fun a h=>fJ.mpr (.inr (.inr (af _ h)));have nw:∀ a ∈ fa env++fj S.M,a ∉ V:=fun a ha q=>R.dis a (af _ q) ha;have ny:∀ a ∈ Y,a ∉ V:=fun a ha q=>(gn.hi a (aa _ (aa _ ha))).2.2.ne (hw a (hv a q)) rfl;refine ⟨⟨R.bs.stp ok st.heap fun b hb=>(gn.gg (hw b (hv b hb))).1,R.ev,
  (R.fr.stp st.heap hX R.hT (fun b hb=>⟨nw b (af _ hb),R.tn (af _ hb)⟩) (fun y c k e=>⟨fun q=>gn.mU hw y c k e (hv c q),gn.kZ ok k e⟩)).sub unY,gn.free,
  fun p hp=>((R.ob p hp).stp st.heap hX R.hT fun b hb=>⟨nw b (aa _ (eU hp hb)),R.tn (aa _ (af _ (eU hp hb)))⟩).sub unY,R.nd,B.dis,fun a ha=>⟨(B.hi a ha).1,(B.hi a ha).2.1,?_⟩,
  B.st.trans st fun b hb=>(gn.gg (hw b (hv b hb))).2.2.2,B.own,B.z⟩,fun v av r=>(r.stp st.heap hX R.hT).sub unY⟩
 refine o1_2 ((B.hi a ha).2.2) fun o e=>?_;refine ⟨o,st.heap.keep a o e ?_ (B.hi a ha).2.1⟩;rw [<- aH] at ha;rcases au.mp ha with h | h
 ·exact nw a h
 ·exact ny a h
end
section
variable {C:Cx} (ok:C.Ok) {n:Nat} {env:Env} {S:St}
include ok
end
end Mine
namespace Mine
noncomputable def turnS (e target iter:Expr) (ifs:List Expr) (body:Sem Unit) (depth:Nat) (it acc:Value) (env:Env):Sem Fin:=do
 standAt iter.pos
 match <- pyNext it with
 | none=>pure (.done .next)
 | some v =>
   letOwnedTupleGo target it v
   assign target env v
   let ok <- forIn ifs true fun c r=>if r=true then do let ok <- isTrue c env (eval c env);pure (ForInStep.yield ok) else pure (ForInStep.yield r)
   if ok then body
   again (.compLoop e depth it acc env)
structure Clause (prog:Program) (w:World) (e target iter:Expr) (ifs:List Expr) (body:Sem Unit) (depth:Nat) (acc:Value) (env:Env):Prop where
 den:∀ it,(model prog w).den (.compLoop e depth it acc env)=(turnS e target iter ifs body depth it acc env).onRaise (fun x=>do noteFrame x env;theTreesLotGoes x)
 under:∀ (A:Around) it,A.under (.compLoop e depth it acc env)=A
 quiet:∀ it,(Code.compLoop e depth it acc env).quiet=true
 start:∀ (A:Around) (R:Result->Shared->Prop) (s:Shared) it,codeAny (model prog w) A (.compLoop e depth it acc env) R s ->
  wpAny (model prog w) A (pyIter it) (fun it' s'=>codeAny (model prog w) A (.compLoop e depth it' acc env) R s') No s->codeAny (model prog w) A (.compStart e depth it acc env) R s
theorem jR {prog:Program} {w:World} {e target iter:Expr} {ifs:List Expr} {depth:Nat} {it acc:Value} {env:Env} {A:Around} {R:Result->Shared->Prop} {s:Shared} (hd:(model prog w).den (.compStart e depth it acc env)=(compStart e depth it acc env).onRaise (fun x=>do noteFrame x env;standAt theWindowsPlace))
  (hu:A.under (.compStart e depth it acc env)=A) (hc:(clausesOf e)[depth]? = some ⟨target,iter,ifs,0⟩) (hq:∀ it,(Code.compLoop e depth it acc env).quiet=true) (h0:codeAny (model prog w) A (.compLoop e depth it acc env) R s)
  (h:wpAny (model prog w) A (pyIter it) (fun it' s'=>codeAny (model prog w) A (.compLoop e depth it' acc env) R s') No s):codeAny (model prog w) A (.compStart e depth it acc env) R s:=by
 refine codeAny_of_tree ?_;rw [hd,hu];refine wpAny_notedAt ?_;unfold compStart;rw [hc];show wpAny _ _ (ask >>= _) _ _ s;refine ah (wpAny_askSetting (wpAny_ite ?_));split
 ·first
   | exact ah (ak (ak (And.intro (hq _) h0)))
   | exact ak (And.intro (hq _) h0)
 ·refine ah (dc ?_);show wpAny _ _ (standAt iter.pos >>= _) _ _ s;exact ah (bY (ah (jP h (fun it' s' h'=>ak (And.intro (hq _) h')))))
section
variable {prog:Program} {w:World} {A:Around} {R:Result->Shared->Prop} {s:Shared}
theorem r8 {e target iter:Expr} {ifs:List Expr} {body:Sem Unit} {depth:Nat} {it acc:Value} {env:Env} (hd:Clause prog w e target iter ifs body depth acc env) (I:Nat->Shared->Prop)
  (turn:∀ n s,I n s->wpAny (model prog w) A (pyNext it) (fun r ee=>match r with
   | none=>R (.ok .next) ee
   | some v=>wpAny (model prog w) A (letOwnedTupleGo target it v) (fun _ yE=>wpAny (model prog w) A (assign target env v) (fun _ d8 =>
     wpAny (model prog w) A (forIn ifs true fun c r=>if r=true then do let ok <- isTrue c env (eval c env);pure (ForInStep.yield ok) else pure (ForInStep.yield r)) (fun ok ez =>
      if ok=true then wpAny (model prog w) A body (fun _ gr=>∃ m,m<n/\I m gr) No ez
      else ∃ m,m<n/\I m ez) No d8) No yE) No ee) No s)
  (n:Nat) (h:I n s):codeAny (model prog w) A (.compLoop e depth it acc env) R s:=by
 refine codeAny_loop (hd.quiet it) I (fun n s hI=>?_) n h;rw [hd.den it,hd.under A it];refine wpAny_noted ?_;unfold turnS;refine ah (bY (ah (jP (turn n s hI) fun r ee iJ=>?_)));cases r with
 | none=>exact ak iJ
 | some v =>
   refine ah (jP iJ fun _ yE iJ=>?_);refine ah (jP iJ fun _ d8 jY=>ah (jP jY fun ok ez jy=>?_));cases ok with
   | false=>exact ak ⟨rfl,jy⟩
   | true=>exact ah (jP jy fun _ gr x6=>ak ⟨rfl,x6⟩)
end
theorem qX {prog w elt t i ifs sc p D env}:Clause prog w (.ListComp elt [⟨t,i,ifs,0⟩] sc p) t i ifs (do let x <- eval elt env;let _ <- call (.builtin "list.append") [D,x]) 0 D env:=⟨fun _=>rfl,fun _ _=>rfl,fun _=>rfl,fun A R s it h0 h=>jR rfl rfl rfl (fun _=>rfl) h0 h⟩
theorem qY {prog w kx vx t i ifs sc p D env}:Clause prog w (.DictComp kx vx [⟨t,i,ifs,0⟩] sc p) t i ifs (do
      let kv <- eval kx env
      let vv <- holding [kv] (eval vx env)
      standAt { kx.pos with endLine:=vx.pos.endLine,endCol:=vx.pos.endCol }
      holding [kv,vv] (dictSet D kv vv)) 0 (.ref D) env:=⟨fun _=>rfl,fun _ _=>rfl,fun _=>rfl,fun A R s it h0 h=>jR rfl rfl rfl (fun _=>rfl) h0 h⟩
theorem ym {prog w elt t i t' i' ifs ifs' sc p D env}:Clause prog w (.ListComp elt [⟨t,i,ifs,0⟩,⟨t',i',ifs',0⟩] sc p) t' i' ifs' (do let x <- eval elt env;let _ <- call (.builtin "list.append") [D,x]) 1 D env:=⟨fun _=>rfl,fun _ _=>rfl,fun _=>rfl,fun A R s it h0 h=>jR rfl rfl rfl (fun _=>rfl) h0 h⟩
theorem yo {prog w elt t i t' i' ifs ifs' sc p D env}:Clause prog w (.ListComp elt [⟨t,i,ifs,0⟩,⟨t',i',ifs',0⟩] sc p) t i ifs (do
  let x <- eval i' env
  standAt i'.pos
  let x <- foldedSetIterable i' env x
  let it <- holding [x] (pyIter x)
  let _ <- runOwn (.compStart (.ListComp elt [⟨t,i,ifs,0⟩,⟨t',i',ifs',0⟩] sc p) 1 it D env) env) 0 D env:=by
 refine ⟨fun it=>?_,fun _ _=>rfl,fun _=>rfl,fun A R s it h0 h=>jR rfl rfl rfl (fun _=>rfl) h0 h⟩;show (compTurn _ _ _ _ _).onRaise _=_;congr 1;unfold turnS;simp only [bind_assoc,pure_bind]
 rfl
structure wQ (C:Cx) (A:Around) (fc:List (Addr×AO)) (q8:List Addr) (jY:Heap) (l:List AV) (target:Expr) (I:Addr) (fp wr:List Addr) (St:Nat->Heap->Prop):Prop where
 lw:∀ i h,St i h->∀ b ∈ wr,jr h b
 frame:∀ i h h',St i h->(∀ b ∈ fp,∀ o,h.get? b=some o->h'.get? b=some o)->St i h'
 item:∀ {Yc Dc cenv S' sc s'} i (Q:Option Value->Shared->Prop),i<l.length->St i s'.heap->Rel C Yc sc Dc cenv S' s'->(∀ p ∈ fc,p ∈ S'.M)->(∀ v av,VR jY q8 v av->VR s'.heap (Xo C Yc cenv S') v av) ->
  (∀ v a h' tk,l[i]? = some a->VR s'.heap (Xo C Yc cenv S') v a->St (i+1) h'->(∀ b o,b ∉ wr->s'.heap.get? b=some o->h'.get? b=some o)->Q (some v) { s' with heap:=h',toks:=tk })->wpAny (model C.prog C.w) A (pyNext (.ref I)) Q No s'
 done:∀ {Yc Dc cenv S' sc s'} (Q:Option Value->Shared->Prop),St l.length s'.heap->Rel C Yc sc Dc cenv S' s'->(∀ p ∈ fc,p ∈ S'.M)->(∀ h' tk,(∀ b o,b ∉ wr->s'.heap.get? b=some o->h'.get? b=some o)->Q none { s' with heap:=h',toks:=tk })->wpAny (model C.prog C.w) A (pyNext (.ref I)) Q No s'
 go:∀ i (s:Shared) v (Q:Unit->Shared->Prop),St i s.heap->Q () s->wpAny (model C.prog C.w) A (letOwnedTupleGo target (.ref I) v) Q No s
 self:∀ (s:Shared) (Q:Value->Shared->Prop) (E:Value->Shared->Prop),St 0 s.heap->Q (.ref I) s->wpAny (model C.prog C.w) A (pyIter (.ref I)) Q E s
noncomputable abbrev UR (_:Heap) (_:List Addr) (_ _:Unit):Prop:=True
noncomputable abbrev EM (C:Cx) (n:Nat) (env:Env) (S:St) (m:Sem Unit) (P:St->Prop):Prop:=G C n env UR S m fun _ S'=>P S'
noncomputable def j5 (I:St->Prop) (S:St):Prop:=∃ S',Le S' S/\I S'
section
variable {C:Cx} (ok:C.Ok) {n:Nat} {env:Env} {S:St}
include ok
theorem we {e target iter:Expr} {ifs:List Expr} {body:Sem Unit} {depth:Nat} {acc:Value} (cl:Clause C.prog C.w e target iter ifs body depth acc env) {l:List AV} {I:Addr} {fp wr:List Addr} {St:Nat->Heap->Prop} {A:Around} {Yc Dc:List Addr} {sb d8:Shared} {d7:Mine.St}
  {R:Result->Shared->Prop} (Inv:Nat->Mine.St->Prop) (ha:AOk n A) (d9:Rel C Yc sb Dc env d7 d8) {fc:List (Addr×AO)} {q8:List Addr} {jY:Heap} (F:wQ C A fc q8 jY l target I fp wr St) (up:∀ v av,VR jY q8 v av->VR d8.heap (Xo C Yc env d7) v av)
  (jj:∀ i S,Inv i S->∀ p ∈ fc,p ∈ S.M) (hst:St 0 d8.heap) (hwY:∀ b ∈ wr,b ∈ Yc) (hwD:∀ b ∈ wr,b ∈ Dc) (hfw:∀ x c,q9 env x->env.cells.lookup x=some c->c ∉ wr)
  (hfp:∀ b ∈ fp,b ∉ C.T/\(b ∈ wr\/(b ∉ Dc/\jr sb.heap b))) (sG:Inv 0 d7)
  (turn:∀ i S x,l[i]? = some x->Inv i S->TG C n env S target x fun eG=>CT C n env eG ifs fun b fk=>if b=true then EM C n env fk body (j5 (Inv (i+1))) else j5 (Inv (i+1)) fk)
  (q:∀ s' S' s'',Inv l.length S'->Rel C Yc sb Dc env S' s'->Kp C Yc env d7 d8 S' s'->fC C.T wr s' s''->R (.ok .next) s''):codeAny (model C.prog C.w) A (.compLoop e depth (.ref I) acc env) R d8:=by
 have step:∀ {S':Mine.St} {s':Shared} {h':Heap} {tk:Nat},Rel C Yc sb Dc env S' s'->(∀ b o,b ∉ wr->s'.heap.get? b=some o->h'.get? b=some o)->fC C.T wr s' { s' with heap:=h',toks:=tk }:=fun R hk=>⟨⟨fun a o e nw _=>hk a o nw e,fun a ha vs e tr=>⟨vs,by
  have:a ∉ wr:=fun q=>R.tn (aa _ (aa _ (hwY a q))) ha;exact hk a _ this e,tr,#[],by simp⟩⟩,rfl,rfl,id⟩
 refine o1_2 (⟨_,rfl⟩:∃ J:Nat->Shared->Prop,J=fun k s'=>∃ i S',k=l.length+1 - i/\i<=l.length/\Rel C Yc sb Dc env S' s'/\Kp C Yc env d7 d8 S' s'/\St i s'.heap/\Inv i S') fun J hJ=>?_;have mk:∀ i S' s',i<=l.length->Rel C Yc sb Dc env S' s'->Kp C Yc env d7 d8 S' s'->St i s'.heap->Inv i S'->J (l.length+1 - i) s':=fun i S' s' a b c d e=>by
  rw [hJ];exact ⟨i,S',rfl,a,b,c,d,e⟩
 refine r8 cl J ?_ (l.length+1) (mk 0 d7 _ (bR _) d9 .refl hst sG);intro k s' jk;rw [hJ] at jk;refine o2_8 jk fun i S' rf2 hi R' K' hst' inv=>?_;clear jk;subst rf2;by_cases hlt:i<l.length
 ·refine F.item i _ hlt hst' R' (jj i S' inv) (fun v av r=>K' _ _ (up _ _ r)) fun v a h' tk hla ra hst1 hk=>F.go (i+1) _ v _ hst1 ?_;refine o0_2 (R'.zg ok (step (tk:=tk) R' hk) hwY hwD (F.lw _ _ hst1) hfw) fun R3 K3=>?_;refine turn i S' a hla inv A _ _ _ _ v _ ha R3.rebase (K3 _ _ ra) fun gC gU gY gm gK=>?_;refine gY A _ _ _ gC _ ha gm fun okb gr b wI jw gF mO eb=>?_;obtain rfl:okb=b:=eb;have again:∀ {nO i7},Rel C Yc { s' with heap:=h',toks:=tk } (fa env++fj S'.M) env i7 nO->Kp C Yc env S' { s' with heap:=h',toks:=tk } i7 nO->j5 (Inv (i+1)) i7->∃ m,m<l.length+1 - i/\J m nO:=fun oH ri z=>by
   refine o1_3 z fun Ak le h7=>?_;clear z;refine ⟨l.length+1 - (i+1),by lia,mk (i+1) Ak _ hlt ((R3.merge oH).le le) (((K'.trans K3).trans ri).le le) (F.frame _ _ _ hst1 fun b hb o e=>oH.st.heap.keep b o e (fun q=>?_) (hfp b hb).1) h7⟩
   rcases (hfp b hb).2 with z | ⟨z1,z2⟩
   ·exact R'.dis b (hwY b z) q
   ·exact (R'.own b q).elim z1 fun z=>z2.ne z rfl
  cases okb with
  | false =>
    rw [aq (by decide)] at jw
    exact again gF (gK.trans mO) jw
  | true =>
    rw [ay rfl] at jw;rw [ay rfl];exact jw A _ _ _ gr _ ha gF fun _ nO _ i7 zv oH ri _=>again oH ((gK.trans mO).trans ri) zv
 ·have hin:i=l.length:=by lia
  subst hin;exact F.done _ hst' R' (jj _ S' inv) fun h' tk hk=>q s' S' _ inv R' K' (step R' hk)
end
end Mine
namespace Mine
noncomputable def f6 (C:Cx) (n:Nat) (env:Env) (S:St) (a:AV) (l:List AV) (fc:List (Addr×AO)) (target:Expr):Prop :=
 ∀ A Y dZ D s v Q,AOk n A->Rel C Y dZ D env S s->VR s.heap (Xo C Y env S) v a ->
   (∀ I fp wr St s',fC C.T [] s s'->wQ C A fc (Xo C (wr++Y) env S) s'.heap l target I fp wr St->St 0 s'.heap->(∀ b ∈ fp,b ∉ fa env++fj S.M/\b ∉ C.T/\jr s'.heap b)->(∀ b ∈ wr,s.heap.get? b=none)->Q (.ref I) s') ->
   wpAny (model C.prog C.w) A (pyIter v) Q No s
theorem f6.of {C:Cx} {n:Nat} {env:Env} {S:St} {a:AV} {l:List AV} {target:Expr} (ht:Plain target) (it:Iter C n env S a l):f6 C n env S a l [] target :=
 fun A Y dZ D s v Q ha R r q=>it A Y dZ D s v Q ha R r fun I fp wr P St s' x W hst hfp hw lw hP go=>q I fp wr St s' x
  ⟨lw,W.frame,fun i Q hi st R _ up k=>W.item i _ _ _ hi st fun v h' tk hv h1 hk=>(hP i v hv).elim fun a h=>k v a h' tk h.1 (up _ _ h.2) h1 hk,fun Q st R _ k=>W.done _ _ _ st k,
   fun i s v Q st q1=>by
    cases ht with
    | name x p=>exact bS (show letOwnedTupleGo (.Name x p) (.ref I) v=pure () from rfl) q1
    | tuple es k p=>exact go es k p _ _ v _ st q1,
   fun s Q E st q=>W.self 0 _ _ _ st q⟩ hst hfp hw
section
variable {C:Cx} (ok:C.Ok) {n:Nat} {env:Env} {S:St}
include ok
theorem yC {e target iter:Expr} {ifs:List Expr} {body:Sem Unit} {depth:Nat} {acc:Value} (cl:Clause C.prog C.w e target iter ifs body depth acc env) {l:List AV} {fc:List (Addr×AO)} {P:St->Prop} (Inv:Nat->St->Prop)
  (h:EV C n env S iter fun a d7=>f6 C n env d7 a l fc target/\Inv 0 d7) (jj:∀ i S,Inv i S->∀ p ∈ fc,p ∈ S.M)
  (turn:∀ i S x,l[i]? = some x->Inv i S->TG C n env S target x fun eG=>CT C n env eG ifs fun b fk=>if b=true then EM C n env fk body (j5 (Inv (i+1))) else j5 (Inv (i+1)) fk)
  (fin:∀ d7,Inv l.length d7->P d7) (hs:∀ x,foldedSetIterable iter env x=pure x:=by intro _;rfl) :
  EM C n env S (do
   let x <- eval iter env
   standAt iter.pos
   let x <- foldedSetIterable iter env x
   let it <- holding [x] (pyIter x)
   let _ <- runOwn (.compStart e depth it acc env) env) P:=by
 intro A Y dZ D s Q ha R q;refine ah (h A Y dZ D s _ ha R fun v ee a d7 jx d9 eE fy=>ah (bY (ah (bS (hs v) (ah (bw ?_))))));refine jx.1 A Y dZ D ee v _ ha d9 fy fun I fp wr St d8 gG F hst hfp hw=>ah (wpAny_runOwn ?_);refine o0_2 (d9.Au ok gG hw (F.lw 0 _ hst)) fun eB eN=>?_;have loop:codeAny (model C.prog C.w) A (.compLoop e depth (.ref I) acc env) (fun r s'=>match r with | .ok f=>wpAny (model C.prog C.w) A (pure ()) Q No s' | .error e=>cameBackBy (model C.prog C.w) A env No e s') d8:=by
  refine we ok cl (R:=fun r s'=>match r with | .ok f=>wpAny (model C.prog C.w) A (pure ()) Q No s' | .error e=>cameBackBy (model C.prog C.w) A env No e s') Inv ha eB F (fun v av r=>r) jj hst (fun b h=>af _ h) (fun b h=>af _ h) (d9.mU hw) (fun b hb=>⟨(hfp b hb).2.1,?_⟩) jx.2 turn fun s' S' s'' inv R' K' st=>?_
  ·by_cases hb':b ∈ wr
   ·exact .inl hb'
   ·exact .inr ⟨fun q=>(au.mp q).elim hb' (hfp b hb).1,(hfp b hb).2.2⟩
  ·refine o0_2 (d9.C3 ok gG hw R' st) fun Ra Ka=>?_;exact ak (q _ _ () _ (fin S' inv) Ra (fun v av r=>Ka _ _ (K' v av (eN v av (eE v av r)))) trivial)
 exact cl.start _ _ _ _ loop (F.self _ _ _ hst loop)
theorem wc {use:Option (Value->Sem Unit)} {Qc:Value->Shared->Prop} {e target iter:Expr} {ifs:List Expr} {body:Addr->Addr->Sem Unit} {scope:Scope} {newAcc:Sem Value} {ob0:Obj} {acc0:AO} {l:List AV} {fc:List (Addr×AO)} (μc:List (Str×AV)) (Inv:Addr->Addr->Nat->St->Prop)
  (hnew:∀ A s (Q:Value->Shared->Prop),Q (.ref s.heap.objs.size) { s with heap:=s.heap.push ob0 }->wpAny (model C.prog C.w) A newAcc Q No s) (hacc:∀ h X a,h.get? a=some ob0->OR C h X a acc0) (hmo:acc0.more=[]) (hob:ob0.isFreed=false)
  (cl:∀ D L,Clause C.prog C.w e target iter ifs (body D L) 0 (.ref D) (g6 scope env L))
  (hok:j0 scope env=true) (hcell:∀ y ∈ scope.names,y.2≠.cell) (hkind:scope.kind = .function) (hmore:∀ y ∈ scope.names,y.2 = .free->(y.1 == ("__classdict__" : Str))=false)
  {A:Around} {Y D:List Addr} {dZ ee d8:Shared} {d7:St} {I:Addr} {fp wr:List Addr} {St:Nat->Heap->Prop} (ha:AOk n A) (d9:Rel C Y dZ D env d7 ee) (gG:fC C.T [] ee d8) (F:wQ C A fc (Xo C (wr++Y) env d7) d8.heap l target I fp wr St) (hst:St 0 d8.heap)
  (hfp:∀ b ∈ fp,b ∉ fa env++fj d7.M/\b ∉ C.T/\jr d8.heap b) (hw:∀ b ∈ wr,ee.heap.get? b=none) (hcap:∀ L,Cap env (g6 scope env L) d7 μc)
  (sG:∀ D L,Inv D L 0 ⟨μc,(D,acc0)::d7.M⟩) (jj:∀ D L i S,Inv D L i S->∀ p ∈ fc,p ∈ S.M)
  (turn:∀ D L i S x,l[i]? = some x->Inv D L i S->TG C n (g6 scope env L) S target x fun eG=>CT C n (g6 scope env L) eG ifs fun b fk=>if b=true then EM C n (g6 scope env L) fk (body D L) (j5 (Inv D L (i+1))) else j5 (Inv D L (i+1)) fk)
  (exit:∀ {L D':Addr} {Wx:List Addr} {s3 s':Shared} {S':Mine.St} {m:Str->Option Value},Inv D' L l.length S'->fC C.T [] ee s3->(∀ b ∈ Wx,ee.heap.get? b=none)->L ∈ Wx->Rel C ([L]++Y) s3 (Wx++(fa env++fj d7.M)) env ⟨d7.μ,S'.M⟩ s' ->
   (∀ v av,VR ee.heap (Xo C Y env d7) v av->VR s'.heap (Xo C ([L]++Y) env ⟨d7.μ,S'.M⟩) v av)->s'.heap.Ns L m->compPost (model C.prog C.w) A No use Qc (.ref D') L (.ok .next) s') :
  wpAny (model C.prog C.w) A newAcc (fun acc ez=>wpAny (model C.prog C.w) A (newFunctionEnv scope env.globals (closOf env scope.names []) [] env.qual none .none (some env)) (fun cenv gC =>
   codeAny (model C.prog C.w) A (.compStart e 0 (.ref I) acc { cenv with scope:=relabel scope env }) (compPost (model C.prog C.w) A No use Qc acc cenv.locals) gC) No ez) No d8:=by
 refine hnew A d8 _ (wpAny_newFunctionEnv hcell (by intro y hy;simp at hy) (fun iJ ji vI=>?_) hkind)
 dsimp only at ji vI ⊢;have D2:d8.heap.get? d8.heap.objs.size=none:=eH _;refine o0_2 (d9.Au ok gG hw (F.lw 0 _ hst)) fun eB eN=>?_;let ez:Shared:={ d8 with heap:=d8.heap.push ob0 }
 have eD:ez.heap.get? d8.heap.objs.size=some ob0:=aI _ hob;have hfoot:foot (d8.heap.objs.size,acc0)=[d8.heap.objs.size]:=by unfold foot;rw [hmo]
 refine o0_2 (eB.newObj ok (a:=d8.heap.objs.size) (o:=acc0) (s':=ez) (fun b hb=>by
  rw [hfoot] at hb;rw [ao.mp hb];exact ⟨D2,_,eD⟩) (by rw [hfoot];simp) (.alloc ..) (hacc _ _ _ eD)) fun wJ qd=>?_
 have sub:e7 ((d8.heap.objs.size,acc0)::d7.M) (d7.M++[(d8.heap.objs.size,acc0)]):=.of (R:=[]) (by rw [bf];exact aZ (l₁:=[_]))
 have eV:=wJ.jb sub;have L3:ez.heap.get? ez.heap.objs.size=none:=eH _;have keep4:∀ a o,ez.heap.get? a=some o->iJ.get? a=some o:=fun a o e=>vI.extBut a o (cz (bH e)) (aA _ e);have um:fC C.T [] ez { ez with heap:=iJ,toks:=d8.toks+([]:List (Str×Value)).length }:=⟨.of_keeps keep4,rfl,rfl,id⟩
 have efa:fa (g6 scope env ez.heap.objs.size)=[ez.heap.objs.size]:=by unfold fa;simp [g6,compEnvC]
 have hf:∀ b ∈ fa (g6 scope env ez.heap.objs.size),ez.heap.get? b=none:=fun b hb=>by
  rw [efa] at hb;have e:b=ez.heap.objs.size:=by simpa using hb
  subst e;exact L3
 have inner:∀ {v av},VR ez.heap (Xo C (wr++Y) env ⟨d7.μ,(d8.heap.objs.size,acc0)::d7.M⟩) v av->VR iJ (Xo C (fa env++(wr++Y)) (g6 scope env ez.heap.objs.size) ⟨μc,(d8.heap.objs.size,acc0)::d7.M⟩) v av:=fun r =>
  (r.sub (enterX hf)).stp um.heap (fun _ h=>nomatch h) fun a h=>af _ h
 have lentOk:∀ y c,(closOf env scope.names []).lookup y=some c->c ∈ fa env++(wr++Y)\/C.Old c:=fun y c e=>by
  refine o0_2 (gz hok e) fun e1 k=>?_;rcases iO k with k | k
  ·exact .inl (af _ (fB k e1))
  ·exact (eV.free y c k e1).imp (aa _) id
 have gm:Rel C (fa env++(wr++Y)) ez (fj ((d8.heap.objs.size,acc0)::d7.M)) (g6 scope env ez.heap.objs.size) ⟨μc,(d8.heap.objs.size,acc0)::d7.M⟩ { ez with heap:=iJ,toks:=d8.toks+([]:List (Str×Value)).length }:=by
  refine eV.enter (S:=⟨d7.μ,(d8.heap.objs.size,acc0)::d7.M⟩) ok um hf (fun b hb=>?_) (by rw [efa];simp) ⟨?_,d9.ev.glob,d9.ev.wV,fun y ky=>?_⟩ ⟨⟨_,ji,fun y av e k=>?_⟩,fun y av e k=>?_,fun y c k _=>?_,fun y av e=>?_⟩ (fun y c _ e=>lentOk y c e)
  ·rw [efa] at hb;have e:b=ez.heap.objs.size:=by simpa using hb
   refine o3_5 ji fun o _ _ q _=>?_;clear ji;exact e▸⟨o,q⟩
  ·exact hkind
  ·refine o1_3 (aE.mp (mem_of_lookup ky)) fun p hp ep=>?_;obtain ⟨yn,yk⟩:=p;by_cases hc:(yk == NameKind.free && env.scope.kind == .function && env.kindOf yn == some .cell)=true
   ·simp only [hc,if_true] at ep;cases ep
   ·simp only [hc,cg,bu] at ep;cases ep;exact hmore (y,.free) hp rfl
  ·exfalso;have:=(hcap ez.heap.objs.size).all (y,av) (mem_of_lookup e);rw [k] at this;rcases this.2.2.1 with q | q <;> cases q
  ·refine o0_4 ((hcap ez.heap.objs.size).all (y,av) (mem_of_lookup e)) fun e1 e2 _ e4=>?_;refine o2_5 (eV.fr.cel y av e1 e4) fun c w e5 e6 r6=>?_;refine ⟨c,w,e2.trans e5,?_,inner r6⟩;refine o1_3 e6 fun o ho hd=>?_;clear e6;exact ⟨o,keep4 _ _ ho,hd⟩
  ·exact absurd k.2 (by simp [g6,compEnvC])
  ·exact .inr ((hcap ez.heap.objs.size).all (y,av) (mem_of_lookup e)).2.2.1
 have gF:=gm.vc (D':=wr++fj ((d8.heap.objs.size,acc0)::d7.M)) (fun a h=>aa _ h) fun p hp q=>(au.mp q).elim (fun z=>(eB.z p hp).2.2 (af _ z)) fun z=>(gm.z p hp).2.2 z;have up:∀ v av,VR d8.heap (Xo C (wr++Y) env d7) v av->VR iJ (Xo C (fa env++(wr++Y)) (g6 scope env ez.heap.objs.size) ⟨μc,(d8.heap.objs.size,acc0)::d7.M⟩) v av:=fun v a r =>
  inner (sub.vr (qd v a r))
 have hst4:St 0 iJ:=F.frame _ _ _ hst fun b _ o e=>keep4 b o (aA _ e);have lentW:∀ V,(∀ a ∈ V,ee.heap.get? a=none)->∀ y c,q9 (g6 scope env ez.heap.objs.size) y->(g6 scope env ez.heap.objs.size).cells.lookup y=some c->c ∉ V:=fun V hV y c _ e q=>by
  refine o0_2 (gz hok e) fun e1 k=>?_;rcases iO k with k | k
  ·exact (d9.hi c (af _ (fB k e1))).2.2.ne (hV c q) rfl
  ·exact d9.mU hV y c k e1 q
 have wrLive:∀ b ∈ wr,jr ez.heap b:=fun b h=>by
  refine o1_2 (F.lw 0 _ hst b h) fun o e=>?_;exact ⟨o,aA _ e⟩
 have loop:codeAny (model C.prog C.w) A (.compLoop e 0 (.ref I) (.ref d8.heap.objs.size) (g6 scope env ez.heap.objs.size)) (compPost (model C.prog C.w) A No use Qc (.ref d8.heap.objs.size) ez.heap.objs.size) { ez with heap:=iJ,toks:=d8.toks+([]:List (Str×Value)).length }:=by
  refine we ok (cl _ _) (Inv d8.heap.objs.size ez.heap.objs.size) ha gF F up (jj _ _) hst4 (fun b h=>aa _ (af _ h)) (fun b h=>af _ h) (lentW wr hw) (fun b hb=>⟨(hfp b hb).2.1,?_⟩) (sG _ _) (turn _ _) fun s' S' s'' inv R' K' st=>?_
  ·by_cases hb':b ∈ wr
   ·exact .inl hb'
   ·refine .inr ⟨fun q=>?_,?_⟩
    ·rcases au.mp q with z | z
     ·exact hb' z
     ·have z':b ∈ d8.heap.objs.size::fj d7.M:=by
       have e1:fj ((d8.heap.objs.size,acc0)::d7.M)=foot (d8.heap.objs.size,acc0)++fj d7.M:=rfl;rw [e1,hfoot] at z;exact z
      rcases aG.mp z' with e | z
      ·exact (hfp b hb).2.2.ne (e▸D2) rfl
      ·exact (hfp b hb).1 (aa _ z)
    ·refine o1_2 ((hfp b hb).2.2) fun o e=>?_;exact ⟨o,aA _ e⟩
  ·refine o0_3 (eV.vn (S:=⟨d7.μ,(d8.heap.objs.size,acc0)::d7.M⟩) (V:=wr) (Z:=[ez.heap.objs.size]) ok R' (fun a h=>af _ h) (fun a h=>af _ h)
    (fun y c k e q=>d9.mU hw y c k e q) (fun a h=>by rw [efa];exact ⟨h,(ao.mp h).symm▸L3⟩)) fun Ro Ko Vo=>?_
   refine o1_3 R'.fr.loc fun m hm _=>?_;have nwY:∀ a ∈ [ez.heap.objs.size]++Y,a ∉ wr:=fun a ha q=>by
    rcases au.mp ha with h | h
    ·have e:a=ez.heap.objs.size:=ao.mp h;subst e;exact (wrLive _ q).ne L3 rfl
    ·exact (d9.hi a (aa _ (aa _ h))).2.2.ne (hw a q) rfl
   have lA:fC C.T [] ee ez:=gG.gP (.alloc ..);have Ro':=Ro.vc (D':=(ez.heap.objs.size::wr)++(fa env++fj d7.M)) (fun a h=>ai _ h) fun p hp q=>(aG.mp q).elim (fun e=>by
    have h:=(eV.zb p hp).1;rw [e,L3] at h;cases h) (eB.z p hp).2.2
   refine o0_2 (Rel.rE (V:=wr) (Y':=[ez.heap.objs.size]++Y) ok Ro' st (fun a h=>by simp [h]) (fun a h=>by simp [h]) (fun y c k e q=>d9.mU hw y c k e q)
    (fun a h=>by
     simp only [au,aG] at h ⊢;rcases h with h | h
     ·exact .inl h
     ·exact .inr (.inr h)) nwY (fun x c k e=>(d9.free x c k e).imp (aa _) id) (fun p hp=>aa _ (d9.z p hp).2.1)) fun Rx Vx=>?_
   have hLT:ez.heap.objs.size ∉ C.T:=Rx.tn (aa _ (aa _ (by simp)))
   have hmc:s''.heap.Ns ez.heap.objs.size m:=hm.at' fun o e=>st.heap.keep _ o e (fun q=>(wrLive _ q).ne L3 rfl) hLT;have hW':∀ b ∈ ez.heap.objs.size::wr,ee.heap.get? b=none:=fun b hb=>by
    rcases aG.mp hb with e | h
    ·subst e;exact lA.dead L3 hLT
    ·exact hw b h
   exact exit inv gG hW' (aj ..) Rx (fun v av r=>Vx _ _ (Ko _ _ (sub.vr (qd _ _ (eN _ _ r))))) hmc
 exact (cl _ _).start _ _ _ _ loop (F.self _ _ _ hst4 loop)
end
end Mine
namespace Mine
structure rA (scope:Scope) (env:Env):Prop where
 ok:j0 scope env=true
 cell:∀ y ∈ scope.names,y.2≠.cell
 kind:scope.kind = .function
 names:∀ y ∈ scope.names,y.2 = .local->scope.names.lookup y.1=some .local
 more:∀ y ∈ scope.names,y.2 = .free->(y.1 == ("__classdict__" : Str))=false
structure Mk (C:Cx) (newAcc:Sem Value) (ob0:Obj) (acc0:AO):Prop where
 new:∀ A s (Q:Value->Shared->Prop),Q (.ref s.heap.objs.size) { s with heap:=s.heap.push ob0 }->wpAny (model C.prog C.w) A newAcc Q No s
 acc:∀ h X a,h.get? a=some ob0->OR C h X a acc0
 more:acc0.more=[]
 ob:ob0.isFreed=false
theorem mkL {C:Cx}:Mk C (newList []) { cls:=.type "list", dict:=none,data:=.seq ([]:List Value).toArray } (.list []) :=
 ⟨fun A s Q q=>cE q,fun h X a e=>⟨[],_,e,.nil⟩,rfl,rfl⟩
theorem mkD {C:Cx} {K:Type} [DecidableEq K] (k:DK C K):Mk C newDict { cls:=.type "dict", dict:=none,data:=.dict #[] } (k.ob []) :=
 ⟨fun A s Q q=>cE q,fun h X a e=>k.of (kvs:=[]) ⟨_,#[],0,e,⟨rfl,rfl,rfl⟩,rfl,fun _ he=>by simp at he,Pairs.nil,List.nodup_nil⟩ .nil,k.more _,rfl⟩
section
variable {C:Cx} (ok:C.Ok) {n:Nat} {env:Env} {S:St}
theorem EV.frozen {e:Expr} {P:AV->St->Prop} (h:EV C n env S e fun a S'=>∃ D r M',a = .raw (.ref D)/\S'.M=(D,.list r)::M'/\P (.lst r) ⟨S'.μ,M'⟩):EV C n env S e P:=fun A Y dZ D s Q ha R q =>
 h A Y dZ D s Q ha R fun v s' a S' p R' K' r=>by
   obtain ⟨μ,M⟩:=S';refine o3_6 p fun D' l M' rf3 e2 pp=>?_;clear p;subst rf3;obtain rfl:M=(D',.list l)::M':=e2;refine VR.fM r ?_;refine o0_2 R'.vN fun Rf rf=>?_;exact q _ _ _ _ pp Rf (fun v av z=>(e7.of (R:=[(D',.list l)]) aZ:e7 M' ((D',AO.list l)::M')).vr (K' v av z)) rf
theorem EM.append {elt:Expr} {D:Addr} {P:St->Prop} (h:EV C n env S elt fun c d7=>∃ l,d7.M[0]? = some (D,.list l)/\l.length<=sizeLine/\P ⟨d7.μ,d7.M.set 0 (D,.list (l++[c]))⟩) (ok:C.Ok) :
  EM C n env S (do let x <- eval elt env;let _ <- call (.builtin "list.append") [.ref D,x]) P:=fun A Y dZ iC s Q ha R q =>
 ah (h A Y dZ iC s _ ha R fun v ee c d7 p d9 eE r=>by
  refine o1_4 p fun l hM hz hp=>?_;clear p;refine ah (O.append (env:=env) (n:=n) (P:=fun _ S'=>P S') ok hM hz hp A Y dZ iC ee [v] _ ha d9 (.one r) fun r' d8 b eG fh eB eN fz=>ak (q _ _ () _ fh eB (eE.trans eN) trivial)))
theorem EM.C4 {K:Type} [DecidableEq K] (k:DK C K) {kx vx:Expr} {D:Addr} {pos:Pos} {P:St->Prop} (h:EV C n env S kx fun ka d7=>EV C n env d7 vx fun c eG=>∃ x l,ka=k.av x/\eG.M[0]? = some (D,k.ob l)/\l.length<=1000/\P ⟨eG.μ,eG.M.set 0 (D,k.ob (iZ l x c))⟩) (ok:C.Ok) :
  EM C n env S (do
      let kv <- eval kx env
      let vv <- holding [kv] (eval vx env)
      standAt pos
      holding [kv,vv] (dictSet D kv vv)) P:=fun A Y dZ iC s Q ha R q=>by
 have sl:sizeLine=16777216:=by decide
 refine ah (h A Y dZ iC s _ ha R fun kv ee ka d7 jx d9 eE fy=>ah (bw (jx A Y dZ iC ee _ ha d9 fun v ez c fk p eV fG f7=>?_)));refine o2_6 p fun x l rf2 hM hz hp=>?_;clear p;subst rf2;refine o1_3 (k.to (eV.ob _ (eu hM))) fun kvs e rs=>?_;refine ah (bY (bw ?_));refine wpAny_dictSet_pairs (k.is fy) e (fun h' e' hb=>?_) (by rw [rs.length];lia)
 have st:fC C.T [D] ez { ez with heap:=h',toks:=ez.toks+1 }:=⟨.sameBut hb (CO k eV (eu hM)),rfl,rfl,id⟩
 refine o0_2 (Rel.qw ok k eV hM f7 rs (s':={ ez with heap:=h',toks:=ez.toks+1 }) e' st) fun gm gK=>?_
 exact q _ _ () _ hp gm ((eE.trans fG).trans gK) trivial
structure CWalk (C:Cx) (n:Nat) (env:Env) (scope:Scope) (d7:St) (μc:List (Str×AV)) (acc0:AO) (fc:List (Addr×AO)) (l:List AV) (target:Expr) (ifs:List Expr) (body:Addr->Addr->Sem Unit) (Inv:Addr->Addr->Nat->St->Prop):Prop where
 cap:∀ L,Cap env (g6 scope env L) d7 μc
 sG:∀ D L,Inv D L 0 ⟨μc,(D,acc0)::d7.M⟩
 stay:∀ D L i S,Inv D L i S->∀ p ∈ fc,p ∈ S.M
 turn:∀ D L i S x,l[i]? = some x->Inv D L i S->TG C n (g6 scope env L) S target x fun eG=>CT C n (g6 scope env L) eG ifs fun b fk=>if b=true then EM C n (g6 scope env L) fk (body D L) (j5 (Inv D L (i+1))) else j5 (Inv D L (i+1)) fk
include ok
theorem EV.yl {e target iter:Expr} {ifs:List Expr} {gs:List Comprehension} {body:Addr->Addr->Sem Unit} {scope:Scope} {pos:Pos} {newAcc:Sem Value} {ob0:Obj} {acc0:AO} {P:AV->St->Prop} (he:eval e env=comprehension e scope env pos newAcc false (eval iter env) none) (hcl:clausesOf e=⟨target,iter,ifs,0⟩::gs)
  (mk:Mk C newAcc ob0 acc0) (cl:∀ D L,Clause C.prog C.w e target iter ifs (body D L) 0 (.ref D) (g6 scope env L)) (cs:rA scope env)
  (h:EV C n env S iter fun a d7=>∃ l fc μc Inv,f6 C n env d7 a l fc target/\CWalk C n env scope d7 μc acc0 fc l target ifs body Inv/\∀ D L S',Inv D L l.length S'->P (.raw (.ref D)) ⟨d7.μ,S'.M⟩)
  (hs:∀ x,foldedSetIterable iter env x=pure x:=by intro _;rfl):EV C n env S e P:=by
 intro A Y dZ D s Q ha R q;rw [he];refine wpAny_comprehension_free (use:=none) hcl hs (jv cs.ok) cs.kind cs.names (h A Y dZ D s _ ha R fun v ee a d7 p d9 eE r=>?_);refine o4_7 p fun l fc μc Inv fe W hP=>?_;clear p;refine fe A Y dZ D ee v _ ha d9 r fun I fp wr St d8 gG F hst hfp hw=>wc ok μc Inv mk.new mk.acc mk.more mk.ob cl cs.ok cs.cell cs.kind cs.more ha d9 gG F hst hfp hw W.cap W.sG W.stay W.turn
  fun {L D' Wx s3 s' S' m} inv lA hW' hL Rx V hmc=>⟨m,hmc,fun h'' hs''=>?_⟩
 have hCT:L ∉ C.T:=Rx.tn (aa _ (aa _ (by simp)))
 have st2:fC C.T [L] s' { s' with heap:=h'' }:=⟨.sameBut hs'' hCT,rfl,rfl,id⟩
 refine o0_2 (Rel.zY (V:=[L]) (W:=Wx) ok d9 lA hW' (fun b hb=>by rw [ao.mp hb];exact hL) Rx st2) fun Rz Vz=>?_
 exact q _ _ _ _ (hP _ _ _ inv) Rz (fun v av r=>Vz _ _ (V _ _ (eE _ _ r))) (.raw _)
theorem s7 {y:Str} {py spos:Pos} {e target iter:Expr} {ifs:List Expr} {gs:List Comprehension} {body:Addr->Addr->Sem Unit} {scope:Scope} {pos:Pos} {newAcc:Sem Value} {ob0:Obj} {acc0:AO} {P:AF->St->Prop} (he:evalThenUse e env (assign (.Name y py) env)=(do let _ <- comprehension e scope env pos newAcc false (eval iter env) (some (assign (.Name y py) env)))) (hcl:clausesOf e=⟨target,iter,ifs,0⟩::gs)
  (mk:Mk C newAcc ob0 acc0) (cl:∀ D L,Clause C.prog C.w e target iter ifs (body D L) 0 (.ref D) (g6 scope env L)) (cs:rA scope env)
  (h:EV C n env S iter fun a d7=>∃ l fc μc Inv,f6 C n env d7 a l fc target/\CWalk C n env scope d7 μc acc0 fc l target ifs body Inv/\∀ D L S',Inv D L l.length S'->P .next ⟨ins y (.raw (.ref D)) d7.μ,S'.M⟩)
  (hky:env.kindOf y=some .local:=by rfl)
  (hsw:swapsWith e (some (.Name y py)) spos.line env=pure true:=by rfl)
  (hs:∀ x,foldedSetIterable iter env x=pure x:=by intro _;rfl):E1 C n env S (.Assign [.Name y py] e spos) P:=by
 intro A Y dZ D s Q ha R q;show wpAny _ _ (exec (.Assign [.Name y py] e spos) env) _ _ _;rw [exec_Assign_Name_used _ _ _ _ hsw,he];refine ah (bY (ah ?_));refine ah (bx (wpAny_comprehension_free (use:=some (assign (.Name y py) env)) (Q:=fun _ s'=>Q .next s') hcl hs (jv cs.ok) cs.kind cs.names (h A Y dZ D s _ ha R fun v ee a d7 p d9 eE r=>?_)) (fun _ s' hq=>ak (ak hq)) fun _ _ e=>e);refine o4_7 p fun l fc μc Inv fe W hP=>?_;clear p;refine fe A Y dZ D ee v _ ha d9 r fun I fp wr St d8 gG F hst hfp hw=>wc ok μc Inv mk.new mk.acc mk.more mk.ob cl cs.ok cs.cell cs.kind cs.more ha d9 gG F hst hfp hw W.cap W.sG W.stay W.turn
  fun {L D' Wx s3 s' S' m} inv lA hW' hL Rx V hmc=>?_
 show wpAny _ A (assign (.Name y py) env (.ref D')) _ _ _;refine cD (store ok _ (.inl hky) Rx.rebase (.raw (.ref D')) fun gr R5 K5=>?_);have hC5:L ∉ fa env++fj S'.M:=Rx.dis _ (by simp)
 have hCT:L ∉ C.T:=Rx.tn (aa _ (aa _ (by simp)))
 refine ⟨m,hmc.at' fun o e=>R5.st.heap.keep _ o e hC5 hCT,fun h'' hs''=>?_⟩;have st2:fC C.T [L] gr { gr with heap:=h'' }:=⟨.sameBut hs'' hCT,rfl,rfl,id⟩
 refine o0_2 (Rel.zY (V:=[L]) (W:=Wx) ok d9 lA hW' (fun b hb=>by rw [ao.mp hb];exact hL) (Rx.merge R5) st2) fun Rz Vz=>?_
 exact q _ _ _ _ (hP _ _ _ inv) Rz (fun v av r=>Vz _ _ (K5 _ _ (V _ _ (eE _ _ r)))) .next
end
end Mine
namespace Mine
theorem qJ {x:Str} {a b:AV}:∀ {μ:List (Str×AV)},ins x a (ins x b μ)=ins x a μ
 | []=>by simp [ins]
 | (y,w)::r=>by
   have e0:∀ (c:AV) y w r,ins x c ((y,w)::r)=if x == y then (y,c)::r else (y,w)::ins x c r:=fun _ _ _ _=>rfl
   rw [e0 b,e0 a];cases h:x == y with
   | true =>
     rw [ay rfl,ay rfl,e0,h,ay rfl]
   | false =>
     rw [aq (by decide),aq (by decide),e0,h,aq (by decide),qJ]
theorem jf {x:Str} {a:AV} {μ:List (Str×AV)}:(ins x a μ).lookup x=some a:=by rw [fq,ay rfl]
theorem TG.mono {C:Cx} {n:Nat} {env:Env} {S:St} {t:Expr} {a:AV} {P P':St->Prop} (h:TG C n env S t a P) (hp:∀ S',P S'->P' S'):TG C n env S t a P' :=
 fun A Y dZ D s v Q ha R r q=>h A Y dZ D s v Q ha R r fun s' S' p R' K'=>q s' S' (hp S' p) R' K'
section
variable {C:Cx} {n:Nat} {env:Env} {S:St}
theorem CWalk.pureL (ok:C.Ok) {elt target:Expr} {ifs:List Expr} {scope:Scope} {d7:St} {l:List AV} {fc:List (Addr×AO)} {μc:List (Str×AV)} {f:AV->Option AV} (hM:∀ p ∈ fc,p ∈ d7.M) (cap:∀ L,Cap env (g6 scope env L) d7 μc)
  (step:∀ D acc L,∀ x ∈ l,Step C n (g6 scope env L) ⟨μc,(D,.list acc)::d7.M⟩ target ifs elt x (f x)) (hz:l.length<=1000000) :
  CWalk C n env scope d7 μc (.list []) fc l target ifs (fun D L=>do let x <- eval elt (g6 scope env L);let _ <- call (.builtin "list.append") [.ref D,x]) (fun D _ i S=>S=⟨μc,(D,.list ((l.take i).filterMap f))::d7.M⟩):=by
 refine ⟨cap,fun D L=>rfl,fun D L i S e p hp=>e▸ai _ (hM p hp),fun D L i S x hx e=>?_⟩;subst e;have takes:(l.take (i+1)).filterMap f=(l.take i).filterMap f++(match f x with | Option.none=>[] | Option.some y=>[y]):=by
  rw [bM,hx,List.filterMap_append];cases hfa:f x <;> simp [hfa]
 refine (step D _ L x (aV hx)).mono fun eG fh=>G.mono fh fun b fk fF=>?_;cases hfa:f x with
 | none =>
   rw [hfa] at fF;refine o0_2 fF fun rf0 le=>?_;clear fF;subst rf0;rw [aq (by decide)]
   refine ⟨_,le,?_⟩;rw [takes,hfa,bf]
 | some y =>
   rw [hfa] at fF;obtain ⟨rfl,fF⟩:=fF;rw [ay rfl];refine EM.append (G.mono fF fun c gU gY=>?_) ok;refine o0_2 gY fun rf0 le=>?_;clear gY;subst rf0;refine ⟨_,by rw [<- le.1];rfl,?_,⟨μc,(D,.list ((l.take (i+1)).filterMap f))::d7.M⟩,⟨?_,le.2⟩,rfl⟩
   ·have e2:((l.take i).filterMap f).length<=i:=bC (List.length_filterMap_le ..) (by simp [Nat.min_le_left])
    have e3:=(aM.mp hx).1;unfold sizeLine;lia
   ·rw [takes,hfa,<- le.1];rfl
variable (ok:C.Ok)
include ok
theorem EV.tM {elt target iter:Expr} {ifs:List Expr} {scope:Scope} {pos:Pos} {l:List AV} {fc:List (Addr×AO)} {μc:List (Str×AV)} {f:AV->Option AV} {P:AV->St->Prop} (cs:rA scope env)
  (h:EV C n env S iter fun a d7=>f6 C n env d7 a l fc target/\(∀ p ∈ fc,p ∈ d7.M)/\(∀ L,Cap env (g6 scope env L) d7 μc)/\(∀ D acc L,∀ x ∈ l,Step C n (g6 scope env L) ⟨μc,(D,.list acc)::d7.M⟩ target ifs elt x (f x))/\P (.lst (l.filterMap f)) d7)
  (hz:l.length<=1000000) (hs:∀ x,foldedSetIterable iter env x=pure x:=by intro _;rfl):EV C n env S (.ListComp elt [⟨target,iter,ifs,0⟩] scope pos) P:=by
 refine EV.frozen (EV.yl ok (eval_ListComp ..) rfl mkL (fun D L=>qX) cs (G.mono h fun a d7 p=>⟨l,fc,μc,_,p.1,CWalk.pureL ok p.2.1 p.2.2.1 p.2.2.2.1 hz,fun D L S' e=>?_⟩) hs);subst e;refine ⟨D,_,d7.M,rfl,rfl,?_⟩;rw [bP];exact p.2.2.2.2
theorem EX.xU {y:Str} {py spos:Pos} {elt target iter:Expr} {ifs:List Expr} {scope:Scope} {pos:Pos} {l:List AV} {fc:List (Addr×AO)} {μc:List (Str×AV)} {f:AV->Option AV} {rest:List Stmt} {P:AF->St->Prop} (cs:rA scope env)
  (h:EV C n env S iter fun a d7=>f6 C n env d7 a l fc target/\(∀ p ∈ fc,p ∈ d7.M)/\(∀ L,Cap env (g6 scope env L) d7 μc)/\(∀ D acc L,∀ x ∈ l,Step C n (g6 scope env L) ⟨μc,(D,.list acc)::d7.M⟩ target ifs elt x (f x))/\EX C n env ⟨ins y (.lst (l.filterMap f)) d7.μ,d7.M⟩ rest P)
  (hz:l.length<=1000000)
  (hky:env.kindOf y=some .local:=by rfl)
  (hsw:swapsWith (.ListComp elt [⟨target,iter,ifs,0⟩] scope pos) (some (.Name y py)) spos.line env=pure true:=by rfl)
  (hs:∀ x,foldedSetIterable iter env x=pure x:=by intro _;rfl):EX C n env S (.Assign [.Name y py] (.ListComp elt [⟨target,iter,ifs,0⟩] scope pos) spos::rest) P:=by
 refine EX.cons (s7 ok rfl rfl mkL (fun D L=>qX) cs (G.mono h fun a d7 p=>⟨l,fc,μc,_,p.1,CWalk.pureL ok p.2.1 p.2.2.1 p.2.2.2.1 hz,fun D L S' e=>?_⟩) hky hsw hs);subst e;rw [bP];show EX C n env ⟨ins y (.raw (.ref D)) d7.μ,(D,.list (l.filterMap f))::d7.M⟩ rest P;refine G.freeze (l:=l.filterMap f) (a:=D) (M':=d7.M) jf (.of (R:=[]) (by rw [bf])) ?_
 rw [qJ];exact p.2.2.2.2
end
section
variable {C:Cx} {n:Nat} {env:Env} {S:St} {K:Type} [DecidableEq K] (k:DK C K)
noncomputable def dfold (f:AV->K×AV) (l:List AV):List (K×AV):=l.foldl (fun acc x=>iZ acc (f x).1 (f x).2) []
theorem yz {l:List (K×AV)} {x:K} {v:AV}:(iZ l x v).length<=l.length+1:=by
 unfold iZ;split <;> simp
theorem vX (f:AV->K×AV) (l:List AV):(dfold f l).length<=l.length:=by
 have:∀ (l:List AV) (acc:List (K×AV)),(l.foldl (fun acc x=>iZ acc (f x).1 (f x).2) acc).length<=acc.length+l.length:=by
  intro l;induction l with
  | nil=>intro acc;simp
  | cons x l ih=>intro acc;have:=ih (iZ acc (f x).1 (f x).2);have h:=yz (l:=acc) (x:=(f x).1) (v:=(f x).2);simp only [cK,bg];lia
 have:=this l [];simpa [dfold] using this
theorem CWalk.AX (ok:C.Ok) {kx vx target:Expr} {scope:Scope} {d7:St} {l:List AV} {fc:List (Addr×AO)} {μc:List (Str×AV)} {f:AV->K×AV} (hM:∀ p ∈ fc,p ∈ d7.M) (cap:∀ L,Cap env (g6 scope env L) d7 μc)
  (step:∀ D acc L,∀ x ∈ l,TG C n (g6 scope env L) ⟨μc,(D,k.ob acc)::d7.M⟩ target x fun eG=>EV C n (g6 scope env L) eG kx fun ka fk=>ka=k.av (f x).1/\EV C n (g6 scope env L) fk vx fun c gU=>c=(f x).2/\Le ⟨μc,(D,k.ob acc)::d7.M⟩ gU) (hz:l.length<=1000) :
  CWalk C n env scope d7 μc (k.ob []) fc l target [] (fun D L=>do
          let kv <- eval kx (g6 scope env L)
          let vv <- holding [kv] (eval vx (g6 scope env L))
          standAt { kx.pos with endLine:=vx.pos.endLine,endCol:=vx.pos.endCol }
          holding [kv,vv] (dictSet D kv vv)) (fun D _ i S=>S=⟨μc,(D,k.ob (dfold f (l.take i)))::d7.M⟩):=by
 refine ⟨cap,fun D L=>rfl,fun D L i S e p hp=>e▸ai _ (hM p hp),fun D L i S x hx e=>?_⟩;subst e;have takes:dfold f (l.take (i+1))=iZ (dfold f (l.take i)) (f x).1 (f x).2:=by
  rw [bM,hx];unfold dfold;rw [dW];rfl
 refine (step D _ L x (aV hx)).mono fun eG fh=>CT.nil ?_;rw [ay rfl];refine EM.C4 k (G.mono fh fun ka fk fF=>G.mono fF.2 fun c gU gY=>?_) ok;refine o0_2 gY fun rf0 le=>?_;clear gY;subst rf0;refine ⟨_,dfold f (l.take i),fF.1,by rw [<- le.1];rfl,?_,⟨μc,(D,k.ob (dfold f (l.take (i+1))))::d7.M⟩,⟨?_,le.2⟩,rfl⟩
 ·have e2:=vX f (l.take i);have e3:=(aM.mp hx).1;simp at e2;lia
 ·rw [takes,<- le.1];rfl
variable (ok:C.Ok)
include ok
theorem EV.BE {kx vx target iter:Expr} {scope:Scope} {pos:Pos} {l:List AV} {fc:List (Addr×AO)} {μc:List (Str×AV)} {f:AV->K×AV} {P:AV->St->Prop} (cs:rA scope env)
  (h:EV C n env S iter fun a d7=>f6 C n env d7 a l fc target/\(∀ p ∈ fc,p ∈ d7.M)/\(∀ L,Cap env (g6 scope env L) d7 μc)/\(∀ D acc L,∀ x ∈ l,TG C n (g6 scope env L) ⟨μc,(D,k.ob acc)::d7.M⟩ target x fun eG=>EV C n (g6 scope env L) eG kx fun ka fk=>ka=k.av (f x).1/\EV C n (g6 scope env L) fk vx fun c gU=>c=(f x).2/\Le ⟨μc,(D,k.ob acc)::d7.M⟩ gU) /\
   ∀ D,P (.raw (.ref D)) ⟨d7.μ,(D,k.ob (dfold f l))::d7.M⟩)
  (hz:l.length<=1000) (hs:∀ x,foldedSetIterable iter env x=pure x:=by intro _;rfl):EV C n env S (.DictComp kx vx [⟨target,iter,[],0⟩] scope pos) P:=by
 refine EV.yl ok (arm_eval_DictComp ..) rfl (mkD k) (fun D L=>qY) cs (G.mono h fun a d7 p=>⟨l,fc,μc,_,p.1,CWalk.AX k ok p.2.1 p.2.2.1 p.2.2.2.1 hz,fun D L S' e=>?_⟩) hs;subst e;rw [bP];exact p.2.2.2.2 D
theorem rt {y:Str} {py spos:Pos} {kx vx target iter:Expr} {scope:Scope} {pos:Pos} {l:List AV} {fc:List (Addr×AO)} {μc:List (Str×AV)} {f:AV->K×AV} {P:AF->St->Prop} (cs:rA scope env)
  (h:EV C n env S iter fun a d7=>f6 C n env d7 a l fc target/\(∀ p ∈ fc,p ∈ d7.M)/\(∀ L,Cap env (g6 scope env L) d7 μc)/\(∀ D acc L,∀ x ∈ l,TG C n (g6 scope env L) ⟨μc,(D,k.ob acc)::d7.M⟩ target x fun eG=>EV C n (g6 scope env L) eG kx fun ka fk=>ka=k.av (f x).1/\EV C n (g6 scope env L) fk vx fun c gU=>c=(f x).2/\Le ⟨μc,(D,k.ob acc)::d7.M⟩ gU) /\
   ∀ D,P .next ⟨ins y (.raw (.ref D)) d7.μ,(D,k.ob (dfold f l))::d7.M⟩)
  (hz:l.length<=1000) (hky:env.kindOf y=some .local:=by rfl)
  (hsw:swapsWith (.DictComp kx vx [⟨target,iter,[],0⟩] scope pos) (some (.Name y py)) spos.line env=pure true:=by rfl)
  (hs:∀ x,foldedSetIterable iter env x=pure x:=by intro _;rfl):E1 C n env S (.Assign [.Name y py] (.DictComp kx vx [⟨target,iter,[],0⟩] scope pos) spos) P:=by
 refine s7 ok rfl rfl (mkD k) (fun D L=>qY) cs (G.mono h fun a d7 p=>⟨l,fc,μc,_,p.1,CWalk.AX k ok p.2.1 p.2.2.1 p.2.2.2.1 hz,fun D L S' e=>?_⟩) hky hsw hs;subst e;rw [bP];exact p.2.2.2.2 D
end
end Mine
namespace Mine
noncomputable def ltr (j:Nat):Str:=⟨#[97+j]⟩
noncomputable def lets (l:List Nat):Str:=⟨(l.map fun j=>97+j).toArray⟩
noncomputable def ltV (j:Nat):AV:=.str (ltr j)
noncomputable def vlt:AV->Nat
 | .str x=>x.cps.getD 0 0 - 97
 | _=>0
theorem gx (j:Nat):vlt (ltV j)=j:=by simp [vlt,ltV,ltr]
theorem nJ (l:List Nat):chars (lets l)=l.map ltV:=by simp [chars,lets,ltV,ltr]
theorem qa:chars "abcde" = (List.range 5).map ltV:=by rfl
theorem wH:∀ j,j<5->Builtin.Str.occurrences (Str.ofString "abcde") (ltr j) 0 (Str.ofString "abcde").length 1=[j]:=by decide +kernel
theorem je {i j:Nat} (h:ltr i=ltr j):i=j:=by
 have:=congrArg (fun x:Str=>x.cps.getD 0 0) h;simp [ltr] at this;exact this
noncomputable def maskOf (l:List Nat):Nat:=(l.map fun j=>2 ^ j).sum
noncomputable def xT (a:AV):Option AV:=some (.int ((2 ^ vlt a:Nat):Int))
theorem ve (l:List Nat):(l.map ltV).filterMap xT=(l.map fun j=>((2 ^ j:Nat):Int)).map AV.int:=by
 induction l with
 | nil=>rfl
 | cons a l ih =>
   rw [aU,cj (b:=.int ((2 ^ a:Nat):Int)) (by unfold xT;rw [gx]),ih];rfl
theorem xS (l:List Nat):(l.map fun j=>((2 ^ j:Nat):Int)).sum=((maskOf l:Nat):Int):=by
 unfold maskOf;induction l with
 | nil=>rfl
 | cons a l ih=>simp only [aU,bD,cJ,ih]
section
variable {w:World} {mg mb:Str->Option Value} {Z:Frag} (g:GA w mg mb)
include g
theorem zI {n:Nat} {M:List (Addr×AO)} {l:List Nat} {a:AV} (ha:a = .str (lets l)\/a = .lst (l.map ltV)) (hl:∀ j ∈ l,j<5) (hz:l.length<=1000):FC (CA w mg mb Z) (n+1) 319 M [a] (fun av M'=>av = .int (maskOf l:Nat)/\M'=M):=by
 have ok:=okA (Z:=Z) g;refine gO ok (ab:=[("letters", a)]) ⟨⟨_,rfl,rfl⟩,⟨_,_,_,_,rfl,rfl,rfl,rfl⟩,rfl,rfl,rfl,(fun x c h=>by cases h),rfl,rfl,rfl,by decide⟩ (by decide) (bind1 fun _=>rfl) (by intro x hx;simp at hx;subst hx;rfl) ?_
 intro L;refine EX.cons (E1.ret (EV.i6 (PE.gB rfl (g.non _ rfl) ((g.mb _ (by decide)).trans rfl)) (EL.cons ?_)))
 refine EV.tM ok (l:=l.map ltV) (fc:=[]) (μc:=[]) (f:=xT) ⟨rfl,by decide,rfl,by decide,by decide⟩ (PE.then (PE.name rfl) ⟨f6.of (.name _ _) ?_,fun p hp=>(nomatch hp),fun L'=>Cap.nil,fun D acc L' x hx=>?_,?_⟩) (by simp;lia)
 ·rcases ha with rfl | rfl
  ·rw [<- nJ];exact Iter.str ok
  ·exact Iter.lst ok
 ·refine o1_3 (aE.mp hx) fun j hj rf2=>?_;subst rf2;refine Step.some (y:=.int ((2 ^ j:Nat):Int)) ?_ |> fun h=>by
   unfold xT;rw [gx];exact h
  refine TG.name ok (.inl rfl) ?_;refine CT.nil ⟨rfl,?_⟩;refine PE.then (PE.cast (PE.bin (PE.int ok) (PE.index ok (PE.str ok) (PE.name rfl) (wH j (hl j hj))) (O.shl ok (by lia) (by have:=hl j hj;lia) (by decide))) (congrArg AV.int ?_)) ⟨rfl,Le.pre (ν:=[("letter", ltV j)])⟩
  rw [bL,Int.one_mul];rfl
 ·refine EL.nil ?_;rw [ve];refine (O.qt ok).mono (eq2 ?_);exact ⟨congrArg AV.int (xS l),rfl⟩
end
end Mine
namespace Mine
noncomputable abbrev Cw:=List (Nat×List Nat)
noncomputable def cwL (cw:Cw):List (Str×AV):=cw.map fun c=>(ltr c.1,.str (lets c.2))
noncomputable def mC (cw:Cw) (h x:Nat):Cw:=if cw.any (fun c=>c.1=h) then cw.map (fun c=>if c.1=h then (c.1,c.2++[x]) else c) else cw++[(h,[x])]
noncomputable def e9 (cw:Cw) (h:Nat):List Nat:=((cw.find? fun c=>c.1=h).map (·.2)).getD []
noncomputable def fQ (hd:Nat->Nat) (k:Nat):Cw:=(List.range k).foldl (fun cw x=>mC cw (hd x) x) []
theorem gA (hd:Nat->Nat) (k:Nat):fQ hd (k+1)=mC (fQ hd k) (hd k) k:=by
 unfold fQ;rw [dz,dW];rfl
theorem r7 (a b:Nat):(decide (ltr a=ltr b))=decide (a=b):=by
 by_cases h:a=b
 ·subst h;simp
 ·rw [bB h,bB fun e=>h (je e)]
theorem pH (l:List Nat) (x:Nat):lets l++ltr x=lets (l++[x]):=by
 apply Str.ext';rw [cps_append];simp [lets,ltr]
theorem sR (h:Nat):∀ cw:Cw,(cwL cw).find? (fun kv=>kv.1=ltr h)=(cw.find? fun c=>c.1=h).map fun c=>(ltr c.1,AV.str (lets c.2))
 | []=>rfl
 | (a,l)::cw=>by
   have e:cwL ((a,l)::cw)=(ltr a,.str (lets l))::cwL cw:=rfl;rw [e,bN,bN];have e2:decide ((ltr a,AV.str (lets l)).1=ltr h)=decide ((a,l).1=h):=r7 a h;rw [e2];cases decide ((a,l).1=h)
   ·exact sR h cw
   ·rfl
theorem oA (cw:Cw) (h:Nat):ie (cwL cw) (ltr h)=(cw.find? fun c=>c.1=h).map fun c=>AV.str (lets c.2):=by
 unfold ie;rw [sR,Option.map_map];rfl
theorem yh (cw:Cw) (h:Nat):(ie (cwL cw) (ltr h)).getD (.str "") = .str (lets (e9 cw h)):=by
 rw [oA];unfold e9;cases cw.find? fun c=>c.1=h <;> rfl
theorem z8 (cw:Cw) (h:Nat):(cwL cw).any (fun kv=>kv.1=ltr h)=cw.any (fun c=>c.1=h):=by
 unfold cwL;rw [List.any_map];congr 1;funext c;exact r7 c.1 h
theorem z9 (cw:Cw) (hn:(cw.map (·.1)).Nodup) (h x:Nat):iZ (cwL cw) (ltr h) (.str (lets (e9 cw h)++ltr x))=cwL (mC cw h x):=by
 unfold iZ mC;rw [z8];by_cases ha:cw.any (fun c=>c.1=h)=true
 ·rw [ay ha,ay ha];unfold cwL;rw [br,br];refine bh fun c hc=>?_;simp only [Function.comp];by_cases e:c.1=h
  ·have e2:e9 cw h=c.2:=by
    clear ha;induction cw with
    | nil=>cases hc
    | cons d cw ih =>
      unfold e9;rw [bN];by_cases ed:d.1=h
      ·rw [bU ed];rcases aG.mp hc with rfl | hc
       ·rfl
       ·exfalso;refine (bV.mp hn).1 ?_;show d.1 ∈ _;rw [ed,<- e];exact aE.mpr ⟨c,hc,rfl⟩
      ·rw [bB ed];rcases aG.mp hc with rfl | hc
       ·exact absurd e ed
       ·exact ih (bV.mp hn).2 hc
   rw [ay (by rw [e]),ay e,e2,pH]
  ·rw [aq (fun q=>e (je q)),aq e]
 ·rw [aq ha,aq ha];have e2:e9 cw h=[]:=by
   unfold e9;have:cw.find? (fun c=>c.1=h)=none:=by
    rw [List.find?_eq_none];intro c hc q;exact ha (cO.mpr ⟨c,hc,q⟩)
   rw [this];rfl
  rw [e2,pH];simp [cwL]
theorem nE (cw:Cw) (h x:Nat):(mC cw h x).map (·.1)=if cw.any (fun c=>c.1=h) then cw.map (·.1) else cw.map (·.1)++[h]:=by
 unfold mC;split
 ·rw [br];refine bh fun c _=>?_;simp only [Function.comp];split <;> rfl
 ·simp
theorem qV {cw:Cw} (hn:(cw.map (·.1)).Nodup) (h x:Nat):((mC cw h x).map (·.1)).Nodup:=by
 rw [nE];split
 ·exact hn
 ·rename_i ha;rw [aJ];refine ⟨hn,by simp,fun a ha' b hb=>?_⟩
  rw [ao.mp hb];rintro rfl;refine o1_3 (aE.mp ha') fun c hc e=>?_;exact ha (cO.mpr ⟨c,hc,bU e⟩)
theorem iB (hd:Nat->Nat):∀ k,((fQ hd k).map (·.1)).Nodup
 | 0=>List.nodup_nil
 | k+1=>by rw [gA];exact qV (iB hd k) _ _
theorem vZ (cw:Cw) (h x:Nat):(mC cw h x).length<=cw.length+1:=by
 unfold mC;split <;> simp
theorem kT (hd:Nat->Nat):∀ k,(fQ hd k).length<=k
 | 0=>bF _
 | k+1=>by rw [gA];exact bC (vZ ..) (Nat.succ_le_succ (kT hd k))
theorem v5 (cw:Cw) (h x k:Nat):e9 (mC cw h x) k=if k=h then e9 cw h++[x] else e9 cw k:=by
 unfold mC;by_cases ha:cw.any (fun c=>c.1=h)=true
 ·rw [ay ha];unfold e9;induction cw with
  | nil=>simp at ha
  | cons c cw ih =>
    rw [aU,bN,bN,bN];by_cases ec:c.1=h
    ·rw [ay ec,bU ec];by_cases ek:k=h
     ·rw [ay ek,show decide (c.1=k)=true from bU (ec.trans ek.symm)];rfl
     ·rw [aq ek,show decide (c.1=k)=false from bB fun q=>ek (q.symm.trans ec)];clear ih ha;show Option.getD (Option.map _ (List.find? _ (cw.map _))) []=_;congr 1;induction cw with
      | nil=>rfl
      | cons d cw ih =>
        rw [aU,bN,bN];by_cases ed:d.1=h
        ·rw [ay ed,show decide (d.1=k)=false from bB fun q=>ek (q.symm.trans ed)];exact ih
        ·rw [aq ed];cases decide (d.1=k)
         ·exact ih
         ·rfl
    ·rw [aq ec,bB ec];have ha':cw.any (fun c=>c.1=h)=true:=by simpa [ec] using ha
     have ih':=ih ha';by_cases ek:k=h
     ·rw [ay ek] at ih' ⊢;rw [show decide (c.1=k)=false from bB fun q=>ec (q.trans ek)];exact ih'
     ·rw [aq ek] at ih' ⊢;cases decide (c.1=k)
      ·exact ih'
      ·rfl
 ·rw [aq ha];have hn:∀ c ∈ cw,c.1≠h:=fun c hc q=>ha (cO.mpr ⟨c,hc,bU q⟩);have e0:cw.find? (fun c=>c.1=h)=none:=by
   rw [List.find?_eq_none];intro c hc q;exact hn c hc (by simpa using q)
  unfold e9;rw [List.find?_append];by_cases ek:k=h
  ·rw [ay ek,ek,e0];simp
  ·rw [aq ek];have:List.find? (fun c:Nat×List Nat=>decide (c.1=k)) [(h,[x])]=none:=by simp;exact fun q=>ek q.symm
   rw [this,Option.or_none]
theorem iw (hd:Nat->Nat) (h:Nat):∀ k,e9 (fQ hd k) h=(List.range k).filter fun x=>hd x=h
 | 0=>rfl
 | k+1=>by
   rw [gA,v5,dz,List.filter_append];by_cases e:h=hd k
   ·rw [ay e,e,iw hd (hd k) k];simp
   ·rw [aq e,iw hd h k];have:hd k≠h:=fun q=>e q.symm;simp [this]
theorem jZ (hd:Nat->Nat):∀ k h,h ∈ (fQ hd k).map (·.1)↔∃ x,x<k/\hd x=h
 | 0,h=>by simp [fQ]
 | k+1,h=>by
   rw [gA,nE];have ih:=jZ hd k;have e:(∃ x,x<k+1/\hd x=h)↔(∃ x,x<k/\hd x=h)\/hd k=h:=by
    constructor
    ·intro hz;refine o1_3 hz fun x hx e=>?_;clear hz;by_cases q:x=k
     ·exact .inr (q▸e)
     ·exact .inl ⟨x,by lia,e⟩
    ·rintro (⟨x,hx,e⟩ | e)
     ·exact ⟨x,by lia,e⟩
     ·exact ⟨k,by lia,e⟩
   rw [e];split
   ·rename_i ha;refine o1_3 (cO.mp ha) fun c hc q=>?_;have hm:hd k ∈ (fQ hd k).map (·.1):=aE.mpr ⟨c,hc,by simpa using q⟩
    rw [ih h];constructor
    ·exact .inl
    ·rintro (z | z)
     ·exact z
     ·exact (ih h).mp (z▸hm)
   ·rw [au,ih h,ao];constructor
    ·rintro (z | z)
     ·exact .inl z
     ·exact .inr z.symm
    ·rintro (z | z)
     ·exact .inl z
     ·exact .inr z.symm
end Mine
namespace Mine
noncomputable def insLt {α:Type} (lt:α->α->Bool) (x:α):List α->List α
 | []=>[x]
 | r::rs=>if lt x r then x::r::rs else r::insLt lt x rs
noncomputable def gI {α:Type} (lt:α->α->Bool) (l:List α):List α:=l.foldl (fun acc x=>insLt lt x acc) []
theorem pM {α β:Type} (f:α->β) (lt:β->β->Bool) (x:α):∀ l:List α,insLt lt (f x) (l.map f)=(insLt (fun a b=>lt (f a) (f b)) x l).map f
 | []=>rfl
 | r::rs=>by
   simp only [insLt,aU];split
   ·rfl
   ·rw [pM f lt x rs];rfl
theorem rH {α β:Type} (f:α->β) (lt:β->β->Bool) (l:List α):gI lt (l.map f)=(gI (fun a b=>lt (f a) (f b)) l).map f:=by
 unfold gI;have:∀ (l acc:List α),(l.map f).foldl (fun acc x=>insLt lt x acc) (acc.map f)=(l.foldl (fun acc x=>insLt (fun a b=>lt (f a) (f b)) x acc) acc).map f:=by
  intro l;induction l with
  | nil=>intro acc;rfl
  | cons a l ih=>intro acc;rw [aU,cK,cK,pM,ih]
 exact this l []
theorem ku {α:Type} (lt:α->α->Bool) (x:α):∀ l:List α,(insLt lt x l).Perm (x::l)
 | []=>.refl _
 | r::rs=>by
   unfold insLt;split
   ·exact .refl _
   ·exact ((ku lt x rs).cons r).trans (List.Perm.swap x r rs)
theorem gQ {α:Type} (lt:α->α->Bool) (l:List α):(gI lt l).Perm l:=by
 unfold gI;have:∀ (l acc:List α),(l.foldl (fun acc x=>insLt lt x acc) acc).Perm (acc++l):=by
  intro l;induction l with
  | nil=>intro acc;simp
  | cons a l ih =>
    intro acc;rw [cK];refine (ih _).trans ?_;refine ((ku lt a acc).append_right l).trans ?_;exact List.perm_middle.symm
 simpa using this l []
theorem l8 {α:Type} {lt lt':α->α->Bool} {x:α}:∀ {l:List α},(∀ r ∈ l,lt x r=lt' x r)->insLt lt x l=insLt lt' x l
 | [],_=>rfl
 | r::rs,h=>by
   unfold insLt;rw [h r (aj ..),l8 fun z hz=>h z (ai _ hz)]
theorem j9 {α:Type} {lt lt':α->α->Bool} {l:List α} (h:∀ a ∈ l,∀ b ∈ l,lt a b=lt' a b):gI lt l=gI lt' l:=by
 unfold gI;have:∀ (m acc:List α),(∀ a ∈ m,∀ b ∈ acc++m,lt a b=lt' a b)->m.foldl (fun acc x=>insLt lt x acc) acc=m.foldl (fun acc x=>insLt lt' x acc) acc:=by
  intro m;induction m with
  | nil=>intro acc _;rfl
  | cons a m ih =>
    intro acc h;rw [cK,cK,l8 fun r hr=>h a (aj ..) r (af _ hr)];refine ih _ fun b hb c hc=>h b (ai _ hb) c ?_;rcases au.mp hc with hc | hc
    ·rcases aG.mp ((ku lt' a acc).mem_iff.mp hc) with rfl | hc
     ·exact aa _ (aj ..)
     ·exact af _ hc
    ·exact aa _ (ai _ hc)
 exact this l [] fun a ha b hb=>h a ha b (by simpa using hb)
noncomputable def kasOk {α:Type} (n:Nat) (ans:Nat->Nat->Bool) (chk:α->Bool):KasT α->Bool
 | .ret a=>chk a
 | .ask i j k=>decide (i<n) && decide (j<n) && kasOk n ans chk (k (ans i j))
theorem sy {α:Type} {n:Nat} {ans:Nat->Nat->Bool} {chk:α->Bool} {cmp:Nat->Nat->(Bool->Shared->Prop)->Shared->Prop} {Inv:Shared->Prop}
  (hc:∀ i j C s,i<n->j<n->Inv s->(∀ s',Inv s'->C (ans i j) s')->cmp i j C s) {Q:α->Shared->Prop} (hq:∀ a s,chk a=true->Inv s->Q a s) :
  ∀ (t:KasT α) (s:Shared),kasOk n ans chk t=true->Inv s->t.kasWp cmp Q s
 | .ret a,s,h,hi=>hq a s h hi
 | .ask i j k,s,h,hi=>by
   unfold kasOk at h;rw [b8,b8,cF,cF] at h;exact hc i j _ s h.1.1 h.1.2 hi fun s' hi'=>sy hc hq (k (ans i j)) s' h.2 hi'
theorem lX {α:Type} {n:Nat} {ans ans':Nat->Nat->Bool} {chk:α->Bool} (h:∀ i j,i<n->j<n->ans i j=ans' i j):∀ t:KasT α,kasOk n ans chk t=true->kasOk n ans' chk t=true
 | .ret a,e=>e
 | .ask i j k,e=>by
   unfold kasOk at e ⊢;rw [b8,b8,cF,cF] at e ⊢;rw [<- h i j e.1.1 e.1.2];exact ⟨e.1,lX h _ e.2⟩
noncomputable def AN (r:List Nat) (i j:Nat):Bool:=decide (r.getD i 0<r.getD j 0)
noncomputable def ranks:Nat->List (List Nat)
 | 0=>[[]]
 | n+1=>(ranks n).flatMap fun r=>(List.range 4).map fun x=>x::r
theorem pC:∀ {n:Nat} {r:List Nat},r.length=n->(∀ x ∈ r,x<4)->r ∈ ranks n
 | 0,[],_,_=>by simp [ranks]
 | n+1,x::r,h,q=>by
   unfold ranks;refine bK.mpr ⟨r,pC (by simpa using h) fun y hy=>q y (ai _ hy),aE.mpr ⟨x,aL.mpr (q x (aj ..)),rfl⟩⟩
noncomputable def oW (n:Nat) (r:List Nat):Bool:=kasOk n (AN r) (fun p:Array Nat=>p.toList == gI (AN r) (List.range n)) (kas_sort n)
theorem Cb:(ranks 2).all (oW 2)=true:=by decide +kernel
theorem B9:(ranks 3).all (oW 3)=true:=by decide +kernel
theorem B8:(ranks 4).all (oW 4)=true:=by decide +kernel
structure Aj (n:Nat) (lt:Nat->Nat->Bool):Prop where
 asy:∀ i j,i<n->j<n->lt i j=true->lt j i=false
 neg:∀ i j k,i<n->j<n->k<n->lt k j=true->lt k i=true\/lt i j=true
noncomputable def o7 (n:Nat) (lt:Nat->Nat->Bool) (i:Nat):Nat:=((List.range n).filter fun k=>lt k i).length
theorem filter_le {l:List Nat} {p q:Nat->Bool} (h:∀ x ∈ l,p x=true->q x=true):(l.filter p).length<=(l.filter q).length:=by
 induction l with
 | nil=>exact bF _
 | cons a l ih =>
   have ih':=ih fun x hx=>h x (ai _ hx);rw [dJ,dJ];cases ep:p a with
   | true =>
     rw [h a (aj ..) ep];simpa using ih'
   | false =>
     cases q a
     ·simpa using ih'
     ·simp;lia
theorem filter_lt {l:List Nat} {p q:Nat->Bool} (h:∀ x ∈ l,p x=true->q x=true) {a:Nat} (ha:a ∈ l) (hp:p a=false) (hq:q a=true):(l.filter p).length<(l.filter q).length:=by
 induction l with
 | nil=>cases ha
 | cons b l ih =>
   have hl:=filter_le (l:=l) (p:=p) (q:=q) fun x hx=>h x (ai _ hx);rw [dJ,dJ];rcases aG.mp ha with rfl | ha
   ·rw [hp,hq];simp;lia
   ·have ih':=ih (fun x hx=>h x (ai _ hx)) ha;cases ep:p b with
    | true=>rw [h b (aj ..) ep];simpa using ih'
    | false =>
      cases q b
      ·simpa using ih'
      ·simp;lia
theorem zu {n:Nat} {lt:Nat->Nat->Bool} (w:Aj n lt) {i j:Nat} (hi:i<n) (hj:j<n):lt i j=decide (o7 n lt i<o7 n lt j):=by
 unfold o7;cases e:lt i j with
 | true =>
   symm;rw [cF]
   have irr:lt i i=false:=by
    cases h:lt i i with
    | false=>rfl
    | true=>exact (w.asy i i hi hi h).symm.trans h |>.symm▸rfl
   refine filter_lt (a:=i) (fun k hk q=>?_) (aL.mpr hi) irr e;rcases w.neg j i k hj hi (aL.mp hk) q with z | z
   ·exact z
   ·rw [w.asy i j hi hj e] at z;cases z
 | false =>
   symm;rw [dO,Nat.not_lt]
   refine filter_le fun k hk q=>?_;rcases w.neg i j k hi hj (aL.mp hk) q with z | z
   ·exact z
   ·rw [e] at z;cases z
theorem tD {n:Nat} (h2:2<=n) (h4:n<=4) {lt:Nat->Nat->Bool} (w:Aj n lt):kasOk n lt (fun p:Array Nat=>p.toList == gI lt (List.range n)) (kas_sort n)=true:=by
 let r:=(List.range n).map (o7 n lt)
 have hr:r ∈ ranks n:=pC (by show ((List.range n).map _).length=n;rw [az,List.length_range]) fun x hx=>by
  refine o1_3 (aE.mp hx) fun i hi rf2=>?_;subst rf2;have hi:=aL.mp hi;have irr:lt i i=false:=by
   cases h:lt i i with
   | false=>rfl
   | true=>exact (w.asy i i hi hi h).symm.trans h |>.symm▸rfl
  have h1:=filter_lt (l:=List.range n) (p:=fun k=>lt k i) (q:=fun _=>true) (fun _ _ _=>rfl) (aL.mpr hi) irr rfl;have h3:((List.range n).filter fun _=>true).length=n:=by rw [List.filter_eq_self.mpr fun _ _=>rfl,List.length_range]
  show ((List.range n).filter fun k=>lt k i).length<4;lia
 have hlt:∀ i j,i<n->j<n->AN r i j=lt i j:=fun i j hi hj=>by
  unfold AN;have e:∀ i,i<n->r.getD i 0=o7 n lt i:=fun i hi=>by
   rw [bA,aQ,cR hi];rfl
  rw [e i hi,e j hj,zu w hi hj]
 have hst:gI (AN r) (List.range n)=gI lt (List.range n):=j9 fun a ha b hb=>hlt a b (aL.mp ha) (aL.mp hb);have key:oW n r=true:=by
  have:n=2\/n=3\/n=4:=by lia
  rcases this with rfl | rfl | rfl
  ·exact dI.mp Cb r hr
  ·exact dI.mp B9 r hr
  ·exact dI.mp B8 r hr
 unfold oW at key;rw [hst] at key;exact lX hlt _ key
theorem uG {α:Type} {l:List α} {d:α} {lt:Nat->Nat->Bool} {ltE:α->α->Bool} (h:∀ i j,i<l.length->j<l.length->ltE (l.getD i d) (l.getD j d)=lt i j):(gI lt (List.range l.length)).map (l.getD · d)=gI ltE l:=by
 have e:(List.range l.length).map (fun i=>l.getD i d)=l:=by
  apply List.ext_getElem?;intro i;rw [aQ];by_cases hi:i<l.length
  ·rw [cR hi,aX hi];simp [bA,aX hi]
  ·rw [cX (by simp;lia),cX (by lia)];rfl
 conv=>rhs;rw [<- e]
 rw [rH (fun i=>l.getD i d) ltE];rw [j9 (lt:=fun a b=>ltE (l.getD a d) (l.getD b d)) (lt':=lt) fun a ha b hb=>h a b (aL.mp ha) (aL.mp hb)]
end Mine
end
section
open PySem PySem.W PySem.Calls PyProof.Rows Builtin Builtin.ObjectAttr Builtin.Getset_descriptor
set_option tactic.hygienic false
namespace Mine
section
variable {C:Cx} (ok:C.Ok) {n:Nat} {env:Env} {S:St}
theorem PE.BL {x y:Expr} {pos:Pos} {a b:Bool} (hx:PE C n env S x (.bool a)) (hy:a=true->PE C n env S y (.bool b)):PE C n env S (.BoolOp .And [x,y] pos) (.bool (a && b)):=fun A Y dZ D s Q ha R q =>
 BoolOp_and (G.at hx ha R fun v ee d9 eE fy=>by
  refine VR.kB fy ?_;refine wpAny_truthy_bool ?_;cases a with
  | false=>exact q _ _ _ _ ⟨rfl,rfl⟩ d9 eE (.bool _)
  | true=>exact BoolOp_one (hy rfl A Y dZ D ee Q ha d9 fun r d8 b' eG fh eB eN fz=>q r d8 b' eG ⟨by rw [fh.1];simp,fh.2⟩ eB (eE.trans eN) fz))
theorem PE.Dj {x y:Expr} {pos:Pos} {a b:Bool} (hx:PE C n env S x (.bool a)) (hy:a=false->PE C n env S y (.bool b)):PE C n env S (.BoolOp .Or [x,y] pos) (.bool (a || b)):=fun A Y dZ D s Q ha R q =>
 BoolOp_or (G.at hx ha R fun v ee d9 eE fy=>by
  refine VR.kB fy ?_;refine wpAny_truthy_bool ?_;cases a with
  | true=>exact q _ _ _ _ ⟨rfl,rfl⟩ d9 eE (.bool _)
  | false=>exact BoolOp_one (hy rfl A Y dZ D ee Q ha d9 fun r d8 b' eG fh eB eN fz=>q r d8 b' eG ⟨by rw [fh.1];simp,fh.2⟩ eB (eE.trans eN) fz))
theorem PE.Dk {x:Expr} {pos:Pos} {a:AV} {t:Bool} (hx:PE C n env S x a) (ht:T1 C n env S a t):PE C n env S (.UnaryOp .Not x pos) (.bool (!t)):=fun A Y dZ D s Q ha R q =>
 wpAny_UnaryOp (G.at hx ha R fun v ee d9 eE fy=>by
  refine not_of (ht A Y dZ D ee v _ ha d9 fy fun c d8 b eG fh eB eN e=>?_);refine o0_2 fh fun rf0 rf1=>?_;clear fh;subst rf0;subst rf1;obtain rfl:c=b:=e;exact q _ _ _ _ ⟨rfl,rfl⟩ eB (eE.trans eN) (.bool _))
include ok
theorem PE.isspace {o:Expr} {apos pos:Pos} {x:Str} (ho:PE C n env S o (.str x))
  (hbase:attributeBase o "isspace" env (eval o env)=eval o env:=by rfl) (hline:(apos.endLine == pos.line)=true:=by rfl):PE C n env S (.Call (.Attribute o "isspace" apos) [] [] pos) (.bool (Txt.isspace x)) :=
 sm0 ok ho (fun _ _ _ _ q=>SB.isspace (q _ _ (.refl ..) fun _=>.bool ..)) hbase hline
theorem nV {A:Around} {s:Shared} {x c d:Addr} {ox:Obj} {name:Str} {hs0:Int} {tk0:Tok} {u:Value} {ep0:Nat} {v:Value} {Q:Unit->Shared->Prop} (K:C.K.In s.heap) (T:nK C.K c) (hx:s.heap.get? x=some ox) (hcl:ox.cls = .ref c) (hno:notCls ox=true) (hd:ox.dict=some d)
  (hn:s.heap.get? d=some ⟨.type "dict", none,.dict #[⟨hs0,.str name tk0,u⟩] ep0,#[]⟩) (ht:takerIn C.K c name=some none)
  (h:∀ h' hs t ep tk,h'.get? d=some ⟨.type "dict", none,.dict #[⟨hs,.str name t,v⟩] ep,#[]⟩->Heap.SameBut d s.heap h'->Q () { s with heap:=h',toks:=tk }):wpAny (model C.prog C.w) A (setAttr (.ref x) name v) Q No s:=by
 have I:InstAt s.heap x ox c (some ⟨.type "dict", none,.dict #[⟨hs0,.str name tk0,u⟩] ep0,#[]⟩):=⟨hx,hcl,hno,by rw [hd];exact hn⟩
 refine set_plain K I T.set (pn (s:={ s with toks:=s.toks+1 }) K I T ht fun b=>?_)
 refine o1_3 (any_some T.dict) fun cd hc hd'=>?_;obtain ⟨oc,odi,oda,osl⟩:=ox;dsimp only at hcl hd;subst hcl hd;refine ah (ak (ah (ah (cQ hx (ah ((looks_clsIn (show C.K.In ({ s with toks:=s.toks+1 }:Shared).heap from K) hc).here ?_))))))
 rw [hd'];refine ak (a:=some d) (ah (ak (ah ?_)));unfold nsSet;refine ah (ah (wpAny_askSetting (ak (ah (wpAny_mkText (ah (cQ hn ?_)))))));dsimp only;have eS:(Value.str name tk0).isStr name=true:=by simp [Value.isStr]
 have eA:aRefKeyMayBeTheName name #[⟨hs0,.str name tk0,u⟩]=false:=by rw [aRefKeyMayBeTheName_at];simp [eS]
 rw [eA];refine wpAny_updatePart hn ?_;have eP:∀ H Kk,Obj.putName name H Kk v ⟨.type "dict", none,.dict #[⟨hs0,.str name tk0,u⟩] ep0,#[]⟩=⟨.type "dict", none,.dict #[⟨hs0,.str name tk0,v⟩] ep0,#[]⟩:=fun H Kk=>by
  have e1:(#[(⟨hs0,.str name tk0,u⟩:DictEntry)]).findIdx? (fun e=>e.key.isStr name)=some 0:=by simp [eS]
  simp only [Obj.putName_eq,Obj.putNameByArray,e1]
  rfl
 have D':=fun H Kk=>cW (h:=s.heap) (a:=d) (Obj.putName name H Kk v) hn (by rw [eP];rfl)
 refine ah (wpAny_lookBehind (D' _ _) (by rw [eP];exact pastItsLine_dict (by show 1<=sizeLine+1;unfold sizeLine;lia)) ?_)
 refine ak ?_;exact h _ _ _ _ _ (by rw [<- eP];exact D' _ _) (b9 ..)
theorem rm {i:Nat} {a c d:Addr} {sq:Option (List (Str×Str))} {o value:Expr} {attr:Str} {pos' pos:Pos} {av av0:AV} {P:AF->St->Prop} (T:nK C.K c) (ht:takerIn C.K c attr=some none)
  (hM:S.M[i]? = some (a,.obj c d (some (attr,av0)) sq)) (hv:PE C n env S value av) (ho:PE C n env S o (.raw (.ref a))) (h:P .next ⟨S.μ,S.M.set i (a,.obj c d (some (attr,av)) sq)⟩)
  (hs:swapsWith value (some (.Attribute o attr pos')) pos.line env=pure false:=by rfl):E1 C n env S (.Assign [.Attribute o attr pos'] value pos) P :=
 fun A Y dZ D s Q ha R q=>plainObj_wpAny_Assign_Attribute (hs:=hs) (G.at hv ha R fun v ee d9 eE fy=>by
  refine G.at ho ha d9 fun ov d8 eB eN fz=>?_;refine VR.fM fz ?_;refine o0_2 (eB.ob _ (eu hM)) fun z1 zz=>?_;refine o4_6 zz fun hs0 tk0 ep0 u0 hdict _=>?_;refine o2_4 z1 fun vs k e hsq=>?_;clear z1;have hdX:d ∈ fa env++fj S.M:=aa _ (eU (eu hM) (by simp [foot,AO.more]))
  have hda:d≠a:=by
   have nd:=(aJ.mp eB.nd).2.1;intro q;have hf:(foot (a,AO.obj c d (some (attr,av0)) sq)).Nodup:=by
    unfold fj at nd;exact fV nd (eu hM)
   simp [foot,AO.more] at hf;exact hf q.symm
  refine nV ok eB.bs.K T e rfl (by cases sq <;> rfl) rfl hdict ht fun h' hs t ep tk hd' hb=>?_
  have hT:d ∉ C.T:=eB.tn (by rw [<- aH];exact af _ hdX)
  have st:fC C.T [d] d8 { d8 with heap:=h',toks:=tk }:=⟨.sameBut hb hT,rfl,rfl,id⟩
  have rv:VR h' (Xo C Y env S) v av:=(eN _ _ fy).stp st.heap (eB.inX hdX) eB.hT;refine o0_2 (eB.kJ ok (s':={ d8 with heap:=h',toks:=tk }) (o':=.obj c d (some (attr,av)) sq) hM rfl (by simp [foot,AO.more]:d ∈ foot (a,AO.obj c d (some (attr,av0)) sq)) st ⟨_,hd'⟩
   ⟨⟨vs,k,(hb.2 a hda.symm).trans e,fun l el=>VRs.stp st.heap (eB.inX hdX) eB.hT (hsq l el)⟩,hs,t,ep,v,hd',rv⟩) fun eV fG=>?_
  exact q _ _ _ _ h eV ((eE.trans eN).trans fG) .next)
theorem ue {o value:Expr} {j:Nat} {p c d:Addr} {kv:Option (Str×AV)} {l l':List (Str×Str)} {ps pos' pos:Pos} {P:AF->St->Prop} (L:uc C.K c) (hM:S.M[j]? = some (p,AO.obj c d kv (some l))) (hv:PE C n env S value (.lst (l'.map gu))) (ho:PE C n env S o (.raw (.ref p))) (hz:l.length<=1000) (hz':l'.length<=1000)
  (h:P .next ⟨S.μ,S.M.set j (p,AO.obj c d kv (some l'))⟩)
  (hs:swapsWith value (some (.Subscript o (.Slice none none none ps) pos')) pos.line env=pure false:=by rfl) :
  E1 C n env S (.Assign [.Subscript o (.Slice none none none ps) pos'] value pos) P:=fun A Y dZ D s Q ha R q=>by
 refine wpAny_Assign_Subscript (hs:=hs) (G.at hv ha R fun v AG gn Am zo=>?_);refine G.at ho ha gn fun v ee d9 eE fy=>?_;refine VR.fM fy ?_;refine dU ?_;rw [c7];refine ak (ak (ak ?_));have xs:=fC.alloc C.T ee { cls:=.type "slice", data:=.fields #[.none,.none,.none] }
 have eV:=d9.go ok xs;have r3:=(eE _ _ zo).go xs d9.hT;refine o3_6 (lZ (eV.ob _ (eu hM))) fun vs kk od e I rs=>?_;have hlen:vs.length=l.length:=by rw [rs.length,az]
 refine VR.iL r3 fun y ws m ey ny ry=>?_;have hlen':ws.length=l'.length:=by rw [ry.length,az]
 have hb:sliceBounds none none none vs.toArray.size=(0,(vs.length:Int),1):=by
  simp only [sliceBounds,Option.getD_none,aK];simp
 have hxy:p≠y:=fun e=>ny (fJ.mpr (.inr (.inl (aa _ (eU (eu hM) (e▸aj ..))))));refine jh eV.bs.K L I rfl (dR ..) .none .none .none ey rfl rfl hxy (by simp;lia) ?_
 rw [hb];refine o0_2 (Rel.rJ ok eV hM e (fun xs=>xs.extract 0 (0:Int).toNat++ws.toArray++xs.extract (max (0:Int) (vs.length:Int)).toNat xs.size) (ws:=ws) (l':=l')
  (by
   have hm:(max (0:Int) (vs.length:Int)).toNat=vs.length:=by lia
   rw [hm];apply Array.toList_inj.mp;simp) ry) fun gm gK=>?_
 exact q _ _ _ _ h gm ((Am.trans eE).trans ((Kp.go d9 xs).trans gK)) .next
end
end Mine
end
section
open PySem PySem.W PySem.Calls PyProof.Rows
set_option tactic.hygienic false
namespace Mine
noncomputable def wO:AV->Prop
 | .none | .bool _ | .int _ | .str _=>True
 | _=>False
theorem VR.flat {h h':Heap} {X X':List Addr} {v:Value} {a:AV} (r:VR h X v a) (f:wO a):VR h' X' v a:=by
 cases a with
 | none=>exact VR.mu r .none
 | bool b=>exact VR.kB r (.bool b)
 | int i=>exact VR.ff r fun t=>.int i t
 | str x=>exact VR.fO r fun t=>.str x t
 | _=>exact f.elim
theorem PRs.flat {K:Type} {h h':Heap} {X X':List Addr} {kvs:List (K×Value)} {l:List (K×AV)} (r:PRs h X kvs l):(∀ p ∈ l,wO p.2)->PRs h' X' kvs l :=
 @PRs.rec K h X (fun vs l _=>(∀ p ∈ l,wO p.2)->PRs h' X' vs l) (fun _=>.nil) (fun p _ q f=>.cons (p.flat (f _ (aj ..))) (q fun x hx=>f x (ai _ hx))) kvs l r
theorem sX {h:Heap} {X:List Addr}:∀ {vs:List Value} {l:List AV},vs.length=l.length->(∀ (j:Nat) v,vs[j]? = some v->∃ a,l[j]? = some a/\VR h X v a)->VRs h X vs l:=fun {vs l}=>by
 induction l generalizing vs with
 | nil=>exact fun h _=>by cases len_nil h;exact .nil
 | cons a l ih =>
   exact fun h q=>by
    refine o2_4 (len_cons h) fun v vs rf2 e=>?_;subst rf2;refine o1_3 (q 0 v rfl) fun a' e' r=>?_;cases e';exact .cons r (ih e fun j v e=>q (j+1) v e)
theorem PRs.valAt {K:Type} {h:Heap} {X:List Addr} {kvs:List (K×Value)} {l:List (K×AV)} (r:PRs h X kvs l):∀ (i:Nat) (x:K) (y:Value),kvs[i]? = some (x,y)->∃ a,l[i]? = some (x,a)/\VR h X y a :=
 @PRs.rec K h X (fun kvs l _=>∀ (i:Nat) (x:K) (y:Value),kvs[i]? = some (x,y)->∃ a,l[i]? = some (x,a)/\VR h X y a) (fun _ _ _ e=>nomatch e) (fun p _ q i x y e=>by
  cases i with
  | zero=>cases e;exact ⟨_,rfl,p⟩
  | succ i=>exact q i x y e) kvs l r
noncomputable def DOb (C:Cx) {K:Type} [DecidableEq K] (k:DK C K) (o:Obj) (l:List (K×AV)):Prop:=∃ kvs,(∀ (h:Heap) a,h.get? a=some o->h.DictOf k.knd a kvs)/\∀ h X,PRs h X kvs l
section
variable {C:Cx} {Y D:List Addr} {dZ s:Shared} {env:Env} {μ:List (Str×AV)} {M M':List (Addr×AO)} {n:Nat} {S:St}
theorem Rel.AQ {x:Str} {v0:Value} {av0:AV} (R:Rel C Y dZ D env ⟨μ,M⟩ s) (hx:μ.lookup x=some (.raw v0)) (r0:VR s.heap (Mine.Xo C Y env ⟨μ,M⟩) v0 av0):Rel C Y dZ D env ⟨ins x av0 μ,M⟩ s:=by
 refine ⟨R.bs,R.ev,⟨?_,fun y av ey k=>?_,R.fr.cells,fun y av ey=>?_⟩,R.free,R.ob,R.nd,R.dis,R.hi,R.st,R.own,R.z⟩
 ·refine o1_3 R.fr.loc fun m hn z=>?_;refine ⟨m,hn,fun y av ey k=>?_⟩;rw [show (St.mk (ins x av0 μ) M).μ=ins x av0 μ from rfl,fq] at ey;by_cases h:y=x
  ·subst h;rw [ay rfl] at ey;cases ey;refine o1_3 (z y _ hx k) fun v e1 r=>?_;refine VR.gX r fun e0=>?_;subst e0;exact ⟨_,e1,r0⟩
  ·rw [aq h] at ey;exact z y av ey k
 ·rw [show (St.mk (ins x av0 μ) M).μ=ins x av0 μ from rfl,fq] at ey;by_cases h:y=x
  ·subst h;rw [ay rfl] at ey;cases ey;refine o2_5 (R.fr.cel y _ hx k) fun c v e1 e2 r=>?_;refine VR.gX r fun e0=>?_;subst e0;exact ⟨_,_,e1,e2,r0⟩
  ·rw [aq h] at ey;exact R.fr.cel y av ey k
 ·rw [show (St.mk (ins x av0 μ) M).μ=ins x av0 μ from rfl,fq] at ey;by_cases h:y=x
  ·subst h;exact R.fr.kind y _ hx
  ·rw [aq h] at ey;exact R.fr.kind y av ey
theorem Rel.front {p:Addr×AO} (R:Rel C Y dZ D env ⟨μ,p::M⟩ s):p.1 ∉ Mine.Xo C Y env ⟨μ,M⟩:=fun q=>by
 have hnd:p.1 ∉ fa env++fj M:=fun q=>by
  have nd:=R.nd;have e1:fj (p::M)=p.1::(p.2.more++fj M):=rfl;rw [e1] at nd;have:=List.perm_middle.nodup_iff.mp nd;refine (bV.mp this).1 ?_;rcases au.mp q with q | q
  ·exact af _ q
  ·exact aa _ (aa _ q)
 rw [fJ] at q;have hi:=R.hi p.1 (aa _ (af _ (aj ..)));rcases q with q | q | q
 ·exact hi.2.1 q
 ·exact hnd q
 ·exact R.dis _ q (aa _ (aj ..))
theorem Rel.Bt {K:Type} [DecidableEq K] (k:DK C K) (hsm:C.Old sysModules) {a:Addr} {l:List (K×AV)} (R:Rel C Y dZ D env ⟨μ,(a,k.ob l)::M⟩ s) (hf:∀ p ∈ l,wO p.2):∃ o,DOb C k o l/\VR s.heap (Mine.Xo C Y env ⟨μ,M⟩) (.ref a) (.ob o []):=by
 refine o1_3 (k.to (R.ob _ (aj ..))) fun kvs z1 rs=>?_;refine o3_9 z1 fun o es ep e r1 r2 r3 r4 r5=>?_;clear z1;exact ⟨o,⟨kvs,fun h a e=>⟨o,es,ep,e,r1,r2,r3,r4,r5⟩,fun h X=>rs.flat hf⟩,.ob e R.front (BB k hsm R (aj ..)) fun p hp=>nomatch hp⟩
theorem rG {p:Addr×AO}:e7 M (p::M):=.of (R:=[p]) aZ
theorem G.vO {α β:Type} {RR:Heap->List Addr->α->β->Prop} {m:Sem α} {P:β->St->Prop} {K:Type} [DecidableEq K] (k:DK C K) (hsm:C.Old sysModules) {x:Str} {a:Addr} {l:List (K×AV)} (hx:μ.lookup x=some (.raw (.ref a))) (h:e7 ((a,k.ob l)::M') M) (hf:∀ p ∈ l,wO p.2)
  (q:∀ o,DOb C k o l->G C n env RR ⟨ins x (.ob o []) μ,M'⟩ m P):G C n env RR ⟨μ,M⟩ m P:=fun A Y dZ D s Q ha R qq=>by
 refine o1_3 ((R.jb h).Bt k hsm hf) fun o d r=>?_;have R2:=((R.jb h).jb rG).AQ hx r;exact q o d A Y dZ D s Q ha R2 fun r' s' b S' p R' K' rr=>qq r' s' b S' p R' (fun v av z=>K' v av (rG.vr (μ:=μ) (h.vr (μ':=μ) z))) rr
variable (ok:C.Ok) {K:Type} [DecidableEq K] (k:DK C K)
theorem O.nZ {value slice:Expr} {o:Obj} {l:List (K×AV)} {x:K} {c:AV} (d:DOb C k o l) (hk:ie l x=some c)
  (hs:∀ t u,k.knd.is x u=true->subscripted slice false (.ref t) u=operate [.ref t,u] (getItem (.ref t) u)) (ok:C.Ok):P2 C n env S (subscriptTail value slice) (.ob o []) (k.av x) c:=.of ok fun A X s v v' Q ha B r r' _ _ q=>by
 refine VR.tT r fun a e nx _ _=>?_;refine o1_3 d fun kvs d1 d2=>?_;clear d;have hd:=d1 _ _ e;refine o1_3 ((d2 s.heap X).at hk) fun w hw rw1=>?_;exact tail_any hd.typeIs F.slot_dict_getitem.lookup (wpAny_getItem_of (k.is r') hd.mapOf hw (q _ _ (.toks ..) rw1)) (hs _ _ (k.is r'))
include ok
theorem O.vg {o:Obj} {l:List (K×AV)} (d:DOb C k o l) (hz:l.length<=1000) (kav:∀ {h X v x},k.knd.is x v=true->VR h X v (k.av x)) {P:AV->St->Prop} (h:∀ a,P (.raw (.ref a)) ⟨S.μ,(a,.list (l.map fun p=>k.av p.1))::S.M⟩) :
  V1 C n env S (fun v=>call (.type "list") [v]) (.ob o []) P:=fun A Y dZ D s v Q ha R r q=>by
 refine VR.tT r fun a e nx lo _=>?_;refine o1_3 d fun kvs d1 d2=>?_;clear d;have hlen:kvs.length=l.length:=(d2 s.heap []).length;refine o1_2 ((d1 _ _ e).dictAt) fun ep hat=>?_;refine kdl_call (kdl_dict (knd:=k.knd) lo) ha.handled hat (by rw [hlen];unfold sizeLine;lia) fun h' tk acc' c' hk hnew hitems=>?_
 have st:fC C.T [] s { s with heap:=h',toks:=tk }:=⟨.of_keeps hk,rfl,rfl,id⟩
 refine o0_2 (R.newObj ok (a:=s.heap.objs.size) (s':={ s with heap:=h',toks:=tk }) (o:=.list (l.map fun p=>k.av p.1)) (fun b hb=>by
  have e:b=s.heap.objs.size:=by simpa [foot,AO.more] using hb
  subst e;exact ⟨eH _,_,hnew⟩) (by simp [foot,AO.more]) st ⟨acc'.toList,c',by simpa using hnew,sX (by rw [bG,hitems.1,az,hlen]) fun j v hv=>by
   refine o2_4 (hitems.2 j v (by simpa using hv)) fun x y hx hv=>?_
   refine o1_3 (PRs.valAt (d2 s.heap []) j x y hx) fun b hb _=>?_;exact ⟨k.av x,by rw [aQ,hb];rfl,kav hv⟩⟩) fun R' K'=>?_
 have sub:e7 ((s.heap.objs.size,AO.list (l.map fun p=>k.av p.1))::S.M) (S.M++[(s.heap.objs.size,AO.list (l.map fun p=>k.av p.1))]):=.of (R:=[]) (by rw [bf];exact aZ (l₁:=[_]))
 exact q _ _ _ _ (h _) (R'.jb sub) (fun v av z=>sub.vr (K' v av z)) (.raw _)
theorem Iter.A5 {o:Obj} {l:List (K×AV)} (d:DOb C k o l) (kav:∀ {h X v x},k.knd.is x v=true->VR h X v (k.av x)):Iter C n env S (.ob o []) (l.map fun p=>k.av p.1):=fun A Y dZ D s v Q ha R r q=>by
 refine VR.tT r fun a e nx lo _=>?_;refine o1_3 d fun kvs d1 d2=>?_;clear d;have hlen:kvs.length=l.length:=(d2 s.heap []).length;refine o1_2 ((d1 _ _ e).dictAt) fun ep hat=>?_;have hne:a≠s.heap.objs.size:=cz (bH e);have W:=Walks.dictKeys (prog:=C.prog) (w:=C.w) (knd:=k.knd) ha.handled s.heap.objs.size a hne kvs ep;rw [hlen,<- az (as:=l) (f:=fun p=>k.av p.1)] at W;refine wpAny_pyIter_dict lo hat (q _ _ _ _ _ _ (.alloc ..) W ⟨⟨_,aI _ rfl,rfl,by rw [az,hlen];rfl⟩,hat.push _⟩ (fun b hb=>?_) (fun b hb=>?_) (fun i h st b hb=>?_) (fun i v hv=>?_) fun elts kk pos i s' v Q' st hq=>?_)
 ·have hb:b=s.heap.objs.size\/b=a:=by simpa using hb
  rcases hb with rfl | rfl
  ·exact ⟨fun q=>(R.hi _ (by rw [<- aH];exact af _ q)).2.2.ne (eH _) rfl,fun q=>(R.bs.iG q).ne (eH _) rfl,_,aI _ rfl⟩
  ·exact ⟨fun q=>nx (fJ.mpr (.inr (.inl q))),fun q=>nx (fJ.mpr (.inl q)),_,aA _ e⟩
 ·have hb:b=s.heap.objs.size:=by simpa using hb
  rw [hb];exact eH _
 ·have hb:b=s.heap.objs.size:=by simpa using hb
  refine o0_2 st fun z2 _=>?_;clear st;refine o1_3 z2 fun o' e' _=>?_;clear z2;rw [hb];exact ⟨o',e'⟩
 ·refine o2_4 hv fun x y hx hv=>?_;refine o1_3 (PRs.valAt (d2 s.heap []) i x y hx) fun b hb _=>?_;exact ⟨k.av x,by rw [aQ,hb];rfl,kav hv⟩
 ·refine o0_2 st fun z3 _=>?_;clear st;refine o1_4 z3 fun o' e' c' d'=>?_;clear z3;exact jL ok e' c' d' (by decide) hq
noncomputable def oN (a:Addr):Obj:={ cls:=.type "dict_values", data:=.fields #[.ref a] }
theorem Iter.A4 {o:Obj} {a:Addr} {l:List (K×AV)} (d:DOb C k o l):Iter C n env S (.ob (oN a) [(a,o)]) (l.map (·.2)):=fun A Y dZ D s v Q ha R r q=>by
 refine VR.tT r fun vw e nx lo hmo=>?_;refine o0_2 (hmo (a,o) (aj ..)) fun ea na=>?_;refine o1_3 d fun kvs d1 d2=>?_;clear d;have hlen:kvs.length=l.length:=(d2 s.heap []).length;refine o1_2 ((d1 _ _ ea).dictAt) fun ep hat=>?_;have hne:a≠s.heap.objs.size:=cz (bH ea);have W:=Walks.dictValues (prog:=C.prog) (w:=C.w) (knd:=k.knd) ha.handled s.heap.objs.size a hne kvs ep;rw [hlen,<- az (as:=l) (f:=(·.2))] at W;have hv:s.heap.IsValuesView vw a:=⟨_,e,rfl,rfl⟩;refine wpAny_pyIter_values hv hat (q _ _ _ _ _ _ (.alloc ..) W ⟨⟨_,aI _ rfl,rfl,by rw [az,hlen];rfl⟩,hat.push _⟩ (fun b hb=>?_) (fun b hb=>?_) (fun i h st b hb=>?_) (fun i v hv=>?_) fun elts kk pos i s' v Q' st hq=>?_)
 ·have hb:b=s.heap.objs.size\/b=a:=by simpa using hb
  rcases hb with rfl | rfl
  ·exact ⟨fun q=>(R.hi _ (by rw [<- aH];exact af _ q)).2.2.ne (eH _) rfl,fun q=>(R.bs.iG q).ne (eH _) rfl,_,aI _ rfl⟩
  ·exact ⟨fun q=>na (fJ.mpr (.inr (.inl q))),fun q=>na (fJ.mpr (.inl q)),_,aA _ ea⟩
 ·have hb:b=s.heap.objs.size:=by simpa using hb
  rw [hb];exact eH _
 ·have hb:b=s.heap.objs.size:=by simpa using hb
  refine o0_2 st fun z4 _=>?_;clear st;refine o1_3 z4 fun o' e' _=>?_;clear z4;rw [hb];exact ⟨o',e'⟩
 ·refine o1_2 hv fun x hx=>?_;clear hv;refine o1_3 (PRs.valAt (d2 (s.heap.push { cls:=.type "dict_valueiterator", data:=.fields #[.ref a,.int 0 0,.int kvs.length 0,.int ep 0] }) (Xo C ([s.heap.objs.size]++Y) env S)) i x v hx) fun b hb rb=>?_
  exact ⟨b,by rw [aQ,hb];rfl,rb⟩
 ·refine o0_2 st fun z5 _=>?_;clear st;refine o1_4 z5 fun o' e' c' d'=>?_;clear z5;exact jL ok e' c' d' (by decide) hq
omit ok in
theorem EV.yS {T id:String} {o:Expr} {name:Str} {apos pos:Pos} {P:AV->St->Prop} (slot:Slot T name id) (pa:PlainAttrs T) (ty:typeOf (.builtin id)=pure (.type "method_descriptor"))
  (h:EV C n env S o fun a d7=>(∀ (Y D:List Addr) dZ s v,Rel C Y dZ D env d7 s->VR s.heap (Xo C Y env d7) v a->∃ p ob,v = .ref p/\s.heap.get? p=some ob/\ob.cls = .type T/\ob.dict=none)/\V1 C n env d7 (fun v=>call (.builtin id) [v]) a P)
  (hbase:attributeBase o name env (eval o env)=eval o env:=by rfl)
  (hline:(apos.endLine == pos.line)=true:=by rfl) :
  EV C n env S (.Call (.Attribute o name apos) [] [] pos) P :=
 fun A Y dZ D s Q ha R q=>dN hbase rfl hline (h A Y dZ D s _ ha R fun v ee a d7 p d9 eE rv=>by
  refine o0_2 p fun hob hV=>?_;clear p;refine o2_6 (hob _ _ _ _ _ d9 rv) fun p ob rf2 e1 e2 e3=>?_;subst rf2;refine ⟨T,id,pa,slot,ty,⟨ob,e1,e2⟩,(fun a ea=>by cases ea;exact ⟨ob,e1,e3⟩),?_⟩
  refine cC rfl (evalArgs_nil3 ?_);exact hV A Y dZ D ee (.ref p) Q ha d9 rv fun r ez b fk fF eV fG f7=>q r ez b fk fF eV (eE.trans fG) f7)
theorem EV.values (hsm:C.Old sysModules) {o:Expr} {apos pos:Pos} {ob:Obj} {l:List (K×AV)} {P:AV->St->Prop} (d:DOb C k ob l) (ho:PE C n env S o (.ob ob [])) (h:∀ a,P (.ob (oN a) [(a,ob)]) S)
  (hbase:attributeBase o "values" env (eval o env)=eval o env:=by rfl) (hline:(apos.endLine == pos.line)=true:=by rfl):EV C n env S (.Call (.Attribute o "values" apos) [] [] pos) P:=by
 refine EV.yS PySem.F.slot_dict_values PySem.F.plainAttrs_dict PySem.F.type_dict_values (PE.then ho ⟨fun Y D dZ s v R r=>?_,fun A Y dZ D s v Q ha R r q=>?_⟩) hbase hline
 ·refine VR.tT r fun a e nx lo _=>?_;refine o1_3 d fun kvs d1 d2=>?_;clear d;refine o3_6 (d1 _ _ e) fun o' es ep e' z6 _=>?_;refine o0_3 z6 fun c1 c2 c3=>?_;clear z6;rw [e] at e';cases e';exact ⟨a,_,rfl,e,c1,c2⟩
 ·refine VR.tT r fun a e nx lo _=>?_;refine o1_3 d fun kvs d1 d2=>?_;clear d;have hD:=d1 _ _ e;refine call_meetsIn PySem.F.slot_dict_values hD.typeIs PySem.F.entry_dict_values (PySem.F.args_dict_values_1 _) (meets_dict_values k.knd a lo) ⟨⟨kvs,hD⟩,?_⟩;have xs:=fC.alloc C.T s (oN a);have ev:(s.heap.push (oN a)).get? s.heap.objs.size=some (oN a):=aI _ rfl;refine q _ _ _ _ (h a) (R.go ok xs) (Kp.go R xs) (.ob ev (fun q=>?_) ?_ fun p hp=>?_)
  ·rcases fJ.mp q with z | z | z
   ·exact (R.bs.iG z).ne (eH _) rfl
   ·exact (R.hi _ (by rw [<- aH];exact af _ z)).2.2.ne (eH _) rfl
   ·exact (R.hi _ (aa _ (aa _ z))).2.2.ne (eH _) rfl
  ·exact aY.mpr ((R.bs.live hsm).ne (eH _)).symm
  ·rw [ao.mp hp];exact ⟨aA _ e,nx⟩
theorem O.Co {i:Nat} {p:Addr} {l:List AV} {c:AV} {P:AV->St->Prop} (hM:S.M[i]? = some (p,.list (l++[c]))) (hz:l.length<1000) (h:P c ⟨S.μ,S.M.set i (p,.list l)⟩) :
  V1 C n env S (fun v=>call (.builtin "list.pop") [v]) (.raw (.ref p)) P:=fun A Y dZ D s v Q ha R r q=>by
 refine VR.fM r ?_;refine o2_4 (R.ob _ (eu hM)) fun vs kk e rl=>?_;have hT:p ∉ C.T:=R.tn (aa _ (af _ (eU (eu hM) (aj ..))));have hlen:vs.length=l.length+1:=by rw [rl.length];simp
 refine o2_3 (⟨vs.dropLast,vs.getLast (by intro h;simp [h] at hlen),(List.dropLast_concat_getLast _).symm⟩:∃ ws v,vs=ws++[v]) fun ws b rf2=>?_
 subst rf2;have hw:ws.length=l.length:=by simpa using hlen
 have rw1:VRs s.heap (Xo C Y env S) ws l:=by
  have:=VRs.take l.length rl;simpa [<- hw,List.take_append] using this
 refine o1_3 (rl.get (show (l++[c])[l.length]? = some c by simp)) fun b' hb rb=>?_
 have hbv:b'=b:=by
  rw [<- hw] at hb;simpa using hb.symm
 subst hbv;have hf:(ws++[b']).toArray.eraseIdxIfInBounds l.length=ws.toArray:=by simp [Array.eraseIdxIfInBounds,<- hw,List.eraseIdx_append_of_length_le]
 refine o1_2 (jO (show IsL s.heap p (ws++[b']).toArray kk from e) (fun xs:Array Value=>xs.eraseIdxIfInBounds l.length) _ hf) fun kk' e'=>?_;refine o0_2 (Rel.ki ok R (s':={ s with heap:=s.heap.update p (Obj.mapSeq fun xs:Array Value=>xs.eraseIdxIfInBounds l.length),toks:=s.toks }) hM e' (jG ok hT) (l':=l) rw1) fun R' K'=>?_
 have fin:=q _ _ _ _ h R' K' (K' _ _ rb);have hTy:s.TypeIs (.ref p) "list" := ⟨_,e,rfl⟩
 refine dF (codeAny_call_builtin PySem.F.slot_list_pop.plain PySem.F.entry_list_pop (PySem.F.slot_list_pop.check _ _ _ _ _ _ _ _ hTy (PySem.F.args_list_pop_1 _) ?_));show wpAny _ _ (do let xs <- Builtin.List.listItems (.ref p);if xs.isEmpty then _ else _) _ _ _
 refine ah (wpAny_listItems e rfl ?_);rw [aq (by simp)]
 have hs:((seqIndex? (-1) (ws++[b']).toArray.size).bind fun k=>(ws++[b']).toArray[k]?.map (k,·))=some (l.length,b'):=by
  have:seqIndex? (-1) (ws++[b']).toArray.size=some l.length:=by unfold seqIndex?;simp [hw];lia
  rw [this];simp [<- hw]
 dsimp only;rw [hs];dsimp only;refine ah (wpAny_updateSeq e rfl (hz:=by simp [sizeLine];lia) (_hz':=by rw [hf];simp [sizeLine];lia) (ak fin))
theorem EV.C1 {o:Expr} {apos pos:Pos} {i:Nat} {p:Addr} {l:List AV} {c:AV} {P:AV->St->Prop} (ho:PE C n env S o (.raw (.ref p))) (hM:S.M[i]? = some (p,.list (l++[c]))) (hz:l.length<1000) (h:P c ⟨S.μ,S.M.set i (p,.list l)⟩)
  (hbase:attributeBase o "pop" env (eval o env)=eval o env:=by rfl) (hline:(apos.endLine == pos.line)=true:=by rfl):EV C n env S (.Call (.Attribute o "pop" apos) [] [] pos) P:=by
 refine EV.yS PySem.F.slot_list_pop PySem.F.plainAttrs_list PySem.F.type_list_pop (PE.then ho ⟨fun Y D dZ s v R r=>?_,O.Co ok hM hz h⟩) hbase hline
 refine VR.fM r ?_;refine o2_4 (R.ob _ (eu hM)) fun vs kk e rl=>?_;exact ⟨p,_,rfl,e,rfl,rfl⟩
end
end Mine
end
section
open PySem PySem.W PySem.Calls PyProof.Rows
namespace Mine
section
variable {C:Cx} (ok:C.Ok) {n:Nat} {env:Env} {S:St}
include ok
theorem O.zH {ns:List Int} {v:Int} (hv:v ∈ ns) (hm:∀ x ∈ ns,v<=x):PN C n env S (fun vs=>call (.builtin "min") vs) [.lst (ns.map .int)] (.int v):=.of ok fun A X s vs Q ha _ r lt _ q=>by
 refine VRs.eW r fun _ _ r rs=>?_
 ·
  refine VRs.fN rs ?_;refine VR.iL r fun _ _ _ e nx rs=>?_
  ·
   rename_i b ws kk;refine o1_3 (sY rs) fun ps rf1 e2=>?_;subst rf1;have hl:s.heap.IsList b (intItems ps.toArray):=by
    have:=e8 e;rw [show intItems ps.toArray=(ps.map fun p=>Value.int p.1 p.2).toArray by simp [intItems]];exact this
   have hne:0<ps.toArray.size:=by
    have:=List.length_pos_of_mem hv;rw [<- e2] at this;simpa using this
   refine min_intList ha.handled hl hne fun u h' tk hu hk=>?_;refine o1_2 (intItems_at hu) fun t rf1=>?_;subst rf1;refine o0_2 (argBest_lt (numAt ps.toArray) (ps.toArray.size - 1)) fun h1 h2=>?_;have g1:numAt ps.toArray (argBest (fun i j=>decide (numAt ps.toArray i<numAt ps.toArray j)) (ps.toArray.size - 1)) ∈ ns:=by
    rw [<- e2,numAt_eq];exact getD_mem (by have h3:ps.toArray.size=ps.length:=(by simp);rw [az];lia)
   have g2:∀ a ∈ ns,numAt ps.toArray (argBest (fun i j=>decide (numAt ps.toArray i<numAt ps.toArray j)) (ps.toArray.size - 1))<=a:=fun a ha=>by
    rw [<- e2] at ha;refine o1_3 (mem_getD ha) fun j hj rf2=>?_;subst rf2;rw [az] at hj;have h3:=h2 j (by simp;lia)
    have h4:numAt ps.toArray j=(ps.map (·.1)).getD j 0:=by rw [numAt_eq]
    lia
   have ev:numAt ps.toArray (argBest (fun i j=>decide (numAt ps.toArray i<numAt ps.toArray j)) (ps.toArray.size - 1))=v:=Int.le_antisymm (g2 v hv) (hm _ g1);rw [ev];exact q _ _ ⟨.of_keeps hk,rfl,rfl,id⟩ (.int ..)
end
end Mine
end
section
open PySem PySem.W PySem.Calls PyProof.Rows
set_option tactic.hygienic false
namespace Mine
section
variable {C:Cx} (ok:C.Ok) {n:Nat} {env:Env} {S:St}
include ok
end
end Mine
end
section
open PySem PySem.W PySem.Calls PyProof.Rows
namespace Mine
section
variable {C:Cx} (ok:C.Ok) {n:Nat} {env:Env} {S:St}
include ok
end
end Mine
end
section
open PySem PySem.W PySem.Calls PyProof.Rows
set_option tactic.hygienic false
namespace Mine
section
variable {prog:Program} {w:World} {A:Around} {E:Value->Shared->Prop} {s:Shared}
variable {x:Str} {t:Tok} {l:Addr} {ys:Array Value} {z TI TO i1 i2:Addr}
end
end Mine
namespace Mine
section
variable {prog:Program} {w:World} {A:Around} {E:Value->Shared->Prop} {s:Shared}
end
end Mine
namespace Mine
section
variable {prog:Program} {w:World} {A:Around} {R:Result->Shared->Prop} {x:Str} {t:Tok} {l:Addr} {ys:Array Value} {z TI TO i1 i2:Addr}
end
end Mine
namespace Mine
section
variable {prog:Program} {w:World} {A:Around} {E:Value->Shared->Prop} {h:Heap} {g:Array GenState} {d:Drawn} {t:Nat} {os:OsState} {a:Addr} {o:Obj}
end
end Mine
namespace Mine
section
variable {prog:Program} {w:World} {A:Around} {R:Result->Shared->Prop} {x:Str} {t:Tok} {l:Addr} {ys:Array Value} {z TI TO i1 i2:Addr}
end
end Mine
namespace Mine
section
variable {prog:Program} {w:World} {A:Around} {E:Value->Shared->Prop} {s:Shared}
variable {x:Str} {t:Tok} {l:Addr} {ys:Array Value} {z TI TO i1 i2:Addr}
end
end Mine
namespace Mine
section
variable {C:Cx} (ok:C.Ok) {n:Nat} {env:Env} {S:St}
include ok
end
end Mine
namespace Mine
section
variable {C:Cx} (ok:C.Ok) {n:Nat} {env:Env} {S:St}
include ok
end
end Mine
namespace Mine
section
variable {C:Cx} (ok:C.Ok) {n:Nat} {env:Env} {S:St}
include ok
end
end Mine
namespace Mine
section
variable {C:Cx} (ok:C.Ok) {n:Nat} {env:Env} {S:St}
include ok
theorem kG {target iter:Expr} {body:List Stmt} {pos:Pos} {l:List AV} {P:AF->St->Prop} (Inv:Nat->St->Prop) (ht:Plain target)
  (h:EV C n env S iter fun a d7=>Iter C n env d7 a l/\Inv 0 d7)
  (turn:∀ i d7 x (T:AF->St->Prop),(∀ f S,Turn (Inv (i+1)) P f S->T f S)->l[i]? = some x->Inv i d7->TG C n env d7 target x fun eG=>EX C n env eG body T)
  (fin:∀ d7,Inv l.length d7->P .next d7)
  (hs:∀ x,foldedSetIterable iter env x=pure x:=by intro _;rfl):E1 C n env S (.For target iter body [] pos) P :=
 B4 ok Inv ht h (fun i d7 x hx inv=>turn i d7 x _ (fun _ _ h=>h) hx inv) fin hs
theorem qe {t:Expr} {body:List Stmt} {pos:Pos} {P:AF->St->Prop} (Inv:Nat->St->Prop) (vq:Nat) (h0:Inv vq S)
  (turn:∀ k d7 (T P':AF->St->Prop),(∀ f S,Turn (fun fk=>∃ j,j<k/\Inv j fk) P f S->T f S)->(∀ f S,P f S->P' f S)->Inv k d7->ET C n env d7 t fun b eG=>if b then EX C n env eG body T else P' .next eG):E1 C n env S (.While t body [] pos) P :=
 j4 ok Inv vq h0 fun k d7 inv=>turn k d7 _ _ (fun _ _ h=>h) (fun _ _ h=>h) inv
end
end Mine
end
section
open PySem PySem.W PySem.Calls PyProof.Rows
open PySem.SeqAt
set_option tactic.hygienic false
namespace Mine
section
variable {C:Cx} {n:Nat} {env:Env} {S:St}
theorem n6 {Y D:List Addr} {dZ s:Shared} (R:Rel C Y dZ D env S s):s.heap.objs.size ∉ Xo C Y env S:=fun q=>by
 rcases fJ.mp q with z | z | z
 ·exact (R.bs.iG z).ne (eH _) rfl
 ·exact (R.hi _ (by rw [<- aH];exact af _ z)).2.2.ne (eH _) rfl
 ·exact (R.hi _ (aa _ (aa _ z))).2.2.ne (eH _) rfl
theorem f6.zJ {a:Addr} {l:List AV} {x:Str} {p:Pos} (hM:(a,AO.list l) ∈ S.M):f6 C n env S (.raw (.ref a)) l [(a,.list l)] (.Name x p):=fun A Y dZ D s v Q ha R r q=>by
 refine VR.fM r ?_;refine o2_4 (R.ob _ hM) fun vs kk e rs=>?_;have hI:=n6 R;have hne:a≠s.heap.objs.size:=cz (bH e);have hit:∀ {S':St} {s':Shared} {Yc Dc cenv sc},Rel C Yc sc Dc cenv S' s'->(∀ p ∈ [(a,AO.list l)],p ∈ S'.M)->∃ ws:List Value,SeqAt s'.heap a ws.toArray/\VRs s'.heap (Xo C Yc cenv S') ws l:=fun R' h=>by
  refine o2_4 (R'.ob _ (h _ (ao.mpr rfl))) fun ws k' e' rs'=>?_;exact ⟨ws,⟨_,e',k',rfl⟩,rs'⟩
 refine wpAny_pyIter_list (e8 e) (q _ [s.heap.objs.size] [s.heap.objs.size] (fun i h=>h.IsListIter s.heap.objs.size a i) _ (.alloc ..) ⟨fun i h st b hb=>?_,fun i h h' st hk=>?_,fun i Q' hi st R' hm up k=>?_,fun Q' st R' hm k=>?_,fun i s' v' Q' st hq=>?_,fun s' Q' E' st hq=>wpAny_pyIter_listiter st hq⟩ ⟨_,aI _ rfl,rfl,rfl⟩ (fun b hb=>?_) fun b hb=>ao.mp hb▸eH _)
 ·refine o1_3 st fun o ho _=>?_;clear st;exact ao.mp hb▸⟨o,ho⟩
 ·refine o1_4 st fun o ho c d=>?_;clear st;exact ⟨o,hk _ (ao.mpr rfl) o ho,c,d⟩
 ·refine o1_3 (hit R' hm) fun ws hs rs'=>?_;refine o1_2 (⟨_,aX hi⟩:∃ a',l[i]? = some a') fun a' ha'=>?_;refine o1_3 (rs'.get ha') fun v' hv' rv=>?_;exact jc st hs (by simpa using hv') fun h' st' hb=>k v' a' h' _ ha' rv st' fun b o hb' e'=>hb.extBut b o (fun q=>hb' (by simp [q])) e'
 ·refine o1_3 (hit R' hm) fun ws hs rs'=>?_;exact jB ha.handled st hs (by rw [List.getElem?_toArray,cX (by rw [rs'.length];exact bF _)]) fun h' hb=>k h' _ fun b o hb' e'=>hb b o (fun q=>hb' (by simp [q])) e'
 ·exact bS (show letOwnedTupleGo (.Name x p) (.ref _) v'=pure () from rfl) hq
 ·have e1:=ao.mp hb;subst e1;exact ⟨fun q=>hI (fJ.mpr (.inr (.inl q))),fun q=>hI (fJ.mpr (.inl q)),_,aI _ rfl⟩
variable (ok:C.Ok)
include ok
theorem ig {target iter:Expr} {body:List Stmt} {pos:Pos} {l:List AV} {fc:List (Addr×AO)} {P:AF->St->Prop} (Inv:Nat->St->Prop)
  (h:EV C n env S iter fun a d7=>f6 C n env d7 a l fc target/\Inv 0 d7) (stay:∀ i S,Inv i S->∀ p ∈ fc,p ∈ S.M)
  (turn:∀ i d7 x (T:AF->St->Prop),(∀ f S,Turn (Inv (i+1)) P f S->T f S)->l[i]? = some x->Inv i d7->TG C n env d7 target x fun eG=>EX C n env eG body T)
  (fin:∀ d7,Inv l.length d7->P .next d7)
  (hs:∀ x,foldedSetIterable iter env x=pure x:=by intro _;rfl):E1 C n env S (.For target iter body [] pos) P:=by
 intro A Y dZ D s Q ha R q;refine wpAny_For (hs:=hs) (h A Y dZ D s _ ha R fun v ee a d7 p d9 eE fy=>p.1 A Y dZ D ee v _ ha d9 fy fun I fp wr St d8 gG F hst hfp hw=>?_);refine oi ok Inv ha d9 gG hst hfp hw F.lw F.frame p.2 (fun i S' s' K hlt hst' R' up inv k=>?_) (fun S' s' Q hst' R' inv k=>F.done _ hst' R' (stay _ _ inv) k) fin fun f s' b S' pb R' K' rf=>q f s' b S' pb R' (eE.trans K') rf;exact F.item i _ hlt hst' R' (stay _ _ inv) up fun v a h' tk hla ra hst1 hk=>⟨v,rfl,F.go (i+1) _ v _ hst1 (k v h' tk hst1 hk fun Q' R3 K3 q'=>turn i S' a _ (fun _ _ z=>z) hla inv A _ _ _ _ v _ ha R3 (K3 _ _ ra) q')⟩
namespace O
variable {value slice:Expr}
theorem jQ {l:List AV} {m:Nat} {c:AV} (h1:1<=m) (hm:m<=l.length) (hk:l[l.length - m]? = some c) (hz:m<=1000)
  (hs:∀ t u,subscripted slice false (.ref t) (.int (-(m:Int)) u)=operate [.ref t,.int (-(m:Int)) u] (getItem (.ref t) (.int (-(m:Int)) u)):=by intros;with_unfolding_all rfl):P2 C n env S (subscriptTail value slice) (.lst l) (.int (-(m:Int))) c :=
 .of ok fun A X s v v' Q ha B r r' _ _ q=>by
  refine VR.iL r fun a vs k e nx rs=>VR.ff r' fun u=>?_;refine o1_3 (rs.get hk) fun x hx rx=>?_;have hl:=rs.length;exact tail_any (e8 e).typeIs slot_list_getitem.lookup (wpAny_getItem_list_neg (e8 e) (by lia) (by rw [aK];lia) (by lia) (x:=x) (by rw [aK,List.getElem?_toArray,show (-(m:Int)+(vs.length:Nat)).toNat=l.length - m by lia];exact hx) (q _ _ (.refl ..) rx)) (hs _ _)
theorem oS {a:Addr} {l:List AV} {m:Nat} {c:AV} (hM:(a,AO.list l) ∈ S.M) (h1:1<=m) (hm:m<=l.length) (hk:l[l.length - m]? = some c) (hz:m<=1000)
  (hs:∀ t u,subscripted slice false (.ref t) (.int (-(m:Int)) u)=operate [.ref t,.int (-(m:Int)) u] (getItem (.ref t) (.int (-(m:Int)) u)):=by intros;with_unfolding_all rfl):P2 C n env S (subscriptTail value slice) (.raw (.ref a)) (.int (-(m:Int))) c :=
 fun A Y dZ D s v v' Q ha R r r' q=>by
  refine VR.fM r (VR.ff r' fun u=>?_);refine o2_4 (R.ob _ hM) fun vs kk e rs=>?_;refine o1_3 (rs.get hk) fun x hx rx=>?_;have hl:=rs.length;exact tail_any (e8 e).typeIs slot_list_getitem.lookup (wpAny_getItem_list_neg (e8 e) (by lia) (by rw [aK];lia) (by lia) (x:=x) (by rw [aK,List.getElem?_toArray,show (-(m:Int)+(vs.length:Nat)).toNat=l.length - m by lia];exact hx) (xJ ok R q _ _ (.refl ..) rx)) (hs _ _)
noncomputable def eqI (x:Int):Value->Bool
 | .int i _=>i == x
 | _=>false
noncomputable def eqS (x:Str):Value->Bool
 | .str i _=>i == x
 | _=>false
theorem A6 {x y z:Int}:P2 C n env S (compareOp .NotIn) (.int x) (.tup [.int y,.int z]) (.bool (!(y == x || z == x))):=.of ok fun A X s v v' Q ha B r r' _ _ q=>by
 refine VR.ff r fun t=>VR.pW r' fun a vs k e nx rs=>?_;refine VRs.gT rs fun v1 vs1 r1 rs e1=>VRs.gT rs fun v2 vs2 r2 rs e2=>VRs.nq rs fun e3=>VR.pK r1 fun t1 e4=>VR.pK r2 fun t2 e5=>?_;subst e3 e5 e4 e2 e1;refine notIn_tupleAt (eqI x) (⟨_,e,rfl,_,rfl⟩:s.heap.IsTuple a _) (fun b hy=>?_) (q _ _ (.refl ..) ?_)
 ·have:b = .int y t1\/b = .int z t2:=by simpa using hy
  rcases this with rfl | rfl <;> exact EqAt.int_int _ _ _ _
 ·have:(#[Value.int y t1,Value.int z t2].any (eqI x))=(y == x || z == x):=by simp [eqI]
  rw [show ([Value.int y t1,Value.int z t2].toArray.any (eqI x))=(y == x || z == x) from this];exact .bool _
theorem uZ {x y z:Str}:P2 C n env S (compareOp .NotIn) (.str x) (.tup [.str y,.str z]) (.bool (!(y == x || z == x))):=.of ok fun A X s v v' Q ha B r r' _ _ q=>by
 refine VR.fO r fun t=>VR.pW r' fun a vs k e nx rs=>?_;refine VRs.gT rs fun v1 vs1 r1 rs e1=>VRs.gT rs fun v2 vs2 r2 rs e2=>VRs.nq rs fun e3=>VR.iW r1 fun t1 e4=>VR.iW r2 fun t2 e5=>?_;subst e3 e5 e4 e2 e1;refine notIn_tupleAt (eqS x) (⟨_,e,rfl,_,rfl⟩:s.heap.IsTuple a _) (fun b hy=>?_) (q _ _ (.refl ..) ?_)
 ·have:b = .str y t1\/b = .str z t2:=by simpa using hy
  rcases this with rfl | rfl <;> exact EqAt.str_str _ _ _ _
 ·have:(#[Value.str y t1,Value.str z t2].any (eqS x))=(y == x || z == x):=by simp [eqS]
  rw [show ([Value.str y t1,Value.str z t2].toArray.any (eqS x))=(y == x || z == x) from this];exact .bool _
omit ok in
theorem qO {A:Around} {s:Shared} (x:Str) (t u:Tok):EqAt A s (.str x t) (.str x u) true:=by
 have:=EqAt.str_str (A:=A) (s:=s) x t x u;rwa [beq_self_eq_true] at this
theorem u9 {l:List Str}:P2 C n env S (compareOp .NotEq) (.lst (l.map .str)) (.lst (l.map .str)) (.bool false):=.of ok fun A X s v v' Q ha _ r r' lt _ q=>by
 refine VR.iL r fun a vs k e nx rs=>VR.iL r' fun b ws k' e' nx' rs'=>?_;have e1:vs.length=(l.map AV.str).length:=rs.length;have e2:ws.length=(l.map AV.str).length:=rs'.length;have hc:cLine=9900:=by decide
 have hu:A.units<cLine:=by have:=ha.units;lia
 have key:=RcNeAt.lists (A:=A) (s:=s) (e:=fun _=>true) (e8 e) (e8 e') (by simp only [aK];lia) hu (fun j h1 h2=>by
  have hj:j<l.length:=by simp only [aK] at h1;rw [e1,az] at h1;exact h1
  have ha':(l.map AV.str)[j]? = some (.str l[j]):=by rw [aQ,aX hj];rfl
  refine o1_3 (rs.get ha') fun v1 hv1 r1=>?_;refine o1_3 (rs'.get ha') fun v2 hv2 r2=>?_;have g1:vs.toArray[j]=v1:=by
   have:vs.toArray[j]? = some v1:=by simpa using hv1
   rw [Array.getElem?_eq_getElem h1] at this;exact bE this
  have g2:ws.toArray[j]=v2:=by
   have:ws.toArray[j]? = some v2:=by simpa using hv2
   rw [Array.getElem?_eq_getElem h2] at this;exact bE this
  rw [g1,g2];exact VR.fO r1 fun t=>VR.fO r2 fun u=>qO _ _ _)
 refine key C.prog C.w _ _ ?_;have:(!(List.range vs.toArray.size).all fun _=>true)=false:=by simp
 rw [this];exact q _ _ (.refl ..) (.bool _)
theorem eq_nil {l:List AV}:P2 C n env S (compareOp .Eq) (.lst l) (.lst []) (.bool l.isEmpty):=.of ok fun A X s v v' Q ha _ r r' lt _ q=>by
 refine VR.iL r fun a vs k e nx rs=>VR.iL r' fun b ws k' e' nx' rs'=>?_;have e1:=rs.length;have hw:ws=[]:=VRs.fN rs' rfl;subst hw;have hc:cLine=9900:=by decide
 have hu:A.units<cLine:=by have:=ha.units;lia
 cases l with
 | nil =>
   have hv:vs=[]:=ck.mp e1;subst hv;exact (RcAt.lists (A:=A) (s:=s) (e:=fun _=>true) (e8 e) (e8 e') rfl hu (fun j h1 h2=>absurd h1 (by simp))) C.prog C.w _ _ (q _ _ (.refl ..) (.bool _))
 | cons c l =>
   have hz:(vs.toArray.size != ([]:List Value).toArray.size)=true:=by
    rw [aK,e1];simp
   exact (RcAt.lists_lengths (A:=A) (s:=s) (e8 e) (e8 e') hz hu) C.prog C.w _ _ (q _ _ (.refl ..) (.bool _))
theorem AU {a b c:Int} (hc:c≠0) (hp:Builtin.divisionGoesByPylong (b - a) c=false):PN C n env S (fun vs=>call (.type "range") vs) [.int a,.int b,.int c] (.rng a b c):=.of ok fun _ X s _ _ _ _ r lt _ q=>by
 refine VRs.eW r fun _ _ r rs=>?_;refine VRs.eW rs fun _ _ r' rs=>?_;refine VRs.eW rs fun _ _ r2 rs=>?_;refine VRs.fN rs ?_;refine VR.ff r fun _=>?_;refine VR.ff r' fun _=>?_;refine VR.ff r2 fun _=>?_;exact call_range_3 hc (q _ _ ((fC.alloc ..).gP (.toks ..)) (.rng (IsRange.new ..) (fun h=>absurd (lt _ h) (dP _)))) (.inl hp)
end O
noncomputable def jI (a c:Int) (n:Nat):List AV:=(List.range n).map fun (i:Nat)=>.int (a+(i:Int) * c)
theorem Iter.C8 {a b c:Int} {n':Nat} (hs:Builtin.Range.small a b c=true) (hn:Builtin.Range.rangeSize a b c=(n':Int)):Iter C n env S (.rng a b c) (jI a c n'):=fun A Y dZ D s v Q ha R r q=>by
 refine VR.yR r fun r t u w e nx=>?_;refine wpAny_pyIter_range e hs ?_;have el:(jI a c n').length=n':=by simp [jI]
 have W:=Walks.range (prog:=C.prog) (w:=C.w) (A:=A) ha.handled s.heap.objs.size a c n' |>.bound
 rw [<- el] at W;have h0:IsRangeIter (s.heap.push { cls:=.type "range_iterator", data:=.fields #[rawInt a,rawInt (Builtin.Range.rangeSize a b c),rawInt c] }) s.heap.objs.size (a+(0:Nat) * c) (((jI a c n').length:Int) - (0:Nat)) c:=by
  rw [hn,el,show a+((0:Nat):Int) * c=a by simp,show (n':Int) - ((0:Nat):Int)=n' by simp]
  exact aI _ rfl
 refine q s.heap.objs.size _ [s.heap.objs.size] _ _ _ (.alloc ..) W h0 (fun b hb=>?_) (fun b hb=>ao.mp hb▸eH _) (fun i h st b hb=>?_) (fun i v hv=>?_) (fun elts kk pos i s' v Q st hq=>?_)
 ·have e1:=ao.mp hb;subst e1;exact ⟨fun q=>n6 R (fJ.mpr (.inr (.inl q))),fun q=>n6 R (fJ.mpr (.inl q)),⟨_,h0⟩⟩
 ·exact ao.mp hb▸⟨_,st⟩
 ·refine o0_2 hv fun hi zz=>?_;refine o1_2 zz fun t' rf2=>?_;clear hv;subst rf2;refine ⟨.int (a+i * c),?_,.int ..⟩;unfold jI;rw [aQ,cR (by rw [<- el];exact hi)];rfl
 ·exact jL ok st rfl rfl (by decide) hq
theorem PE.Df {o st:Expr} {a:AV} {l:List AV} {ps pos:Pos} (ho:PE C n env S o a) (ha:a = .lst l\/∃ b,a = .raw (.ref b)/\(b,AO.list l) ∈ S.M) (hst:PE C n env S st (.int (-1))) (hz:l.length<=1000)
  (hs:∀ t u,subscripted (.Slice none none (some st) ps) false (.ref t) u=operate [.ref t,u] (getItem (.ref t) u):=by intros;rfl) :
  PE C n env S (.Subscript o (.Slice none none (some st) ps) pos) (.lst l.reverse):=fun A Y dZ D s Q hA R q=>by
 have sl:sizeLine=16777216:=by decide
 refine Subscript_ (ho A Y dZ D s _ hA R fun v ee BQ d7 jx d9 eE fy=>?_);refine o0_2 jx fun rf0 rf1=>?_;clear jx;subst rf0;subst rf1;refine dU ?_;rw [c7];refine ak (ak ?_);rw [dD];refine hst A Y dZ D ee _ hA d9 fun v2 d8 BP eG fh eB eN fz=>?_;refine o0_2 fh fun rf0 rf1=>?_;clear fh;subst rf0;subst rf1;refine VR.ff fz fun u=>?_;have st:=fC.alloc C.T d8 { cls:=.type "slice", data:=.fields #[.none,.none,.int (-1) u] }
 have eV:=eB.go ok st;have f7:=(eN.trans (Kp.go eB st)) _ _ fy;refine o3_6 (by
  rcases ha with rfl | ⟨b,rfl,hM⟩
  ·exact VR.sD f7 fun b vs kk e nx rs ev=>⟨b,vs,kk,ev.symm,e,rs⟩
  ·refine o2_4 (eV.ob _ hM) fun vs kk e rs=>?_;exact VR.gX f7 fun ev=>⟨b,vs,kk,ev.symm,e,rs⟩:∃ b vs kk,v = .ref b/\(d8.heap.push { cls:=.type "slice", data:=.fields #[.none,.none,.int (-1) u] }).get? b=some ⟨.type "list", Option.none,.seq vs.toArray kk,#[]⟩/\VRs (d8.heap.push { cls:=.type "slice", data:=.fields #[.none,.none,.int (-1) u] }) (Xo C Y env eG) vs l) fun b vs kk rf3 e rs=>?_
 subst rf3;have hlen:vs.length=l.length:=rs.length;refine tail_any (e8 e).typeIs slot_list_getitem.lookup (wpAny_getItem_list_slice (e8 e) (dR ..) .none .none (.int _ _) (by decide) ?_ (by rw [aK];lia)) (hs _ _)
 rw [krv_pick];have x:=fC.alloc C.T { d8 with heap:=d8.heap.push { cls:=.type "slice", data:=.fields #[.none,.none,.int (-1) u] } } { cls:=.type "list", data:=.seq vs.toArray.toList.reverse.toArray }
 refine q _ _ _ eG ⟨rfl,rfl⟩ (eV.go ok x) ((eE.trans eN).trans (Kp.go eB (st.gP x))) (.lst (aI _ rfl) (fun h=>(eV.live h).ne (eH _) rfl) ?_);refine VRs.stp x.heap (fun _ h=>nomatch h) eV.hT ?_;rw [show vs.toArray.toList=vs from rfl];refine sX (by simp [hlen]) fun j v hv=>?_
 have hj:j<vs.length:=by
  have:=(aM.mp hv).1;simpa using this
 rw [List.getElem?_reverse hj] at hv;refine o1_2 (⟨_,aX (by lia)⟩:∃ a',l[l.length - 1 - j]? = some a') fun a' ha'=>?_
 refine o1_3 (rs.get ha') fun v' hv' rv=>?_;rw [<- hlen,hv] at hv';cases hv';exact ⟨a',by rw [List.getElem?_reverse (by lia)];exact ha',rv⟩
theorem PE.zK {o lo:Expr} {l:List AV} {m:Nat} {ps pos:Pos} (ho:PE C n env S o (.lst l)) (hi:PE C n env S lo (.int (-(m:Int)))) (h1:1<=m) (hz:l.length<=1000)
  (hs:∀ t u,subscripted (.Slice (some lo) none none ps) false (.ref t) u=operate [u,.ref t] (getItem (.ref t) u):=by intros;with_unfolding_all rfl) :
  PE C n env S (.Subscript o (.Slice (some lo) none none ps) pos) (.lst (l.drop (l.length - m))):=fun A Y dZ D s Q ha R q=>by
 have sl:sizeLine=16777216:=by decide
 refine Subscript_ (G.at ho ha R fun v ee d9 eE fy=>?_);refine dU ?_;rw [dD];refine G.at hi ha d9 fun v d8 eB eN fz=>?_;refine VR.ff fz fun u=>?_;rw [c7];refine ak (ak ?_);have st:=fC.alloc C.T d8 { cls:=.type "slice", data:=.fields #[.int (-(m:Int)) u,.none,.none] }
 have eV:=eB.go ok st;have f7:=(eN.trans (Kp.go eB st)) _ _ fy;refine VR.iL f7 fun b vs kk e nx rs=>?_;have hlen:vs.length=l.length:=rs.length;refine tail_any (e8 e).typeIs slot_list_getitem.lookup (wpAny_getItem_list_slice (e8 e) (dR ..) (.int _ _) .none .none (by simp) ?_ (by rw [aK];lia)) (hs _ _)
 rw [slicePick_last _ m h1,show vs.toArray.size - m=l.length - m by rw [aK,hlen]]
 have x:=fC.alloc C.T { d8 with heap:=d8.heap.push { cls:=.type "slice", data:=.fields #[.int (-(m:Int)) u,.none,.none] } } { cls:=.type "list", data:=.seq (vs.toArray.toList.drop (l.length - m)).toArray }
 refine q _ _ _ S ⟨rfl,rfl⟩ (eV.go ok x) ((eE.trans eN).trans (Kp.go eB (st.gP x))) (.lst (aI _ rfl) (fun h=>(eV.live h).ne (eH _) rfl) ?_);exact VRs.stp (Stp.push C.T ..) (fun _ h=>nomatch h) eV.hT (VRs.drop _ rs)
theorem TG.four {x y z u:Str} {p p' p2 p3 pos:Pos} {k:Nat} {a b c d:AV} {P:St->Prop} (hx:env.kindOf x=some .local) (hy:env.kindOf y=some .local) (hz:env.kindOf z=some .local) (hu:env.kindOf u=some .local)
  (h:P ⟨ins u d (ins z c (ins y b (ins x a S.μ))),S.M⟩):TG C n env S (.Tuple [.Name x p,.Name y p',.Name z p2,.Name u p3] k pos) (.tup [a,b,c,d]) P :=
 fun A Y dZ D s v Q ha R r q=>by
  refine VR.pW r fun T vs kk e nx rs=>?_;refine assign_Tuple_tuple ha.handled (sF e) (by have:=rs.length;simp at this;simp [assignEach,this]) (by rfl) fun h' hb=>?_
  have st:fC C.T [] s { s with heap:=h' }:=.wj hb fun q=>(R.bs.iG q).ne (eH _) rfl
  have d9:=R.go ok st;have eE:=Kp.go R st;refine VRs.eW rs fun _ _ r1 rs=>VRs.eW rs fun _ _ r2 rs=>VRs.eW rs fun _ _ r3 rs=>VRs.eW rs fun _ _ r4 rs=>VRs.fN rs ?_;exact dj (cD (store ok Y (.inl hx) d9 (eE _ _ r1) fun d8 eB eN=>dj (cD (store ok Y (.inl hy) eB (eN _ _ (eE _ _ r2)) fun ez eV fG =>
   dj (cD (store ok Y (.inl hz) eV (fG _ _ (eN _ _ (eE _ _ r3))) fun gC gm gK=>dj (cD (store ok Y (.inl hu) gm (gK _ _ (fG _ _ (eN _ _ (eE _ _ r4)))) fun gr gF mO =>
    assignInOrder_nil (q _ _ h gF ((((eE.trans eN).trans fG).trans gK).trans mO))))))))))
theorem Ao {K:Type} [DecidableEq K] (k:DK C K) {o ix value:Expr} {op:Operator} {pos' pos:Pos} {P:AF->St->Prop} {i:Nat} {a:Addr} {l:List (K×AV)} {x:K} {old y new:AV} (ho:PE C n env S o (.raw (.ref a))) (hi:PE C n env S ix (k.av x)) (hM:S.M[i]? = some (a,k.ob l))
  (hk:ie l x=some old) (hz:l.length<=1000) (hv:PE C n env S value y) (hop:P2 C n env S (inplaceOp op) old y new) (h:P .next ⟨S.μ,S.M.set i (a,k.ob (iZ l x new))⟩)
  (hs:∀ ov iv new,augStore ix ov iv new=(do holding [new,ov,iv] (setItem ov iv new);release [new,ov,iv] [];pure .next):=by intro _ _ _;rfl):E1 C n env S (.AugAssign (.Subscript o ix pos') op value pos) P:=fun A Y dZ D s Q ha R q=>by
 have sl:sizeLine=16777216:=by decide
 refine wpAny_AugAssign_Subscript_any (ha:=hs) (G.at ho ha R fun v ee d9 eE fy=>?_);refine VR.fM fy ?_;refine G.at hi ha d9 fun kv d8 eB eN fz=>?_;refine o1_3 (k.to (eB.ob _ (eu hM))) fun kvs e rs=>?_;refine o1_3 (rs.at hk) fun u hu ru=>?_;refine wpAny_getItem_of (k.is fz) e.mapOf hu ?_;have xt:fC C.T [] d8 { d8 with toks:=d8.toks+1 }:=.toks ..
 refine hv A Y dZ D _ _ ha (eB.go ok xt) fun v ez Dl fk fF eV fG f7=>?_;refine o0_2 fF fun rf0 rf1=>?_;clear fF;subst rf0;subst rf1;refine hop A Y dZ D ez _ _ _ ha eV (fG _ _ ru) f7 fun v gC CS gU gY gm gK zm=>?_;refine o0_2 gY fun rf0 rf1=>?_;clear gY;subst rf0;subst rf1;refine o1_3 (k.to (gm.ob _ (eu hM))) fun kvs4 e4 rs4=>?_;refine wpAny_setItem_pairs (k.is ((fG.trans gK) _ _ fz)) e4 (fun h' e' hb=>?_) (by rw [rs4.length];lia)
 have st:fC C.T [a] gC { gC with heap:=h',toks:=gC.toks+1 }:=⟨.sameBut hb (CO k gm (eu hM)),rfl,rfl,id⟩
 refine o0_2 (Rel.qw ok k gm hM zm rs4 (s':={ gC with heap:=h',toks:=gC.toks+1 }) e' st) fun R' K'=>?_
 exact q _ _ _ _ h R' ((((eE.trans eN).trans fG).trans gK).trans K') .next
end
end Mine
end
section
open PySem PySem.W PySem.Calls PyProof.Rows
set_option tactic.hygienic false
namespace Mine
theorem m6 {h:Heap} {X:List Addr}:∀ {vs:List Value} {ys:List Str},VRs h X vs (ys.map AV.str)->StrsAre vs ys :=
 fun {vs ys}=>by
 induction ys generalizing vs with
 | nil=>exact fun r=>VRs.fN r .nil
 | cons y ys ih=>exact fun r=>VRs.eW r fun _ _ ra rs=>VR.fO ra fun _=>.cons _ _ (ih rs)
section
variable {C:Cx} (ok:C.Ok) {n:Nat} {env:Env} {S:St}
include ok
theorem EV.join {o e:Expr} {apos pos:Pos} {x:Str} {P:AV->St->Prop} (ho:PE C n env S o (.str x)) (hx:x.length<=16)
  (h:EV C n env S e fun a d7=>∃ ys:List Str,a = .lst (ys.map AV.str)/\(ys.map (·.length)).sum+ys.length<=1048576/\P (.str (Txt.join x ys)) d7)
  (hbase:attributeBase o "join" env (eval o env)=eval o env:=by rfl)
  (hfew:((backTo pos (starEach [e] env)).all (fun x=>!x.1) && (backToKw pos (keywordEach [] env)).all (fun x=>x.1.isSome) && decide ([e].length+([]:List Keyword).length+(if ([]:List Keyword).isEmpty then 0 else 1)<30))=true:=by rfl)
  (hline:(apos.endLine == pos.line)=true:=by rfl) (he:starEach [e] env=(false,eval e env)::starEach [] env:=by rfl) :
  EV C n env S (.Call (.Attribute o "join" apos) [e] [] pos) P :=
 fun A Y dZ D s Q ha R q=>dN hbase hfew hline (G.at ho ha R fun v ee d9 eE r=>by
  refine VR.fO r fun t=>?_
  ·
   refine ⟨"str", "str.join", PySem.F.plainAttrs_str,PySem.F.slot_str_join,PySem.F.type_str_join,dG _ _ _,(fun _ e=>nomatch e),?_⟩
   have h':wpAny (model C.prog C.w) A (spliced (backTo pos (starEach [e] env))) (fun vs s'=>wpAny (model C.prog C.w) A (call (.builtin "str.join") ([.str x t]++vs)) Q No s') No ee :=
    c9 (h A Y dZ D ee _ ha d9 fun v d8 BP eG fh eB eN fz=>wpAny_items_nil (by
     refine o1_4 fh fun ys rf1 hw hp=>?_;clear fh;subst rf1;refine VR.iL fz fun _ _ _ e nx rs=>?_
     ·
      refine join_listW (e8 e) (by simpa using m6 rs) hx hw fun t' k=>?_
      exact q _ _ _ _ hp (eB.go ok (.toks ..)) ((eE.trans eN).trans (Kp.go eB (.toks ..))) (.str ..))) he
   rw [he] at h' ⊢;exact cC rfl (evalArgs_plain h'))
end
end Mine
namespace Mine
theorem intsAre_of {h:Heap} {X:List Addr}:∀ {vs:List Value} {ys:List Int},VRs h X vs (ys.map AV.int)->IntsAre vs ys :=
 fun {vs ys}=>by
 induction ys generalizing vs with
 | nil=>exact fun r=>VRs.fN r .nil
 | cons y ys ih=>exact fun r=>VRs.eW r fun _ _ ra rs=>VR.ff ra fun _=>.cons _ _ (ih rs)
theorem nt {vs:List Value} {ys:List Int} (h:IntsAre vs ys):∀ {i:Nat},i<ys.length->∃ t,vs.getD i Value.none = .int (ys.getD i 0) t:=by
 induction h with
 | nil=>intro i hi;simp at hi
 | cons n t _ ih =>
   intro i hi;cases i with
   | zero=>exact ⟨t,rfl⟩
   | succ i =>
     refine o1_2 (ih (i:=i) (by simpa using hi)) fun u e=>?_
     exact ⟨u,by simpa using e⟩
theorem j8 {vs:List Value} {ys:List Str} (h:StrsAre vs ys):∀ {i:Nat},i<ys.length->∃ t,vs.getD i Value.none = .str (ys.getD i "") t:=by
 induction h with
 | nil=>intro i hi;simp at hi
 | cons n t _ ih =>
   intro i hi;cases i with
   | zero=>exact ⟨t,rfl⟩
   | succ i =>
     refine o1_2 (ih (i:=i) (by simpa using hi)) fun u e=>?_
     exact ⟨u,by simpa using e⟩
section
variable {prog:Program} {w:World} {A:Around} {E:Value->Shared->Prop} {s:Shared}
theorem o4 {ks vs:List Value} (hl:ks.length=vs.length) (h2:2<=vs.length) (h4:vs.length<=4) {lt:Nat->Nat->Bool} (wk:Aj vs.length lt)
  (hc:∀ i j (C:Bool->Shared->Prop) s,i<vs.length->j<vs.length->C (lt i j) s->kas_ask prog w A oneType' ks i j C s) {Q:SortSt->Shared->Prop}
  (hQ:∀ st (p:Array Nat),p.toList=gI lt (List.range vs.length)->(arrOf st).map (·.2)=List.toArray (p.toList.map fun i=>vs.getD i Value.none)->failedOf st=none->Q st s) :
  wpAny (model prog w) A ((sortRuns').run (SortSt.mk' oneType' (ks.toArray.zip vs.toArray) #[] 7 none)) (fun r s'=>Q r.2 s') E s:=by
 have run:=sy (cmp:=kas_ask prog w A oneType' ks) (Inv:=fun s'=>s'=s) (fun i j C s' hi hj e hC=>hc i j C s' hi hj (hC s' e))
  (Q:=fun (p:Array Nat) s'=>(p.toList == gI lt (List.range vs.length))=true/\s'=s) (fun p s' h1 h2=>⟨h1,h2⟩) (kas_sort vs.length) s (tD h2 h4 wk) rfl
 exact kat_run (Q:=fun st' s'=>Q st' s') hl h2 (by lia) (fun p st' s' a1 a2 a3 a4=>by
  refine o0_2 a4 fun b1 rf1=>?_;clear a4;subst rf1;exact hQ st' p (cI.mp b1) (kat_snds hl a2) a3) run
theorem weakInt (kz:List Int):Aj kz.length fun i j=>decide (kz.getD i 0<kz.getD j 0) :=
 ⟨fun i j _ _ h=>by simp at h ⊢;lia,fun i j k _ _ _ h=>by simp at h ⊢;lia⟩
theorem y9 (l:List Str):Aj l.length fun i j=>decide ((l.getD i "").cps.toList<(l.getD j "").cps.toList) :=
 ⟨fun i j _ _ h=>by
  rw [cF] at h;rw [dO];exact List.lt_asymm h,fun i j k _ _ _ h=>by
  simp only [cF] at h ⊢;by_cases h1:(l.getD k "").cps.toList<(l.getD i "").cps.toList
  ·exact .inl h1
  ·refine .inr ?_;have h2:(l.getD i "").cps.toList<=(l.getD k "").cps.toList:=List.not_lt.mp h1
   exact List.lt_of_le_of_lt h2 h⟩
end
section
variable {C:Cx} (ok:C.Ok) {n:Nat} {env:Env} {S:St}
include ok
theorem O.sorted_strs {l:List Str} (h2:2<=l.length) (h4:l.length<=4):PN C n env S (fun vs=>call (.builtin "sorted") vs) [.lst (l.map .str)] (.lst ((gI (fun a b:Str=>decide (a.cps.toList<b.cps.toList)) l).map .str)):=fun A Y dZ D s vs0 Q ha R r0 q=>by
 refine VRs.eW r0 fun _ _ r r0=>VRs.fN r0 ?_;refine VR.iL r fun a0 vs kk e nx rs=>?_;have sA:=m6 rs;have hvl:vs.length=l.length:=by rw [rs.length,az]
 refine Calls.call_function_entry kind_sorted plain_sorted entry_sorted (args_sorted1 _) ?_;unfold Builtin.«sorted»;refine ah (m:=checkCount "sorted" 1 1 _) (ak ?_)
 refine ah (collect_list (e8 e) ?_ (by rw [cP];lia))
 refine ah (wpAny_newList ?_ (by rw [cP];lia))
 have keep:∀ b o,s.heap.get? b=some o->((s.heap.push (seqObj "list" #[] 0)).update s.heap.objs.size (Obj.mapSeq (· ++ vs.toArray))).get? b=some o:=fun b o q=>by
  rw [Heap.get?_update_ne _ _ _ _ (cz (bH q))];exact aA _ q
 have hge:s.heap.objs.size<=((s.heap.push (seqObj "list" #[] 0)).update s.heap.objs.size (Obj.mapSeq (· ++ vs.toArray))).objs.size:=by
  rw [Heap.size_update,size_push'];exact Nat.le_succ _
 show wpAny _ _ _ _ _ { s with heap:=((s.heap.push (seqObj "list" #[] 0)).update s.heap.objs.size (Obj.mapSeq (· ++ vs.toArray))).push (seqObj "list" vs.toArray 0) }
 generalize (s.heap.push (seqObj "list" #[] 0)).update s.heap.objs.size (Obj.mapSeq (· ++ vs.toArray))=h1 at *
 have hoL:(h1.push (seqObj "list" vs.toArray 0)).get? h1.objs.size=some (seqObj "list" vs.toArray 0):=aI _ rfl
 have neL:∀ b o,s.heap.get? b=some o->b≠h1.objs.size:=fun b o q=>cz (Nat.lt_of_lt_of_le (bH q) hge);have k2:∀ b o,s.heap.get? b=some o->(h1.push (seqObj "list" vs.toArray 0)).get? b=some o:=fun b o q=>aA _ (keep b o q)
 generalize hh2:h1.push (seqObj "list" vs.toArray 0)=hp at *
 generalize h1.objs.size=a at *;refine ah (bw (cV slot_list_sort ⟨_,hoL,rfl⟩ entry_list_sort ?body (args_list_sort _)))
 case body =>
  have s1:=b9 hp a (Obj.mapSeq fun _=>(#[]:Array Value));refine o1_2 (⟨_,get?_update_seq hoL fun _=>#[]⟩:∃ e1,(hp.update a (Obj.mapSeq fun _=>(#[]:Array Value))).get? a=some (seqObj "list" #[] e1)) fun e1 ho1=>?_
  rw [list_sort_plain];refine ah (listItems_at (xs:=vs.toArray) hoL rfl ?_);refine ah (listUpdate_at hoL rfl ?_ (by rw [aK,cP];lia) (bR _))
  refine ah (seqEpoch_at ho1 rfl ?_);refine ah (wpAny_newTuple ?_ (by show vs.length<=_;rw [cP];lia))
  refine ah (wpAny_newList ?_ (bR _));refine bw ?_;have k0:∀ b o,s.heap.get? b=some o->(((hp.update a (Obj.mapSeq fun _=>(#[]:Array Value))).push (seqObj "tuple" vs.toArray 0)).push (seqObj "list" #[] 0)).get? b=some o:=fun b o q =>
   aA _ (aA _ (s1.extBut b o (neL b o q) (k2 b o q)))
  have hoz:(((hp.update a (Obj.mapSeq fun _=>(#[]:Array Value))).push (seqObj "tuple" vs.toArray 0)).push (seqObj "list" #[] 0)).get? a=some (seqObj "list" #[] e1):=aA _ (aA _ ho1)
  show wpAny _ _ _ _ _ { s with heap:=((hp.update a (Obj.mapSeq fun _=>(#[]:Array Value))).push (seqObj "tuple" vs.toArray 0)).push (seqObj "list" #[] 0) }
  generalize ((hp.update a (Obj.mapSeq fun _=>(#[]:Array Value))).push (seqObj "tuple" vs.toArray 0)).push (seqObj "list" #[] 0)=hq at *
  dsimp only;have hn2 : ¬ vs.toArray.size<2:=by rw [aK];lia
  rw [aq hn2,aq hn2];have hkind:keyKind' vs.toArray=pure oneType':=by
   match vs,sA with
   | _::_::_,sA=>exact keyKind_strs sA
   | [_],sA=>simp at hvl;lia
   | [],sA=>simp at hvl;lia
  refine ah (bS hkind ?_);have wk:Aj vs.length fun i j=>decide ((l.getD i "").cps.toList<(l.getD j "").cps.toList):=hvl▸y9 l
  refine ah (bx (o4 (s:={ s with heap:=hq }) (Q:=fun st s'=>(∃ p:Array Nat,p.toList=gI (fun i j=>decide ((l.getD i "").cps.toList<(l.getD j "").cps.toList)) (List.range vs.length)/\(arrOf st).map (·.2)=List.toArray (p.toList.map fun i=>vs.getD i Value.none)/\failedOf st=none)/\s'={ s with heap:=hq }) rfl (by lia) (by lia) wk (fun i j C' s' hi hj hC=>?_) fun st p hp har hf=>⟨⟨p,hp,har,hf⟩,rfl⟩) (fun r s' h=>?_) fun _ _ x=>x)
  ·unfold kas_ask;refine o1_2 (j8 sA (i:=i) (by lia)) fun t e1=>?_
   refine o1_2 (j8 sA (i:=j) (by lia)) fun u e2=>?_
   rw [e1,e2,keyLt'_oneType];exact oneLt_str hC
  ·obtain ⟨z1,st⟩:=r;obtain ⟨⟩:=z1;refine o0_2 h fun z2 rf1=>?_;clear h;subst rf1;refine o1_4 z2 fun p hp har hf=>?_;clear z2;dsimp only at har hf ⊢;rw [har];have hpz:p.toList.length=vs.length:=by rw [hp];exact ((gQ _ _).length_eq).trans (by simp)
   refine ah (seqEpoch_at hoz rfl ?_);refine ah (listUpdate_at hoz rfl ?_ (bR _) (by rw [aK,az,hpz,cP];lia))
   rw [hf];simp only [bne_self_eq_false,bu,cg];refine o1_2 (⟨_,get?_update_seq hoz fun _=>_⟩:∃ c2,(hq.update a (Obj.mapSeq fun _=>List.toArray (p.toList.map fun i=>vs.getD i Value.none))).get? a=some (seqObj "list" (List.toArray (p.toList.map fun i=>vs.getD i Value.none)) c2)) fun c2 hc2=>?_
   have k9:∀ b o,s.heap.get? b=some o->(hq.update a (Obj.mapSeq fun _=>List.toArray (p.toList.map fun i=>vs.getD i Value.none))).get? b=some o:=fun b o z=>by
    rw [Heap.get?_update_ne _ _ _ _ (neL b o z)];exact k0 b o z
   refine ak ⟨_,rfl,ak ⟨_,rfl,?_⟩⟩;have st:fC C.T [] s { s with heap:=hq.update a (Obj.mapSeq fun _=>List.toArray (p.toList.map fun i=>vs.getD i Value.none)) }:=⟨.of_keeps k9,rfl,rfl,id⟩
   have hnone:s.heap.get? a=none:=by
    cases e:s.heap.get? a with
    | none=>rfl
    | some o=>exact absurd rfl (neL _ _ e)
   refine q _ _ _ S ⟨rfl,rfl⟩ (R.go ok st) (Kp.go R st) (.lst hc2 (fun h=>(R.live h).ne hnone rfl) ?_);have hfin:gI (fun a b:Str=>decide (a.cps.toList<b.cps.toList)) l=p.toList.map fun i=>l.getD i "" := by
    rw [hp,hvl];exact (uG (l:=l) (d:=("" : Str)) (lt:=fun i j=>decide ((l.getD i ("" : Str)).cps.toList<(l.getD j ("" : Str)).cps.toList)) (ltE:=fun a b:Str=>decide (a.cps.toList<b.cps.toList)) fun i j _ _=>rfl).symm
   rw [hfin,br];refine sX (by simp) fun j v hv=>?_
   rw [aQ] at hv ⊢;refine o1_3 (aS.mp hv) fun i hi rf2=>?_;subst rf2;rw [hi];have hiv:i<l.length:=by
    have:i ∈ gI (fun i j=>decide ((l.getD i "").cps.toList<(l.getD j "").cps.toList)) (List.range vs.length):=hp▸aV hi
    have:=(gQ _ _).mem_iff.mp this;rw [<- hvl];exact aL.mp this
   refine o1_2 (j8 sA hiv) fun t et=>?_;exact ⟨_,rfl,by rw [et];exact .str _ _⟩
end
end Mine
namespace Mine
noncomputable def keyLt (κ:AV->Int) (a b:AV):Bool:=decide (κ a<κ b)
section
variable {C:Cx} (ok:C.Ok) {n:Nat} {env:Env} {S:St}
include ok
theorem Rel.yF {Y D:List Addr} {dZ s s':Shared} {env:Env} {S:St} (R:Rel C Y dZ D env S s) {i:Nat} {a:Addr} {o:Obj} {o':AO} (hM:S.M[i]? = some (a,.fix o)) (hm:o'.more=[]) (st:fC C.T [a] s s') (lv:jr s'.heap a) (h:OR C s'.heap (Xo C Y env S) a o') :
  Rel C Y dZ D env ⟨S.μ,S.M.set i (a,o')⟩ s'/\Kp C Y env S s ⟨S.μ,S.M.set i (a,o')⟩ s' :=
 R.kJ ok hM hm (aj ..) st lv h
theorem su {f kS D:Addr} {oD:Obj} {κ:AV->Int} {l:List AV} {A:Around} {Y iC:List Addr} {dZ:Shared} {μ:List (Str×AV)} {M:List (Addr×AO)} {Q:PUnit->Shared->Prop} {body:Value->PUnit->Sem (ForInStep PUnit)}
  (hbody:∀ x (s:Shared) (Q:ForInStep PUnit->Shared->Prop),wpAny (model C.prog C.w) A (call (.ref f) [x]) (fun k ee=>wpAny (model C.prog C.w) A (Builtin.List.listUpdate (.ref kS) (·.push k)) (fun _ d8=>Q (.yield ⟨⟩) d8) No ee) No s->wpAny (model C.prog C.w) A (body x ⟨⟩) Q No s)
  (hkey:∀ c ∈ l,∀ ex:List (Addr×AO),VN C n env ⟨μ,ex++M⟩ (fun vs=>call (.ref f) vs) [c] fun av S'=>av = .int (κ c)/\S'=⟨μ,ex++M⟩) (hz:l.length<=4) (ha:AOk n A) :
  ∀ (r:List Value) (done todo:List AV),l=done++todo->∀ s,Rel C Y dZ iC env ⟨μ,[(kS,.list (done.map fun c=>.int (κ c))),(D,.fix oD)]++M⟩ s->VRs s.heap (Xo C Y env ⟨μ,[(kS,.list (done.map fun c=>.int (κ c))),(D,.fix oD)]++M⟩) r todo ->
    (∀ s',Rel C Y dZ iC env ⟨μ,[(kS,.list (l.map fun c=>.int (κ c))),(D,.fix oD)]++M⟩ s'->(∀ v av,VR s.heap (Xo C Y env ⟨μ,[(kS,.list (done.map fun c=>.int (κ c))),(D,.fix oD)]++M⟩) v av->VR s'.heap (Xo C Y env ⟨μ,[(kS,.list (l.map fun c=>.int (κ c))),(D,.fix oD)]++M⟩) v av)->Q ⟨⟩ s') ->
    wpAny (model C.prog C.w) A (forIn r PUnit.unit body) Q No s
 | [],done,todo,e,s,R,rs,q=>by
   have:todo=[]:=by have:=rs.length;exact ck.mp this.symm
   subst this;rw [bf] at e;subst e;rw [List.forIn_nil];exact ak (q s R fun v av r=>r)
 | x::r,done,[],e,s,R,rs,q=>by have:=rs.length;simp at this
 | x::r,done,c::todo,e,s,R,rs,q=>by
   rw [dw];refine VRs.gT rs fun x' r' rx rs' ex=>?_;cases ex;refine ah (hbody _ _ _ ((hkey c (by rw [e];simp) [(kS,AO.list (done.map fun c=>AV.int (κ c))),(D,AO.fix oD)]) A Y dZ iC s [x] _ ha R (.one rx) fun v ee av d7 p d9 eE rv=>?_))
   refine o0_2 p fun rf0 rf1=>?_;clear p;subst rf0;subst rf1;refine VR.ff rv fun t=>?_;refine o2_4 (d9.ob _ (aj ..)) fun ks kk ek rk=>?_;have hT:kS ∉ C.T:=d9.tn (aa _ (af _ (eU (aj ..) (aj ..))));have hks:ks.length=done.length:=by rw [rk.length,az]
   have hdl:done.length<=4:=by rw [e] at hz;simp at hz;lia
   refine listUpdate_at ek rfl ?_ (by rw [aK,cP];lia) (bC (Nat.le_of_eq (Array.size_push ..)) (by rw [aK,cP];lia))
   have ea:(ks.toArray.push (Value.int (κ c) t))=(ks++[Value.int (κ c) t]).toArray:=by simp
   refine o1_2 (jO (show IsL ee.heap kS ks.toArray kk from ek) (fun xs:Array Value=>xs.push (Value.int (κ c) t)) _ ea) fun k' e'=>?_;refine o0_2 (Rel.ki ok d9 (i:=0) (s':={ ee with heap:=ee.heap.update kS (Obj.mapSeq fun xs:Array Value=>xs.push (Value.int (κ c) t)),toks:=ee.toks }) rfl e' (jG ok hT) (l':=(done++[c]).map fun c=>AV.int (κ c)) (by rw [bq];exact rk.append (.one (.int ..)))) fun eB eN=>?_
   refine (su hbody hkey hz ha r (done++[c]) todo (by rw [e];simp) _ eB ((eE.trans eN).all rs') fun s' R' up=>q s' R' fun v av z=>up v av ((eE.trans eN) v av z))
omit ok in
theorem tu {α:Type} {lt:α->α->Bool}:∀ {l:List α},l.length<2->gI lt l=l
 | [],_=>rfl
 | [a],_=>rfl
 | _::_::_,h=>by simp at h;lia
omit ok in
theorem zk {h:Heap} {X:List Addr} {vs:List Value} {l:List AV} (rs:VRs h X vs l) {lt:AV->AV->Bool} {ltN:Nat->Nat->Bool} {p:List Nat} (hp:p=gI ltN (List.range l.length)) (hl:∀ i j,i<l.length->j<l.length->lt (l.getD i .none) (l.getD j .none)=ltN i j) :
  VRs h X (p.map fun i=>vs.getD i Value.none) (gI lt l):=by
 have hfin:gI lt l=p.map fun i=>l.getD i .none:=by
  rw [hp];exact (uG (l:=l) (d:=AV.none) (lt:=ltN) (ltE:=lt) hl).symm
 rw [hfin];refine sX (by simp) fun j v hv=>?_
 rw [aQ] at hv ⊢;refine o1_3 (aS.mp hv) fun i hi rf2=>?_;subst rf2;rw [hi];have hiv:i<l.length:=by
  have:i ∈ gI ltN (List.range l.length):=hp▸aV hi;exact aL.mp ((gQ _ _).mem_iff.mp this)
 refine ⟨_,rfl,?_⟩;refine o1_2 (⟨_,aX hiv⟩:∃ v,l[i]? = some v) fun av ha=>?_;refine o1_3 (rs.get ha) fun v hv r=>?_;show VR h X (vs.getD i Value.none) (l.getD i .none);rw [bA,bA,hv,ha];exact r
theorem sr {kS D:Addr} {e1:Nat} {l l2:List AV} {out:List Value} {A:Around} {Y iC:List Addr} {dZ s:Shared} {μ:List (Str×AV)} {M:List (Addr×AO)} {st:SortSt} {P:PySem.Fin->Shared->Prop} (hz:l.length<=4)
  (R:Rel C Y dZ iC env ⟨μ,[(kS,.list l),(D,.fix (seqObj "list" #[] e1))]++M⟩ s) (har:(arrOf st).map (·.2)=out.toArray) (hf:failedOf st=Option.none) (ho:out.length<=4) (rs:VRs s.heap (Xo C Y env ⟨μ,[(kS,.list l),(D,.fix (seqObj "list" #[] e1))]++M⟩) out l2)
  (q:∀ s',Rel C Y dZ iC env ⟨μ,(D,.list l2)::M⟩ s'->(∀ v av,VR s.heap (Xo C Y env ⟨μ,[(kS,.list l),(D,.fix (seqObj "list" #[] e1))]++M⟩) v av->VR s'.heap (Xo C Y env ⟨μ,(D,.list l2)::M⟩) v av)->P (.done (.ret .none)) s') :
  wpAny (model C.prog C.w) A (ksk_tail D false e1 (.ref kS) st) P No s:=by
 refine o2_4 (R.ob (kS,.list l) (aj ..)) fun ks kk ek rk=>?_;have hT:kS ∉ C.T:=R.tn (aa _ (af _ (eU (aj ..) (aj ..))));have hks:ks.length=l.length:=rk.length;refine o1_2 (jO (show IsL s.heap kS ks.toArray kk from ek) (fun _:Array Value=>(#[]:Array Value)) [] rfl) fun k1 ek1=>?_;refine o0_2 (Rel.ki ok R (i:=0) (s':={ s with heap:=s.heap.update kS (Obj.mapSeq fun _:Array Value=>(#[]:Array Value)),toks:=s.toks }) rfl ek1 (jG ok hT) (l':=[]) .nil) fun R1 K1=>?_
 have eD:=R1.ob (D,.fix (seqObj "list" #[] e1)) (ai _ (aj ..))
 have hTD:D ∉ C.T:=R1.tn (aa _ (af _ (eU (b:=D) (ai _ (aj ..)) (aj ..))));have eD':({ s with heap:=s.heap.update kS (Obj.mapSeq fun _:Array Value=>(#[]:Array Value)) }:Shared).heap.get? D=some (seqObj "list" #[] e1):=eD
 refine o1_2 (jO (show IsL (s.heap.update kS (Obj.mapSeq fun _:Array Value=>(#[]:Array Value))) D #[] e1 from eD') (fun _:Array Value=>out.toArray) out rfl) fun c2 hc2=>?_;refine o0_2 (Rel.yF ok R1 (i:=1) (s':={ s with heap:=(s.heap.update kS (Obj.mapSeq fun _:Array Value=>(#[]:Array Value))).update D (Obj.mapSeq fun _:Array Value=>out.toArray),toks:=s.toks }) (o':=.list l2) rfl rfl (jG ok hTD) ⟨_,hc2⟩ ⟨out,c2,hc2,VRs.stp (fC.heap (jG (C:=C) (s:={ s with heap:=s.heap.update kS (Obj.mapSeq fun _:Array Value=>(#[]:Array Value)) }) (t:=s.toks) ok hTD)) (R1.inX (aa _ (eU (b:=D) (ai _ (aj ..)) (aj ..)))) R1.hT (K1.all rs)⟩) fun R2 K2=>?_
 unfold ksk_tail
 try dsimp only
 refine ah (listUpdate_at ek rfl ?_ (by rw [aK,cP];lia) (bR _))
 refine ah (wpAny_letGo ?_);refine ah (seqEpoch_at eD' rfl ?_);rw [har];refine ah (listUpdate_at eD' rfl ?_ (bR _) (by rw [show (if false=true then out.toArray.reverse else out.toArray)=out.toArray from rfl,aK,cP];lia))
 rw [hf];simp only [bne_self_eq_false,bu,cg];have sub:e7 ((D,AO.list l2)::M) ((kS,AO.list [])::(D,AO.list l2)::M):=.of (R:=[(kS,AO.list [])]) (aZ (l₂:=[_]));exact ak (q _ (Rel.jb R2 sub) fun v av z=>sub.vr (K2 v av (K1 v av z)))
theorem zN {kS D:Addr} {e1:Nat} {κ:AV->Int} {l:List AV} {vs:List Value} {A:Around} {Y iC:List Addr} {dZ s:Shared} {μ:List (Str×AV)} {M:List (Addr×AO)} {P:PySem.Fin->Shared->Prop} (hz:l.length<=4)
  (R:Rel C Y dZ iC env ⟨μ,[(kS,.list (l.map fun c=>.int (κ c))),(D,.fix (seqObj "list" #[] e1))]++M⟩ s) (rs:VRs s.heap (Xo C Y env ⟨μ,[(kS,.list (l.map fun c=>.int (κ c))),(D,.fix (seqObj "list" #[] e1))]++M⟩) vs l)
  (q:∀ s',Rel C Y dZ iC env ⟨μ,(D,.list (gI (keyLt κ) l))::M⟩ s'->(∀ v av,VR s.heap (Xo C Y env ⟨μ,[(kS,.list (l.map fun c=>.int (κ c))),(D,.fix (seqObj "list" #[] e1))]++M⟩) v av->VR s'.heap (Xo C Y env ⟨μ,(D,.list (gI (keyLt κ) l))::M⟩) v av)->P (.done (.ret .none)) s') :
  wpAny (model C.prog C.w) A (Builtin.List.listItems (.ref kS) >>= fun keys=>ksk_end D false vs.toArray e1 (.ref kS) keys) P No s:=by
 refine o2_4 (R.ob (kS,.list (l.map fun c=>.int (κ c))) (aj ..)) fun ks kk ek rk=>?_;have hks:ks.length=l.length:=by rw [rk.length,az]
 have hvl:vs.length=l.length:=rs.length;refine ah (listItems_at (xs:=ks.toArray) ek rfl ?_);have sK:IntsAre ks (l.map κ):=intsAre_of (by rw [br];exact rk)
 have hz':(l.map fun c=>AV.int (κ c)).length<=4:=by rw [az];exact hz
 unfold ksk_end;simp only [bu,cg];by_cases h2:vs.toArray.size<2
 ·rw [ay h2,ay h2];rw [aK] at h2;refine ah (ak ?_);rw [StateT.run_pure];refine ah (ak ?_)
  try dsimp only
  refine sr ok (out:=vs) hz' R ?_ rfl (by lia) rs fun s' R' up=>?_
  ·show ((ks.toArray.zip vs.toArray).map (·.2))=vs.toArray;apply Array.toList_inj.mp;rw [dY,ksk_zip];exact List.map_snd_zip (Nat.le_of_eq (by simp [hks,hvl]))
  ·have e:gI (keyLt κ) l=l:=tu (by lia)
   rw [e] at q;exact q s' R' up
 ·rw [aq h2,aq h2];rw [aK] at h2;rw [ksk_kind (keys:=ks.toArray) (kz:=l.map κ) sK (by rw [aK];lia)]
  refine ah (ak ?_);have wk:Aj vs.length fun i j=>decide ((l.map κ).getD i 0<(l.map κ).getD j 0):=by
   have:=weakInt (l.map κ);rw [az,<- hvl] at this;exact this
  refine ah (bx (o4 (s:=s) (Q:=fun st s'=>(∃ p:Array Nat,p.toList=gI (fun i j=>decide ((l.map κ).getD i 0<(l.map κ).getD j 0)) (List.range vs.length)/\(arrOf st).map (·.2)=List.toArray (p.toList.map fun i=>vs.getD i Value.none)/\failedOf st=Option.none)/\s'=s) (by lia) (by lia) (by lia) wk (fun i j C' s' hi hj hC=>?_) fun st p hp har hf=>⟨⟨p,hp,har,hf⟩,rfl⟩) (fun r s' h=>?_) fun _ _ x=>x)
  ·unfold kas_ask;refine o1_2 (nt sK (i:=i) (by rw [az];lia)) fun t e1=>?_
   refine o1_2 (nt sK (i:=j) (by rw [az];lia)) fun u e2=>?_
   rw [e1,e2,keyLt'_oneType];exact oneLt_int hC
  ·obtain ⟨z1,st⟩:=r;obtain ⟨⟩:=z1;refine o0_2 h fun z2 rf1=>?_;clear h;subst rf1;refine o1_4 z2 fun p hp har hf=>?_;clear z2;dsimp only at har hf ⊢;have hpz:p.toList.length=vs.length:=by rw [hp];exact ((gQ _ _).length_eq).trans (by simp)
   refine sr ok (out:=p.toList.map fun i=>vs.getD i Value.none) hz' R har hf (by rw [az,hpz];lia) (zk rs (by rw [hp,hvl]) fun i j hi hj=>?_) q
   show decide (κ (l.getD i AV.none)<κ (l.getD j AV.none))=_;simp [bA,aX hi,aX hj]
theorem tC {f:Addr} {κ:AV->Int} {l:List AV} {a:AV} (ha:a = .lst l\/∃ b,a = .raw (.ref b)/\(b,AO.list l) ∈ S.M) (hkey:∀ c ∈ l,∀ ex:List (Addr×AO),VN C n env ⟨S.μ,ex++S.M⟩ (fun vs=>call (.ref f) vs) [c] fun av S'=>av = .int (κ c)/\S'=⟨S.μ,ex++S.M⟩) (hz:l.length<=4)
  {P:AV->St->Prop} (h:∀ D,P (.raw (.ref D)) ⟨S.μ,(D,.list (gI (keyLt κ) l))::S.M⟩) {A:Around} {Y iC:List Addr} {dZ s:Shared} {v:Value} {Q:Value->Shared->Prop} (hA:AOk (n+2) A) (R:Rel C Y dZ iC env S s) (rv:VR s.heap (Xo C Y env S) v a)
  (q:∀ v s' av S',P av S'->Rel C Y dZ iC env S' s'->Kp C Y env S s S' s'->VR s'.heap (Xo C Y env S') v av->Q v s'):wpAny (model C.prog C.w) A (call (.builtin "sorted") [v] [(Str.ofString "key", .ref f)]) Q No s:=by
 refine o3_6 (by
  rcases ha with rfl | ⟨b,rfl,hM⟩
  ·exact VR.sD rv fun b vs kk e nx rs ev=>⟨b,vs,kk,ev.symm,e,rs⟩
  ·refine o2_4 (R.ob _ hM) fun vs kk e rs=>?_;exact VR.gX rv fun ev=>⟨b,vs,kk,ev.symm,e,rs⟩:∃ b vs kk,v = .ref b/\s.heap.get? b=some ⟨.type "list", Option.none,.seq vs.toArray kk,#[]⟩/\VRs s.heap (Xo C Y env S) vs l) fun l0 vs kk rf3 e rs=>?_
 subst rf3;have hvl:vs.length=l.length:=rs.length;refine call_function_entry_kw kind_sorted plain_sorted entry_sorted (ksk_s1 _ _) ?_;unfold Builtin.«sorted»;refine ah (m:=checkCount "sorted" 1 1 _) (ak ?_)
 refine ah (collect_list (e8 e) ?_ (by rw [cP];lia))
 refine ah (wpAny_newList ?_ (by rw [cP];lia))
 have keep:∀ b o,s.heap.get? b=some o->((s.heap.push (seqObj "list" #[] 0)).update s.heap.objs.size (Obj.mapSeq (· ++ vs.toArray))).get? b=some o:=fun b o q=>by
  rw [Heap.get?_update_ne _ _ _ _ (cz (bH q))];exact aA _ q
 have hge:s.heap.objs.size<=((s.heap.push (seqObj "list" #[] 0)).update s.heap.objs.size (Obj.mapSeq (· ++ vs.toArray))).objs.size:=by
  rw [Heap.size_update,size_push'];exact Nat.le_succ _
 show wpAny _ _ _ _ _ { s with heap:=((s.heap.push (seqObj "list" #[] 0)).update s.heap.objs.size (Obj.mapSeq (· ++ vs.toArray))).push (seqObj "list" vs.toArray 0) }
 generalize (s.heap.push (seqObj "list" #[] 0)).update s.heap.objs.size (Obj.mapSeq (· ++ vs.toArray))=h1 at *
 have hoL:(h1.push (seqObj "list" vs.toArray 0)).get? h1.objs.size=some (seqObj "list" vs.toArray 0):=aI _ rfl
 have k2:∀ b o,s.heap.get? b=some o->(h1.push (seqObj "list" vs.toArray 0)).get? b=some o:=fun b o q=>aA _ (keep b o q)
 have hnone:s.heap.get? h1.objs.size=none:=dH hge;generalize hh2:h1.push (seqObj "list" vs.toArray 0)=hp at *
 generalize h1.objs.size=D at *;have st2:fC C.T [] s { s with heap:=hp }:=⟨.of_keeps k2,rfl,rfl,id⟩
 refine o0_2 (R.newObj ok (a:=D) (o:=.fix (seqObj "list" vs.toArray 0)) (s':={ s with heap:=hp }) (fun b hb=>by
  have:b=D:=by simpa [foot,AO.more] using hb
  subst this;exact ⟨hnone,_,hoL⟩) (by simp [foot,AO.more]) st2 hoL) fun R2' K2'=>?_
 have sub:e7 ((D,AO.fix (seqObj "list" vs.toArray 0))::S.M) (S.M++[(D,AO.fix (seqObj "list" vs.toArray 0))]):=.of (R:=[]) (by rw [bf];exact aZ (l₁:=[_]))
 have R2:=R2'.jb sub;have K2:∀ v av,VR s.heap (Xo C Y env S) v av->VR hp (Xo C Y env ⟨S.μ,(D,.fix (seqObj "list" vs.toArray 0))::S.M⟩) v av:=fun v av z=>sub.vr (K2' v av z)
 refine ah (bw (wpAny_call_entry_kw slot_list_sort ⟨_,hoL,rfl⟩ entry_list_sort ?body (ksk_l1 _ _)))
 case body =>
  rw [ksk_t1 f D];have hA2:AOk n A.in1.in1:=hA.in1.in1;have hDT:D ∉ C.T:=R2.tn (aa _ (af _ (eU (aj ..) (aj ..))));have s1:=b9 hp D (Obj.mapSeq fun _=>(#[]:Array Value));refine o1_2 (⟨_,get?_update_seq hoL fun _=>#[]⟩:∃ e1,(hp.update D (Obj.mapSeq fun _=>(#[]:Array Value))).get? D=some (seqObj "list" #[] e1)) fun e1 ho1=>?_
  refine o0_2 (Rel.yF ok R2 (i:=0) (s':={ s with heap:=hp.update D (Obj.mapSeq fun _=>(#[]:Array Value)) }) (o':=.fix (seqObj "list" #[] e1)) rfl rfl ⟨.sameBut s1 hDT,rfl,rfl,id⟩ ⟨_,ho1⟩ ho1) fun R3 K3=>?_
  unfold ksk_tree;refine ah (listItems_at (xs:=vs.toArray) hoL rfl ?_);refine ah (listUpdate_at hoL rfl ?_ (by rw [aK,cP];lia) (bR _))
  refine ah (seqEpoch_at ho1 rfl ?_);refine ah (wpAny_newTuple ?_ (by show vs.length<=_;rw [cP];lia))
  refine ah (wpAny_newList ?_ (bR _));refine bw ?_;have x3:=fC.alloc C.T { s with heap:=hp.update D (Obj.mapSeq fun _=>(#[]:Array Value)) } (seqObj "tuple" vs.toArray 0)
  have R4:=R3.go ok x3;have K4:=K3.trans (Kp.go R3 x3);have x4:=fC.alloc C.T { s with heap:=(hp.update D (Obj.mapSeq fun _=>(#[]:Array Value))).push (seqObj "tuple" vs.toArray 0) } (seqObj "list" #[] 0)
  have eK:(((hp.update D (Obj.mapSeq fun _=>(#[]:Array Value))).push (seqObj "tuple" vs.toArray 0)).push (seqObj "list" #[] 0)).get? ((hp.update D (Obj.mapSeq fun _=>(#[]:Array Value))).push (seqObj "tuple" vs.toArray 0)).objs.size=some (seqObj "list" #[] 0):=aI _ rfl
  refine o0_2 (R4.newObj ok (a:=((hp.update D (Obj.mapSeq fun _=>(#[]:Array Value))).push (seqObj "tuple" vs.toArray 0)).objs.size) (o:=.list []) (s':={ s with heap:=((hp.update D (Obj.mapSeq fun _=>(#[]:Array Value))).push (seqObj "tuple" vs.toArray 0)).push (seqObj "list" #[] 0) }) (fun b hb=>by
   have:b=((hp.update D (Obj.mapSeq fun _=>(#[]:Array Value))).push (seqObj "tuple" vs.toArray 0)).objs.size:=by simpa [foot,AO.more] using hb
   subst this;exact ⟨eH _,_,eK⟩) (by simp [foot,AO.more]) x4 ⟨[],0,eK,.nil⟩) fun R5' K5'=>?_
  show wpAny _ _ _ _ _ { s with heap:=((hp.update D (Obj.mapSeq fun _=>(#[]:Array Value))).push (seqObj "tuple" vs.toArray 0)).push (seqObj "list" #[] 0) }
  generalize ((hp.update D (Obj.mapSeq fun _=>(#[]:Array Value))).push (seqObj "tuple" vs.toArray 0)).push (seqObj "list" #[] 0)=hq at *
  generalize ((hp.update D (Obj.mapSeq fun _=>(#[]:Array Value))).push (seqObj "tuple" vs.toArray 0)).objs.size=kS at *
  have subK:e7 ([(kS,AO.list (([]:List AV).map fun c=>AV.int (κ c))),(D,AO.fix (seqObj "list" #[] e1))]++S.M) (((D,AO.fix (seqObj "list" #[] e1))::S.M)++[(kS,AO.list [])]):=.of (R:=[]) (by
   rw [bf];exact aZ (l₁:=[_]))
  have R5:Rel C Y dZ iC env ⟨S.μ,[(kS,AO.list (([]:List AV).map fun c=>AV.int (κ c))),(D,AO.fix (seqObj "list" #[] e1))]++S.M⟩ { s with heap:=hq }:=Rel.jb (R5':Rel C Y dZ iC env ⟨S.μ,((D,AO.fix (seqObj "list" #[] e1))::S.M)++[(kS,AO.list [])]⟩ _) subK
  have K5:∀ v av,VR s.heap (Xo C Y env S) v av->VR hq (Xo C Y env ⟨S.μ,[(kS,AO.list (([]:List AV).map fun c=>AV.int (κ c))),(D,AO.fix (seqObj "list" #[] e1))]++S.M⟩) v av:=fun v av z=>subK.vr (K5' v av (K4 v av (K2 v av z)))
  unfold ksk_rest;refine ah (dc ?_)
  first
   | rw [List.forIn_toArray]
   | (rw [<- Array.forIn_toList];simp only [List.toList_toArray])
   | rw [<- Array.forIn_toList]
  refine ah (bx (su (A:=A.in1.in1) (body:=_) (Q:=fun _ s'=>∃ _:True,Rel C Y dZ iC env ⟨S.μ,[(kS,AO.list (l.map fun c=>AV.int (κ c))),(D,AO.fix (seqObj "list" #[] e1))]++S.M⟩ s'/\∀ v av,VR s.heap (Xo C Y env S) v av->VR s'.heap (Xo C Y env ⟨S.μ,[(kS,AO.list (l.map fun c=>AV.int (κ c))),(D,AO.fix (seqObj "list" #[] e1))]++S.M⟩) v av) ok
   (fun x s1 Q1 hx=>?_) hkey hz hA2 vs [] l rfl _ R5 (rs.imp K5) fun s' R' up=>⟨trivial,R',fun v av z=>up v av (K5 v av z)⟩) (fun _ s6 h6=>?_) fun _ _ x=>x)
  ·refine ah (wpAny_attempt (jP hx fun k s2 hk=>?_));dsimp only;exact ah (jP hk fun _ s3 h3=>ak h3)
  refine o1_3 h6 fun _ R6 K6=>?_;clear h6;exact zN ok hz R6 (rs.imp K6) fun s' R7 K7=>⟨_,rfl,ak ⟨_,rfl,q _ _ _ _ (h D) R7 (fun v av z=>K7 v av (K6 v av z)) (.raw _)⟩⟩
end
end Mine
namespace Mine
noncomputable def wsum (wt:Nat->Nat->Nat) (a b:List Nat):Nat:=(a.flatMap fun x=>b.map fun y=>wt x y).sum
noncomputable def crW (wt:Nat->Nat->Nat) (cw:Cw) (v h:Nat):Nat:=wsum wt (e9 cw v) (e9 cw h)
noncomputable def tO (t:Nat->Nat) (a b:Nat):Bool:=decide (t a<t b)
noncomputable def j6 (W:Nat->Nat->Nat) (row:List Nat) (t:Nat->Nat):Nat->Nat:=fun h=>if h ∈ row.dropLast then t h+W (row.getLastD 0) h else t h
noncomputable def mQ (W:Nat->Nat->Nat) (late:Bool) (row:List Nat) (t:Nat->Nat):List Nat:=gI (tO (j6 W row t)) (if late=true then row.dropLast else row.dropLast.reverse)
noncomputable def kY (W:Nat->Nat->Nat) (late:Bool):Nat->List Nat->(Nat->Nat)->List Nat
 | 0,_,_=>[]
 | n+1,row,t=>row.getLastD 0::kY W late n (mQ W late row t) (j6 W row t)
noncomputable def qo (t:Nat->Nat) (hs:List Nat):List (Str×AV):=hs.map fun h=>(ltr h,.int (t h:Nat))
theorem nM {t:Nat->Nat} {h:Nat}:∀ {hs:List Nat},h ∈ hs->ie (qo t hs) (ltr h)=some (.int (t h:Nat))
 | a::hs,hm=>by
   unfold ie;show Option.map _ (List.find? _ ((ltr a,AV.int (t a:Nat))::qo t hs))=_;rw [bN];have e:decide ((ltr a,AV.int (t a:Nat)).1=ltr h)=decide (a=h):=r7 a h;rw [e];by_cases q:a=h
   ·subst q;simp
   ·rw [bB q];rcases aG.mp hm with r | r
    ·exact absurd r.symm q
    ·exact nM r
theorem w9 {t:Nat->Nat} {hs:List Nat} {h v:Nat} (hm:h ∈ hs):iZ (qo t hs) (ltr h) (.int (v:Nat))=qo (fun x=>if x=h then v else t x) hs:=by
 unfold iZ;have ha:(qo t hs).any (fun kv=>kv.1=ltr h)=true:=by
  rw [cO];exact ⟨(ltr h,.int (t h:Nat)),aE.mpr ⟨h,hm,rfl⟩,by simp⟩
 rw [ay ha];unfold qo;rw [br];refine bh fun x hx=>?_;simp only [Function.comp];by_cases e:x=h
 ·subst e;simp
 ·rw [aq fun q=>e (je q),aq e]
theorem xd {t:Nat->Nat} {hs:List Nat}:(qo t hs).length=hs.length:=az ..
theorem xN {W:Nat->Nat->Nat} {r:List Nat} (hn:r.Nodup) {t:Nat->Nat} {v i h:Nat} (hi:r[i]? = some h) :
  (fun x=>if x=h then (if h ∈ r.take i then t h+W v h else t h)+W v h else (if x ∈ r.take i then t x+W v x else t x))=fun x=>if x ∈ r.take (i+1) then t x+W v x else t x:=by
 funext x;have e:r.take (i+1)=r.take i++[h]:=by rw [bM,hi];rfl
 have hni:h ∉ r.take i:=by
  have h1:(r.take (i+1)).Nodup:=hn.sublist (List.take_sublist ..);rw [e,aJ] at h1;exact fun q=>h1.2.2 h q h (ao.mpr rfl) rfl
 rw [e];by_cases q:x=h
 ·subst q;rw [ay rfl,aq hni,ay (by simp)]
 ·rw [aq q];by_cases q2:x ∈ r.take i
  ·rw [ay q2,ay (af _ q2)]
  ·rw [aq q2,aq (by simp [q2,q])]
theorem xm (t:Nat->Nat) (r:List Nat):gI (keyLt fun a=>(t (vlt a):Int)) (r.map ltV)=(gI (tO t) r).map ltV:=by
 rw [rH];congr 2;funext a b;unfold keyLt tO;simp only [gx];exact dK.mpr Int.ofNat_lt
theorem jd (W:Nat->Nat->Nat) (late:Bool) (row:List Nat) (t:Nat->Nat):(mQ W late row t).Perm row.dropLast:=by
 unfold mQ;refine (gQ _ _).trans ?_;cases late
 ·exact List.reverse_perm _
 ·exact .refl _
theorem gM {row:List Nat} (h:row≠[]):row=row.dropLast++[row.getLastD 0]:=by
 have e:row.getLastD 0=row.getLast h:=by
  cases row with
  | nil=>exact absurd rfl h
  | cons a l=>rfl
 rw [e];exact (List.dropLast_concat_getLast h).symm
theorem gq (W:Nat->Nat->Nat) (late:Bool):∀ n row t,row.length=n->(kY W late n row t).Perm row
 | 0,row,t,h=>by rw [ck.mp h];exact .nil
 | n+1,row,t,h=>by
   have hne:row≠[]:=fun e=>by rw [e] at h;cases h
   have e:=gM hne;show (row.getLastD 0::kY W late n (mQ W late row t) (j6 W row t)).Perm row;have h1:=gq W late n (mQ W late row t) (j6 W row t) (by rw [(jd W late row t).length_eq,List.length_dropLast];lia)
   refine ((h1.trans (jd W late row t)).cons _).trans ?_;generalize hv:row.getLastD 0=v at e;rw [e,List.dropLast_concat];exact aZ (l₁:=[_])
theorem mz {K:Type} [DecidableEq K] {f:AV->K×AV} {l:List AV} (hn:(l.map fun x=>(f x).1).Nodup):dfold f l=l.map f:=by
 have:∀ (l:List AV) (acc:List (K×AV)),((acc.map (·.1))++l.map fun x=>(f x).1).Nodup->l.foldl (fun acc x=>iZ acc (f x).1 (f x).2) acc=acc++l.map f:=by
  intro l;induction l with
  | nil=>intro acc _;simp
  | cons x l ih =>
    intro acc h;have hx:(f x).1 ∉ acc.map (·.1):=fun q=>by
     rw [aJ] at h;exact h.2.2 _ q _ (aj ..) rfl
    have e:iZ acc (f x).1 (f x).2=acc++[f x]:=by
     unfold iZ;rw [aq];intro q;refine o1_3 (cO.mp q) fun p hp e=>?_;exact hx (aE.mpr ⟨p,hp,cG e⟩)
    rw [cK,e,ih]
    ·simp
    ·rw [bq,aH];exact h
 exact this l [] (by simpa using hn)
end Mine
namespace Mine
noncomputable abbrev jN:=List (Pos×Addr×Obj)
noncomputable def tabL:jN->List Value
 | []=>[]
 | x::cs=>rawInt x.1.line::rawInt x.1.col :: .ref x.2.1::tabL cs
noncomputable def fH (P:Addr) (cs:jN):List (Addr×AO):=(P,.fix (tabObj (tabL cs).toArray))::cs.map fun x=>(x.2.1,.fix x.2.2)
noncomputable def fD (qual:Str) (cs:jN):Prop:=∀ x ∈ cs,∃ vs t,x.2.2.data = .fields vs/\vs[1]? = some (.str qual t)
theorem uC:∀ cs,TriplesOk (tabL cs)
 | []=>trivial
 | _::cs=>uC cs
theorem lE:∀ a b,tabL (a++b)=tabL a++tabL b
 | [],_=>rfl
 | x::a,b=>by show _::_::_::tabL (a++b)=_;rw [lE a b];rfl
theorem m5 {pos:Pos}:∀ cs,codeAmong pos (tabL cs)=none\/∃ x ∈ cs,codeAmong pos (tabL cs)=some (.ref x.2.1)
 | []=>.inl rfl
 | x::cs=>by
   show (if (_ && _)=true then some (Value.ref x.2.1) else codeAmong pos (tabL cs))=none\/∃ y ∈ x::cs,(if (_ && _)=true then some (Value.ref x.2.1) else codeAmong pos (tabL cs))=some (.ref y.2.1)
   split
   ·exact .inr ⟨x,aj ..,rfl⟩
   ·rcases m5 cs with h | ⟨y,hy,h⟩
    ·exact .inl h
    ·exact .inr ⟨y,ai _ hy,h⟩
theorem EV.post {C:Cx} {n:Nat} {env:Env} {S:St} {e:Expr} {P P':AV->St->Prop} (k:EV C n env S e P) (h:∀ av μ M,P av ⟨μ,M⟩->∃ M',e7 M' M/\P' av ⟨μ,M'⟩):EV C n env S e P' :=
 fun A Y dZ D s Q ha R q=>k A Y dZ D s Q ha R fun r s' b S' p R' K' rr=>by
  obtain ⟨μ,M⟩:=S';refine o1_3 (h _ _ _ p) fun M' sub p'=>?_;exact q r s' b ⟨μ,M'⟩ p' (Rel.jb R' sub) (fun v av z=>sub.vr (K' v av z)) (sub.vr rr)
theorem e7.trans {A B D:List (Addr×AO)} (h:e7 A B) (k:e7 B D):e7 A D:=by
 refine o1_2 h fun R h=>?_;refine o1_2 k fun R' k=>?_;exact ⟨R++R',by rw [<- aH];exact (h.append_right R').trans k⟩
section
variable {C:Cx} (ok:C.Ok) {n:Nat} {env:Env}
include ok
theorem EV.lam {params:Arguments} {body:Expr} {scope:Scope} {pos:Pos} {c P:Addr} {cs:jN} {R:List (Addr×AO)} {μ:List (Str×AV)} {qual:Str} {clos:List (Str×Addr)} {P':AV->St->Prop} (hc:fD qual cs) (hq:env.qual ++ "<lambda>" = qual) (hcode:env.code = .ref c) (ci:jF C.K c P) (bi:BIn C)
  (hdef:defaultsOf params env=([],[])) (hcl:closureFor scope env=pure clos)
  (h:∀ f c' oc ctv cs',fD qual cs'->(∃ p,(p,c',oc) ∈ cs')->∃ M',e7 M' ((f,.fix (kla_obj "<lambda>" qual params body scope clos ((C.mg "__name__").getD .none) c' ctv))::(fH P cs'++R))/\P' (.raw (.ref f)) ⟨μ,M'⟩) :
  EV C n env ⟨μ,fH P cs++R⟩ (.Lambda params body scope pos) P':=by
 subst hq;have hM:(St.mk μ (fH P cs++R)).M[0]? = some (P,AO.fix (tabObj (tabL cs).toArray)):=rfl;have ht:TriplesOk (tabL cs).toArray.toList:=uC cs;refine EV.post (P:=fun av S'=>∃ M',e7 M' S'.M/\P' av ⟨S'.μ,M'⟩) ?_ fun av μ M h=>h;rcases m5 (pos:=pos) cs with hn | ⟨x,hx,hh⟩
 ·refine EV.Bj ok hM hcode ci bi ht hn hdef hcl fun f c' oc ctv hoc=>?_;have hok:fD (env.qual ++ "<lambda>") (cs++[(pos,c',oc)]):=fun y hy=>by
   rcases au.mp hy with hy | hy
   ·exact hc y hy
   ·rw [ao.mp hy];exact hoc
  have sub:e7 ((f,AO.fix (kla_obj "<lambda>" (env.qual ++ "<lambda>") params body scope clos ((C.mg "__name__").getD .none) c' ctv))::(fH P (cs++[(pos,c',oc)])++R)) (((St.mk μ (fH P cs++R)).M.set 0 (P,.fix (tabObj ((tabL cs).toArray ++ #[rawInt pos.line,rawInt pos.col,.ref c'])))++[(c',.fix oc)])++[(f,.fix (kla_obj "<lambda>" (env.qual ++ "<lambda>") params body scope clos ((C.mg "__name__").getD .none) c' ctv))]):=by
   refine .of (R:=[]) ?_;have e:tabL (cs++[(pos,c',oc)])=tabL cs++[rawInt pos.line,rawInt pos.col,.ref c']:=lE ..;show List.Perm (_::(((P,AO.fix (tabObj (tabL (cs++[(pos,c',oc)])).toArray))::(cs++[(pos,c',oc)]).map fun x=>(x.2.1,AO.fix x.2.2))++R)++[]) ((((P,AO.fix (tabObj ((tabL cs).toArray ++ #[rawInt pos.line,rawInt pos.col,.ref c'])))::(cs.map fun x=>(x.2.1,AO.fix x.2.2))++R)++_)++_);have e2:(tabL (cs++[(pos,c',oc)])).toArray=(tabL cs).toArray ++ #[rawInt pos.line,rawInt pos.col,.ref c']:=by rw [e];simp
   rw [e2,bf,bq];refine List.Perm.trans ?_ (aZ (l₁:=[_]));refine List.Perm.cons _ (List.Perm.cons _ ?_);show List.Perm (((cs.map _)++[(c',AO.fix oc)])++R) ((cs.map _++R)++[(c',AO.fix oc)]);rw [aH,aH];exact List.Perm.append_left _ aZ
  refine o1_3 (h f c' oc ctv _ hok ⟨pos,aa _ (aj ..)⟩) fun M' s' p'=>?_;exact ⟨M',s'.trans sub,p'⟩
 ·refine EV.Bk ok hM hcode ci bi ht hh hdef hcl fun f ctv=>?_;refine o1_3 (h f x.2.1 x.2.2 ctv _ hc ⟨x.1,hx⟩) fun M' s' p'=>?_;exact ⟨M',s'.trans (.of (R:=[]) (by rw [bf];exact aZ (l₁:=[_]))),p'⟩
theorem FC.yr {S:St} {f:Addr} {args:List AV} {P:AV->List (Addr×AO)->Prop} {x:Str} {v0:Value} (hx:S.μ.lookup x=some (.raw v0)) (hk:Own env x)
  (h:∀ c o,o.data = .cell (some v0)->env.cells.lookup x=some c->FC { C with Z:=(c,o)::C.Z } n f S.M args P):VN C n env S (fun vs=>call (.ref f) vs) args fun av S'=>S'.μ=S.μ/\P av S'.M :=
 fun A Y dZ D s vs Q ha R rv q=>dF (FCk.yr ok (kw:=[]) hx hk (fun c o hd hc env μ A Y dZ D s vs ks Q ha R rv rk q=>by
  cases rk;exact h c o hd hc env μ A Y dZ D s vs Q ha R rv q) ha R rv .nil fun v s' av S' p R' K' r=>q v s' av S' p R' K' r)
theorem FC.BG {S:St} {f:Addr} {args:List AV} {a:AV} {x:Str} {v0:Value} (hx:S.μ.lookup x=some (.raw v0)) (hk:Own env x)
  (h:∀ c o,o.data = .cell (some v0)->env.cells.lookup x=some c->FC { C with Z:=(c,o)::C.Z } n f S.M args fun av M'=>av=a/\M'=S.M):VN C n env S (fun vs=>call (.ref f) vs) args fun av S'=>av=a/\S'=S :=
 (FC.yr ok hx hk h).mono fun av S' e=>⟨e.2.1,by obtain ⟨μ1,M1⟩:=S';obtain ⟨μ2,M2⟩:=S;exact congr (congrArg St.mk e.1) e.2.2⟩
theorem KCall.ofX {S:St} {f:Addr} {args:List AV} {kw:List (Str×AV)} {P:AV->List (Addr×AO)->Prop} {x:Str} {v0:Value} (hx:S.μ.lookup x=some (.raw v0)) (hk:Own env x)
  (h:∀ c o,o.data = .cell (some v0)->env.cells.lookup x=some c->FCk { C with Z:=(c,o)::C.Z } n f S.M args kw P):KCall C n env S f args kw fun av S'=>S'.μ=S.μ/\P av S'.M :=
 fun A Y dZ D s vs ks Q ha R rv rk q=>FCk.yr ok hx hk h ha R rv rk q
theorem EV.xr {S:St} {x:Str} {e ke:Expr} {p pos kp:Pos} {P:AV->St->Prop} (hf:PE C (n+2) env S (.Name x p) (.raw (.builtin "sorted")))
  (h:EL C (n+2) env S pos [e] fun l d7=>EV C (n+2) env d7 ke fun fav eG=>∃ f κ r a,l=[a]/\fav = .raw (.ref f)/\(a = .lst r\/∃ b,a = .raw (.ref b)/\(b,AO.list r) ∈ eG.M)/\r.length<=4 /\
   (∀ c ∈ r,∀ ex:List (Addr×AO),VN C n env ⟨eG.μ,ex++eG.M⟩ (fun vs=>call (.ref f) vs) [c] fun av S'=>av = .int (κ c)/\S'=⟨eG.μ,ex++eG.M⟩)/\∀ D,P (.raw (.ref D)) ⟨eG.μ,(D,.list (gI (keyLt κ) r))::eG.M⟩)
  (he:backTo pos (starEach [e] env)=(false,eval e env)::backTo pos (starEach [] env):=by rfl) (hplain:(backTo pos (starEach [e] env)).any (·.1)=false:=by rfl):EV C (n+2) env S (.Call (.Name x p) [e] [⟨some "key", ke,kp⟩] pos) P :=
 fun A Y dZ D s Q ha R q=>cL (G.at hf ha R fun g ee d9 eE fy=>by
  refine VR.fM fy ?_;refine callWith_kw ?_ he hplain;have h1:=h A Y dZ D ee (fun vs d8=>wpAny (model C.prog C.w) A (evalAll ((backToKw pos (keywordEach [⟨some "key", ke,kp⟩] env)).map (·.2))) (fun ks ez=>wpAny (model C.prog C.w) A (call (.builtin "sorted") vs (((backToKw pos (keywordEach [⟨some "key", ke,kp⟩] env)).filterMap (·.1)).zip ks)) Q No ez) No d8) ha d9 fun vs d8 l eG fh eB eN fz=>by
   refine wpAny_evalAll_cons (ah (fh A Y dZ D d8 _ ha eB fun kv ez kav fk fF eV fG f7=>ah (bY (ak ?_))));refine wpAny_evalAll_nil ?_;refine o4_10 fF fun f κ r a rf4 rf5 ha2 hz hkey hP=>?_;clear fF;subst rf4;subst rf5;refine VRs.eW (fG.all fz) fun v _ rv rn=>VRs.fN rn ?_;refine VR.fM f7 ?_;exact tC ok ha2 hkey hz hP ha eV rv fun v s' av S' pp R' K' r=>q v s' av S' pp R' (((eE.trans eN).trans fG).trans K') r
  exact h1)
end
end Mine
namespace Mine
theorem uU {α:Type} {p:α}:∀ {M:List α} {i:Nat},M[i]? = some p->(p::M.eraseIdx i).Perm M
 | [],_,h=>by simp at h
 | x::M,0,h=>by simp at h;subst h;exact .refl _
 | x::M,i+1,h=>(List.Perm.swap x p _).trans ((uU (M:=M) (i:=i) (by simpa using h)).cons x)
theorem e7.refl (M:List (Addr×AO)):e7 M M:=.of (R:=[]) (by rw [bf])
theorem e7.at {M' M:List (Addr×AO)} {p:Addr×AO} (i:Nat) (h:M[i]? = some p) (k:e7 M' (M.eraseIdx i)):e7 (p::M') M:=by
 refine o1_2 k fun R k=>?_;refine ⟨R,(k.cons p).trans ?_⟩;exact uU h
theorem e7.drop {M' M:List (Addr×AO)} {p:Addr×AO} (k:e7 M' M):e7 M' (p::M):=by
 refine o1_2 k fun R k=>?_;exact ⟨R++[p],by rw [<- aH];exact (aZ).trans (k.cons p)⟩
theorem e7.last {M' M:List (Addr×AO)} {p:Addr×AO} (k:e7 M' (p::M)):e7 M' (M++[p]):=by
 refine o1_2 k fun R k=>?_;exact ⟨R,k.trans (aZ (l₁:=[_]))⟩
theorem e7.mid (A B:List (Addr×AO)) {R M':List (Addr×AO)} (k:e7 M' (A++(B++R))):e7 M' (B++(A++R)):=by
 refine o1_2 k fun T k=>?_;refine ⟨T,k.trans ?_⟩;rw [<- aH,<- aH];exact List.Perm.append_right _ aZ
theorem sV {kindOf:Str->Option NameKind} {x:Str}:∀ {bs:List (Str×Value)} {m:Str->Option Value},(∀ x ∈ bs,kindOf x.1=some .local\/kindOf x.1=some .cell)->kindOf x=some .local->bindL kindOf bs m x=(bs.reverse.lookup x).or (m x)
 | [],m,_,_=>rfl
 | (n,v)::r,m,h,hx=>by
   unfold bindL;rw [sV (fun y hy=>h y (ai _ hy)) hx];simp only [List.reverse_cons,cN];cases r.reverse.lookup x with
   | some u=>rfl
   | none =>
     simp only [Option.none_or,List.lookup];by_cases e:x=n
     ·subst e;rw [ay hx];simp
     ·have:(x == n)=false:=aY.mpr e;by_cases hn:kindOf n=some .local
      ·rw [ay hn];simp [this,e]
      ·rw [aq hn];simp [this]
theorem sW {kindOf:Str->Option NameKind} {x:Str}:∀ {bs:List (Str×Value)} {m:Str->Option Value},(∀ x ∈ bs,kindOf x.1=some .local\/kindOf x.1=some .cell)->kindOf x=some .cell->bindC kindOf bs m x=(bs.reverse.lookup x).or (m x)
 | [],m,_,_=>rfl
 | (n,v)::r,m,h,hx=>by
   unfold bindC;rw [sW (fun y hy=>h y (ai _ hy)) hx];simp only [List.reverse_cons,cN];cases r.reverse.lookup x with
   | some u=>rfl
   | none =>
     simp only [Option.none_or,List.lookup];by_cases e:x=n
     ·subst e;rw [aq (by rw [hx];simp)];simp
     ·have:(x == n)=false:=aY.mpr e;by_cases hn:kindOf n=some .local
      ·rw [ay hn];simp [this]
      ·rw [aq hn];simp [this,e]
theorem mh {C:Cx} (ok:C.Ok) {n:Nat} {f:Addr} {fd:FuncData} {body:List Stmt} {M:List (Addr×AO)} {args:List AV} {ab:List (Str×AV)} {P:AV->List (Addr×AO)->Prop} (F:Aw C f fd body)
  (hcell:∀ x ∈ fd.scope.names,x.2 = .cell->fd.scope.names.lookup x.1=some .cell) (hnd:((fd.scope.names.filter (·.2 == .cell)).map (·.1)).Nodup) (hclo:fd.closure=[])
  (hbind:∀ vs,vs.length=args.length->∃ bs,bindArgs fd ⟨vs,[]⟩=pure bs/\∀ h X,VRs h X vs args->PRs h X bs ab)
  (hloc:∀ x ∈ ab.map (·.1),fd.scope.names.lookup x=some .local\/fd.scope.names.lookup x=some .cell)
  (h:∀ L,EX C n (callEnvC fd L f) ⟨ab.reverse,M⟩ body (Out P)):FC C (n+1) f M args P:=by
 intro env μ A Y dZ D s vs Q ha R rv q;refine o1_3 F.obj fun o ho hd=>?_;refine o4_8 F.code fun c oc cvs t e1 e2 e3 e4=>?_;refine o1_3 (hbind vs rv.length) fun bs hb rb'=>?_;have rb:=rb' _ _ rv;have hlocB:∀ x ∈ bs,fd.scope.names.lookup x.1=some .local\/fd.scope.names.lookup x.1=some .cell:=fun x hx=>hloc _ (by rw [<- rb.keys];exact aE.mpr ⟨x,hx,rfl⟩)
 have inCells:∀ x,fd.scope.names.lookup x=some .cell->((cellsFrom (s.heap.objs.size+1) fd.scope.names []).lookup x).isSome=true:=fun x hx=>by
  have hm:x ∈ (cellsFrom (s.heap.objs.size+1) fd.scope.names []).map (·.1):=by
   rw [gp,dX,bf,cy];exact aE.mpr ⟨(x,.cell),cH.mpr ⟨mem_of_lookup hx,rfl⟩,rfl⟩
  refine o1_3 (aE.mp hm) fun p hp rf2=>?_;subst rf2;cases e:(cellsFrom (s.heap.objs.size+1) fd.scope.names []).lookup p.1 with
  | some c'=>rfl
  | none=>rw [List.lookup_eq_none_iff] at e;exact absurd (e p hp) (by simp)
 refine (codeAny_call_cells (binds:=bs) (by have:=ha.depth;show A.depth<1000;lia) (R.bs.K _ _ ho) hd R.bs.lim ⟨c,oc,cvs,t,e1,R.bs.K _ _ e2,e3,e4⟩ F.body hb hclo
  (fun x hx=>(hlocB x hx).imp id fun h=>⟨h,inCells _ h⟩) (fun ee X=>?_) F.co F.gen F.kind)
 refine o2_3 X.toInCall.same fun iJ tk es=>?_;have x:fC C.T [] s ee:=by subst es;exact ⟨.of_keeps X.toInCall.keep,rfl,rfl,id⟩
 have cellMem:∀ p ∈ (callEnvC fd s.heap.objs.size f).cells,(p.1,NameKind.cell) ∈ fd.scope.names:=fun p hp=>by
  rcases g4 (show p ∈ cellsFrom (s.heap.objs.size+1) fd.scope.names [] from hp) with z | z
  ·cases z
  ·exact z
 have cellKind:∀ p ∈ (callEnvC fd s.heap.objs.size f).cells,(callEnvC fd s.heap.objs.size f).kindOf p.1=some .cell:=fun p hp=>hcell _ (cellMem p hp) rfl;have efa:fa (callEnvC fd s.heap.objs.size f)=s.heap.objs.size::(callEnvC fd s.heap.objs.size f).cells.map (·.2):=by
  have:(callEnvC fd s.heap.objs.size f).cells.filter (fun p=>(callEnvC fd s.heap.objs.size f).kindOf p.1 == some .cell && (callEnvC fd s.heap.objs.size f).func.isSome)=(callEnvC fd s.heap.objs.size f).cells:=by
   rw [List.filter_eq_self];intro p hp;rw [cellKind p hp];rfl
  unfold fa;rw [this];rfl
 have memC:∀ b,b ∈ (callEnvC fd s.heap.objs.size f).cells.map (·.2)->∃ nm,(nm,b) ∈ (callEnvC fd s.heap.objs.size f).cells:=fun b hb=>by
  refine o1_3 (aE.mp hb) fun p hp rf2=>?_;subst rf2;exact ⟨p.1,hp⟩
 have dead:∀ b,s.heap.objs.size<=b->s.heap.get? b=none:=fun b hb=>by
  cases e:s.heap.get? b with
  | none=>rfl
  | some o=>exact absurd (bH e) (Nat.not_lt.mpr hb)
 have hf:∀ b ∈ fa (callEnvC fd s.heap.objs.size f),s.heap.get? b=none:=fun b hb=>by
  rw [efa] at hb;rcases aG.mp hb with rfl | hb
  ·exact eH _
  ·refine o1_2 (memC b hb) fun nm hm=>?_;exact dead b (Nat.le_of_lt (X.above nm b hm))
 have lookC:∀ p ∈ (callEnvC fd s.heap.objs.size f).cells,∃ c',(callEnvC fd s.heap.objs.size f).cells.lookup p.1=some c':=fun p hp=>by
  cases e:(callEnvC fd s.heap.objs.size f).cells.lookup p.1 with
  | some c'=>exact ⟨c',rfl⟩
  | none=>rw [List.lookup_eq_none_iff] at e;exact absurd (e p hp) (by simp)
 have d9:Rel C (fa env++Y) s (fj M) (callEnvC fd s.heap.objs.size f) ⟨ab.reverse,M⟩ ee:=by
  refine R.enter (S:=⟨μ,M⟩) ok x hf (fun b hb=>?_) ?_ ⟨F.kind,F.glob,F.wV,fun y ky=>F.more (y,.free) (mem_of_lookup ky) rfl⟩ ⟨⟨_,X.toInCall.ns,fun y av e k=>?_⟩,fun y av e k=>?_,fun y c k e=>⟨_,X.cell y c e⟩,fun y av e=>?_⟩ (fun y c k e=>?_)
  ·rw [efa] at hb;rcases aG.mp hb with rfl | hb
   ·refine o3_5 X.toInCall.ns fun o _ _ q _=>?_;exact ⟨o,q⟩
   ·refine o1_2 (memC b hb) fun nm hm=>?_;have nd:((callEnvC fd s.heap.objs.size f).cells.map (·.1)).Nodup:=by
     show ((cellsFrom (s.heap.objs.size+1) fd.scope.names []).map (·.1)).Nodup;rw [gp,dX,bf];exact List.pairwise_reverse.mpr (hnd.imp fun h=>h.symm)
    refine o1_3 (X.cell nm b (iP nd hm)) fun o e _=>?_;exact ⟨o,e⟩
  ·rw [efa,bV];refine ⟨fun h=>?_,?_⟩
   ·refine o1_2 (memC _ h) fun nm hm=>?_;exact dP _ (X.above nm _ hm)
   ·exact List.pairwise_map.mpr X.apart
  ·refine o1_3 (rb.rev.look e) fun v e1 r=>?_;refine ⟨v,?_,(r.sub (enterX hf)).stp x.heap (fun _ h=>nomatch h) (fun a h=>af _ h)⟩;rw [sV hlocB k,e1];rfl
  ·refine o1_3 (rb.rev.look e) fun v e1 r=>?_;have hm:y ∈ ab.map (·.1):=aE.mpr ⟨(y,av),cy.mp (mem_of_lookup e),rfl⟩;have kc:(callEnvC fd s.heap.objs.size f).kindOf y=some .cell:=by
    rcases hloc y hm with z | z
    ·have kl:(callEnvC fd s.heap.objs.size f).kindOf y=some .local:=z;rw [kl] at k;rcases k with k | k <;> cases k
    ·exact z
   refine o1_2 (cY.mp (inCells y kc)) fun c hc=>?_;refine o1_3 (X.cell y c hc) fun o ho hd=>?_;rw [sW hlocB kc,e1] at hd;exact ⟨c,v,hc,⟨o,ho,hd⟩,(r.sub (enterX hf)).stp x.heap (fun _ h=>nomatch h) (fun a h=>af _ h)⟩
  ·rcases hloc y (aE.mpr ⟨(y,av),cy.mp (mem_of_lookup e),rfl⟩) with z | z
   ·exact .inl z
   ·exact .inr (.inl z)
  ·exfalso;have hk:=cellKind _ (mem_of_lookup e);rcases k with k | k
   ·rw [hk] at k;cases k
   ·have:(callEnvC fd s.heap.objs.size f).func.isSome=true:=rfl;rw [this] at k;cases k.2
 refine bx (h s.heap.objs.size (A.deeper (callEnvC fd s.heap.objs.size f)) _ _ _ _ (fun fl s'=>Q (.ok (.ret (match fl with | .ret v=>v | _=>.none))) s') (ha.deeper _) d9 fun r s' b S' p R' K' rr=>?_) (fun fl s' z=>?_) fun _ _ e=>e.elim
 ·refine o0_3 (R.leave (S:=⟨μ,M⟩) ok R') fun Ra Ka Va=>?_;cases rr with
  | next=>exact q _ _ _ ⟨μ,S'.M⟩ ⟨rfl,p⟩ Ra Ka .none
  | brk=>exact q _ _ _ ⟨μ,S'.M⟩ ⟨rfl,p⟩ Ra Ka .none
  | cont=>exact q _ _ _ ⟨μ,S'.M⟩ ⟨rfl,p⟩ Ra Ka .none
  | ret r=>exact q _ _ _ ⟨μ,S'.M⟩ ⟨rfl,p⟩ Ra Ka (Va _ _ r)
 ·cases fl <;> exact z
section
variable {C:Cx} (ok:C.Ok) {n:Nat} {env:Env} {S:St}
include ok
theorem EV.Bc {elt i i':Expr} {tx ty:Str} {px py:Pos} {scope:Scope} {pos:Pos} {l:List AV} {fc:List (Addr×AO)} {μc:List (Str×AV)} {a':AV->AV} {l':AV->List AV} {f:AV->AV->AV} {P:AV->St->Prop} (cs:rA scope env)
  (hkx:∀ L,(g6 scope env L).kindOf tx=some .local) (hky:∀ L,(g6 scope env L).kindOf ty=some .local) (hfr:∀ p ∈ μc,p.1≠tx/\p.1≠ty) (hxy:tx≠ty)
  (h:EV C n env S i fun a d7=>f6 C n env d7 a l fc (.Name tx px)/\(∀ p ∈ fc,p ∈ d7.M)/\(∀ L,Cap env (g6 scope env L) d7 μc) /\
   (∀ D acc L,∀ x ∈ l,PE C n (g6 scope env L) ⟨ins tx x μc,(D,.list acc)::d7.M⟩ i' (a' x)/\Iter C n (g6 scope env L) ⟨ins tx x μc,(D,.list acc)::d7.M⟩ (a' x) (l' x)) /\
   (∀ D acc L,∀ x ∈ l,∀ y ∈ l' x,PE C n (g6 scope env L) ⟨ins ty y (ins tx x μc),(D,.list acc)::d7.M⟩ elt (f x y))/\P (.lst (l.flatMap fun x=>(l' x).map (f x))) d7)
  (hz:l.length<=100) (hz':∀ x ∈ l,(l' x).length<=100) (hs:∀ x,foldedSetIterable i env x=pure x:=by intro _;rfl) (hs':∀ L x,foldedSetIterable i' (g6 scope env L) x=pure x:=by intro _ _;rfl) :
  EV C n env S (.ListComp elt [⟨.Name tx px,i,[],0⟩,⟨.Name ty py,i',[],0⟩] scope pos) P:=by
 have hlen:∀ r:List AV,(∀ x ∈ r,(l' x).length<=100)->(r.flatMap fun x=>(l' x).map (f x)).length<=100 * r.length:=by
  intro r;induction r with
  | nil=>intro _;simp
  | cons x r ih =>
    intro hr;have:=ih fun y hy=>hr y (ai _ hy);have h2:=hr x (aj ..);rw [bQ,bl,az,bg];lia
 refine EV.frozen (EV.yl ok (eval_ListComp ..) rfl mkL (fun D L=>yo) cs (G.mono h fun a d7 p=>?_) hs);refine o0_6 p fun pf pm pc pi pe pP=>?_;clear p;obtain ⟨CW,M⟩:=d7;refine ⟨l,fc,μc,fun D L j S=>S=⟨μc,(D,.list ((l.take j).flatMap fun x=>(l' x).map (f x)))::M⟩,pf,⟨pc,fun D L=>rfl,fun D L j S e p hp=>e▸ai _ (pm p hp),fun D L j S x hx e=>?_⟩,fun D L S' e=>?_⟩
 ·subst e;have hxl:=aV hx;have hjl:=(aM.mp hx).1;have hacc:((l.take j).flatMap fun x=>(l' x).map (f x)).length<=10000:=bC (hlen _ fun x hx=>hz' x (List.mem_of_mem_take hx)) (by have:(l.take j).length<=l.length:=List.length_take_le' ..;lia)
  generalize hA:((l.take j).flatMap fun x=>(l' x).map (f x))=acc at *;have takes:(l.take (j+1)).flatMap (fun x=>(l' x).map (f x))=acc++(l' x).map (f x):=by
   rw [bM,hx,c8,hA];simp
  refine TG.loc ok ?_ (hkx L);refine CT.nil ?_;rw [ay rfl];refine yC ok ym (l:=l' x) (fc:=[]) (fun k S=>S=⟨ins tx x μc,(D,.list (acc++((l' x).take k).map (f x)))::M⟩) (PE.then (pi D acc L x hxl).1 ⟨f6.of (.name _ _) (pi D acc L x hxl).2,?_⟩) (fun _ _ _ _ h=>nomatch h) (fun k S y hy e=>?_) (fun d7 e=>?_) (hs' L)
  ·simp
  ·subst e;have hyl:=aV hy;refine TG.loc ok ?_ (hky L);refine CT.nil ?_;rw [ay rfl];refine EM.append (PE.then (pe D _ L x hxl y hyl) ⟨_,rfl,?_,⟨ins tx x μc,(D,.list (acc++((l' x).take (k+1)).map (f x)))::M⟩,⟨?_,fun z w hz=>?_⟩,rfl⟩) ok
   ·have:=hz' x hxl;have e2:((l' x).take k).length<=(l' x).length:=List.length_take_le' ..;rw [bl,az];unfold sizeLine;lia
   ·rw [bM,hy];simp
   ·show (ins ty y (ins tx x μc)).lookup z=some w;have hz2:(ins tx x μc).lookup z=some w:=hz;rw [fq,aq]
    ·exact hz2
    ·intro e;rw [e,fq,aq (fun h=>hxy h.symm)] at hz2;exact (hfr _ (mem_of_lookup hz2)).2 rfl
  ·subst e;refine ⟨⟨μc,(D,.list ((l.take (j+1)).flatMap fun x=>(l' x).map (f x)))::M⟩,⟨?_,fun z w hz=>?_⟩,rfl⟩
   ·rw [takes,bP]
   ·show (ins tx x μc).lookup z=some w;rw [fq,aq fun e=>(hfr _ (mem_of_lookup hz)).1 e];exact hz
 ·subst e;refine ⟨D,_,M,rfl,rfl,?_⟩;rw [bP];exact pP
theorem sZ {o lo:Expr} {p pos:Pos} {x:Str} {i:Int} (ho:PE C n env S o (.str x)) (hi:PE C n env S lo (.int i)) (hz:x.length<=sizeLine)
  (hs:∀ o' i',subscripted (.Slice (some lo) none none p) false o' i'=operate [i',o'] (getItem o' i'):=by intros;rfl):PE C n env S (.Subscript o (.Slice (some lo) none none p) pos) (.str (Txt.slice x (some i) none)) :=
 fun A Y dZ D s Q ha R q=>Subscript_ (G.at ho ha R fun v ee d9 eE fy=>by
  refine VR.fO fy fun t=>?_;refine dU ?_;rw [dD];refine G.at hi ha d9 fun v d8 eB eN fz=>?_;refine VR.ff fz fun u=>?_;rw [c7];refine ak (ak ?_);refine tail_any (dG _ x t) PySem.F.slot_str_getitem.lookup (wpAny_getItem_str_slice (l:=some (i,u)) (u:=none) (st:=none) ⟨_,aI _ rfl,rfl,rfl⟩ rfl ?_) (hs _ _);exact post_val_or_str ⟨bC (cM x _ _) hz,fun t' k=>q _ _ _ S ⟨rfl,rfl⟩ ((eB.go ok (.alloc ..)).go ok (.toks ..)) ((eE.trans eN).trans (Kp.go eB ((fC.alloc ..).gP (.toks ..)))) (.str ..)⟩)
theorem yY {o hi:Expr} {p pos:Pos} {x:Str} {j:Int} (ho:PE C n env S o (.str x)) (hj:PE C n env S hi (.int j)) (hz:x.length<=sizeLine)
  (hs:∀ o' i',subscripted (.Slice none (some hi) none p) false o' i'=operate [i',o'] (getItem o' i'):=by intros;rfl):PE C n env S (.Subscript o (.Slice none (some hi) none p) pos) (.str (Txt.slice x none (some j))) :=
 fun A Y dZ D s Q ha R q=>Subscript_ (G.at ho ha R fun v ee d9 eE fy=>by
  refine VR.fO fy fun t=>?_;refine dU ?_;rw [c7];refine ak ?_;rw [dD];refine G.at hj ha d9 fun v d8 eB eN fz=>?_;refine VR.ff fz fun u=>?_;refine ak ?_;refine tail_any (dG _ x t) PySem.F.slot_str_getitem.lookup (wpAny_getItem_str_slice (l:=none) (u:=some (j,u)) (st:=none) ⟨_,aI _ rfl,rfl,rfl⟩ rfl ?_) (hs _ _);exact post_val_or_str ⟨bC (cM x _ _) hz,fun t' k=>q _ _ _ S ⟨rfl,rfl⟩ ((eB.go ok (.alloc ..)).go ok (.toks ..)) ((eE.trans eN).trans (Kp.go eB ((fC.alloc ..).gP (.toks ..)))) (.str ..)⟩)
end
end Mine
namespace Mine
noncomputable def x7:Nat->Addr
 | 0=>269 | 1=>276 | 2=>283 | 3=>290 | _=>297
noncomputable def CJ:Nat->List (Nat×Str)
 | 0=>yX | 1=>BY | 2=>BX | 3=>Tcc | _=>Tac
noncomputable def esc (way:Nat) (x:Str):Str:=Av (CJ way) x
noncomputable def CX:List Str:=["\t", "", "&", "<", ">", "\"", "&<", "\">"]
noncomputable def jH (t:Nat):Str:=CX.getD t ""
noncomputable def wrL:List Str:=["&<>", "&<>\"\t", "&>\"", "&<>", "&<\"\t"]
noncomputable def B5 (way:Nat):Str:=wrL.getD way ""
noncomputable def uQ (way:Nat):List (Str×Str):=[("&", "&amp;"),("<", "&lt;"),(">", "&gt;"),("\"", "&quot;"),("\t", if way=1 then "&#09;" else "&#x9;")]
noncomputable def uP (way:Nat) (c:Str):Str:=((uQ way).lookup c).getD ""
noncomputable def jS (way:Nat) (c:Str):Str:=if Txt.contains (B5 way) c then uP way c else c
noncomputable def spF (way:Nat):AV->Option AV
 | .str c=>some (.str (jS way c))
 | _=>none
noncomputable def ja (t way:Nat):Str:=esc way (jH t)
theorem rI:∀ t,t<8->∀ way,way<5->Txt.join "" ((jH t).cps.toList.map fun c=>jS way ⟨#[c]⟩)=ja t way/\(ja t way).length<=11:=by decide +kernel
theorem AJ:∀ t,t<8->∀ way,way<5->(((jH t).cps.toList.map fun c=>jS way ⟨#[c]⟩).map (·.length)).sum+((jH t).cps.toList.map fun c=>jS way ⟨#[c]⟩).length<=1048576:=by decide +kernel
theorem xq:∀ t,t<8->∀ c ∈ (jH t).cps.toList,c=9\/c=38\/c=60\/c=62\/c=34:=by decide +kernel
theorem zl (way:Nat) (l:List Nat):(l.map fun c=>AV.str ⟨#[c]⟩).filterMap (spF way)=(l.map fun c=>jS way ⟨#[c]⟩).map AV.str:=by
 induction l with
 | nil=>rfl
 | cons a l ih=>rw [aU,cj (f:=spF way) (b:=AV.str (jS way ⟨#[a]⟩)) rfl,ih];rfl
section
variable {C:Cx} {n:Nat} {env:Env} {S:St}
theorem EV.BH {f:Addr} {v sl:Expr} {e:Expr} {es:List Expr} {p pos:Pos} {P:AV->St->Prop} (hf:PE C n env S (.Subscript v sl p) (.raw (.ref f))) (hk:keepIn C.K (.ref f)=true)
  (h:EL C n env S pos (e::es) fun l d7=>VN C n env d7 (fun vs=>call (.ref f) vs) l P)
  (he:starEach (e::es) env=(false,eval e env)::starEach es env:=by rfl) (hplain:(backTo pos (starEach es env)).any (·.1)=false:=by rfl):EV C n env S (.Call (.Subscript v sl p) (e::es) [] pos) P :=
 fun A Y dZ D s Q ha R q=>ah (G.at hf ha R fun g ee d9 eE fy=>by
  refine VR.fM fy ?_;refine callWith_K (h₀:=ee.heap) d9.bs.K hk ?_ he hplain;exact h A Y dZ D ee _ ha d9 fun vs d8 l eG fh eB eN fz=>⟨eB.bs.K,fh A Y dZ D d8 vs Q ha eB fz fun r ez b fk fF eV fG f7=>q r ez b fk fF eV ((eE.trans eN).trans fG) f7⟩)
end
section
variable {w:World} {mg mb:Str->Option Value} {Z:Frag} (g:GA w mg mb)
include g
theorem zQ {n:Nat} {M:List (Addr×AO)} {way:Nat} {x:Str} (hw:way<5) (hx:x.length<=60):FN (CA w mg mb Z) (n+1) (x7 way) M [.str x] (fun a M'=>a = .str (esc way x)/\M'=M):=by
 have hw5:way=0\/way=1\/way=2\/way=3\/way=4:=or5 _ (by first | assumption | lia)
 rcases hw5 with rfl | rfl | rfl | rfl | rfl
 ·exact vS g (by unfold qc;lia)
 ·exact tS g (by unfold qc;lia)
 ·exact ye g (by unfold qc;lia)
 ·exact Bw g (by unfold qc;lia)
 ·exact Bx g (by unfold qc;lia)
theorem vK {way:Nat} (hw:way<5):keepIn (CA w mg mb Z).K (.ref (x7 way))=true:=by
 have hw5:way=0\/way=1\/way=2\/way=3\/way=4:=or5 _ (by first | assumption | lia)
 rcases hw5 with rfl | rfl | rfl | rfl | rfl <;> rfl
theorem PE.CK {n:Nat} {env:Env} {S:St} {v sl:Expr} {e:Expr} {p pos:Pos} {way:Nat} {x:Str} (hw:way<5) (hx:x.length<=60) (hf:PE (CA w mg mb Z) (n+1) env S (.Subscript v sl p) (.raw (.ref (x7 way)))) (he:PE (CA w mg mb Z) (n+1) env S e (.str x))
  (hs:starEach [e] env=(false,eval e env)::starEach [] env:=by rfl):PE (CA w mg mb Z) (n+1) env S (.Call (.Subscript v sl p) [e] [] pos) (.str (esc way x)) :=
 EV.BH hf (vK g hw) ((PL.cons he PL.nil hs).then (((zQ g hw hx (n:=n) (M:=S.M)) env S.μ).mono fun a S' e=>⟨e.2.1,by obtain ⟨μ,M⟩:=S';refine o0_3 e fun e1 _ e3=>?_;clear e;cases e1;cases e3;rfl⟩)) hs
theorem tB {n:Nat} {M:List (Addr×AO)} {t way:Nat} (ht:t<8) (hw:way<5):FC (CA w mg mb Z) (n+1) 302 M [.str (jH t),.int way] (fun av M'=>av = .str (ja t way)/\∃ p,M'=M++[p]):=by
 have ok:=okA (Z:=Z) g;have hw5:way=0\/way=1\/way=2\/way=3\/way=4:=or5 _ (by first | assumption | lia)
 refine mh ok (ab:=[("text", .str (jH t)),("way", .int way)]) ⟨⟨_,rfl,rfl⟩,⟨_,_,_,_,rfl,rfl,rfl,rfl⟩,rfl,rfl,rfl,(fun x c h=>by cases h),rfl,rfl,rfl,by decide⟩ (by decide) (by decide) rfl ?hb (by intro x hx;simp at hx;rcases hx with rfl | rfl <;> exact .inl rfl) ?_
 case hb =>
  intro vs hv;refine o2_4 (len_cons hv) fun v _ rf2 e1=>?_;subst rf2;refine o2_4 (len_cons e1) fun u _ rf2 e2=>?_;subst rf2;cases len_nil e2;exact ⟨_,rfl,fun h X r=>.cons r.hd (.cons r.tl.hd .nil)⟩
 intro L;refine EX.cons ?_;refine E1.cell ok ?_;refine EV.CP (l:=uQ 0) ok ?_ ?_ ?_ ?_
 ·exact .cons (.cons (.cons (.cons (.cons .nil))))
 ·rfl
 ·decide
 intro a;refine EX.cons ?_;refine G.mono (P:=fun f S'=>f = .next/\∃ l,(∀ c,c=9\/c=38\/c=60\/c=62\/c=34->ie l ⟨#[c]⟩=some (.str (uP way ⟨#[c]⟩)))/\S'=⟨[("way", .int way),("text", .str (jH t)),("refs", .raw (.ref a))],M++[(a,.eY l)]⟩) (E1.ite ((PT.cmp (b:=.int 1) (PE.name rfl) (PE.int ok) (O.eq ok)).then ?_)) ?_
 ·by_cases h1:way=1
  ·subst h1;rw [ay (by decide)]
   refine EX.cons ?_;refine jt ok (sK _) ((PE.str ok).then ⟨M.length,a,_,"\t", List.getElem?_concat_length,by decide,PE.name rfl,PE.str ok,?_⟩)
   refine EX.nil ⟨rfl,iZ (Ag (uQ 0)) "\t" (.str "&#09;"),?_,congr (congrArg St.mk rfl) (by simp [sK])⟩
   intro c hc;rcases hc with rfl | rfl | rfl | rfl | rfl <;> rfl
  ·rw [aq (by simp;lia)]
   refine EX.nil ⟨rfl,_,?_,rfl⟩;intro c hc;rcases hw5 with rfl | rfl | rfl | rfl | rfl
   ·rcases hc with rfl | rfl | rfl | rfl | rfl <;> rfl
   ·exact absurd rfl h1
   ·rcases hc with rfl | rfl | rfl | rfl | rfl <;> rfl
   ·rcases hc with rfl | rfl | rfl | rfl | rfl <;> rfl
   ·rcases hc with rfl | rfl | rfl | rfl | rfl <;> rfl
 ·intro f S' hz;refine o0_2 hz fun rf0 zz=>?_;refine o1_3 zz fun l hl rf3=>?_;clear hz;subst rf0;subst rf3;refine EX.cons ?_;refine E1.cell ok ?_;refine PE.then (PE.sub (PE.tuple ok (PL.cons (PE.str ok) (PL.cons (PE.str ok) (PL.cons (PE.str ok) (PL.cons (PE.str ok) (PL.cons (PE.str ok) PL.nil))))) (by simp only [bg,bO];decide)) (PE.name rfl) (O.nS (j:=way) (c:=.str (B5 way)) ok ?_ ?_ (by lia) (by lia))) ?_
  ·rw [seqIndex_of (by lia) (by simp;lia)];simp
  ·rcases hw5 with rfl | rfl | rfl | rfl | rfl <;> rfl
  refine EX.cons ?_;refine E1.ret ?_;refine EV.join ok (PE.str ok) (by decide) ?_
  refine EV.tM ok (l:=chars (jH t)) (fc:=[]) (μc:=[("refs", .raw (.ref a)),("written", .str (B5 way))]) (f:=spF way) ⟨rfl,by decide,rfl,by decide,by decide⟩ (PE.then (PE.name rfl) ⟨f6.of (.name _ _) (Iter.str ok),fun p hp=>(nomatch hp),fun L'=>?_,fun D acc L' x hx=>?_,?_⟩) ?_
  ·refine Cap.cons rfl rfl (.inl rfl) (.inl rfl) (Cap.cons rfl rfl (.inl rfl) (.inl rfl) Cap.nil)
  ·refine o1_3 (aE.mp hx) fun c hc rf2=>?_;subst rf2;have hcs:=xq t ht c hc;refine Step.some (y:=.str (jS way ⟨#[c]⟩)) ?_;refine TG.name ok (.inl rfl) ?_;refine CT.nil ⟨rfl,?_⟩;refine EV.CI ((PT.cmp (PE.name rfl) (PE.name rfl) (O.ins ok)).then ?_)
   by_cases hcn:Txt.contains (B5 way) ⟨#[c]⟩=true
   ·rw [ay hcn];refine PE.then (PE.sub (PE.name rfl) (PE.name rfl) (O.k6 ok (sK _) (x:=⟨#[c]⟩) (ai _ (aa _ (ao.mpr rfl))) (hl c hcs) (fun t u h=>?_))) ⟨?_,Le.pre (ν:=[("sign", .str ⟨#[c]⟩)])⟩
    ·rfl
    ·unfold jS;rw [ay hcn]
   ·rw [aq hcn];refine PE.then (PE.name rfl) ⟨?_,Le.pre (ν:=[("sign", .str ⟨#[c]⟩)])⟩
    unfold jS;rw [aq hcn]
  ·unfold chars;rw [zl];refine ⟨_,rfl,AJ t ht way hw,?_⟩;rw [(rI t ht way hw).1];exact ⟨rfl,_,rfl⟩
  ·have:∀ t,t<8->(chars (jH t)).length<=1000000:=by decide
   exact this t ht
end
end Mine
end
section
open PySem PySem.W PySem.Calls PyProof.Rows PySem.Builtin.Str
set_option tactic.hygienic false
namespace Mine
theorem qb (x y:Str) (i:Nat):StrLaws.At x y x.length i↔∃ A B,x.cps.toList=A++y.cps.toList++B/\A.length=i:=by
 unfold StrLaws.At;rw [StrLaws.subAt_eq,cI,len_eq y,len_eq x];constructor
 ·intro hz;refine o0_2 hz fun h1 h2=>?_;clear hz;refine ⟨x.cps.toList.take i,(x.cps.toList.drop i).drop y.cps.toList.length,?_,by rw [List.length_take];lia⟩
  rw [aH]
  conv=>lhs;rw [<- List.take_append_drop i x.cps.toList]
  congr 1
  conv=>lhs;rw [<- List.take_append_drop y.cps.toList.length (x.cps.toList.drop i)]
  rw [h2]
 ·intro hz;refine o2_4 hz fun A B e rf3=>?_;clear hz;subst rf3;rw [e];refine ⟨by simp,?_⟩
  rw [aH,List.drop_left];simp
theorem vQ {x:Str} {A B:List Nat} (h:x.cps.toList=A++46::B) (hA:46 ∉ A):Txt.find x "." = (A.length:Int):=by
 unfold Txt.find;rcases StrLaws.occ_head x "." 1 (bF _) with ⟨e,hn⟩ | ⟨i,r,e,hi,hk⟩
 ·exact absurd ((qb x "." A.length).mpr ⟨A,B,by rw [h];simp [show ("." : Str).cps.toList=[46] from rfl],rfl⟩) (hn _)
 ·rw [e];have h1:i<=A.length:=by
   rcases Nat.lt_or_ge A.length i with q | q
   ·exact absurd ((qb x "." A.length).mpr ⟨A,B,by rw [h];simp [show ("." : Str).cps.toList=[46] from rfl],rfl⟩) (hk _ q)
   ·exact q
  refine o2_4 ((qb x "." i).mp hi) fun A' B' e2 rf3=>?_
  subst rf3;rw [h,show ("." : Str).cps.toList=[46] from rfl] at e2
  show ((A'.length:Nat):Int)=_;rcases Nat.lt_or_ge A'.length A.length with q | q
  ·exfalso;have e3:(A++46::B)[A'.length]? = some 46:=by rw [e2];simp
   rw [List.getElem?_append_left q] at e3;exact hA (aV e3)
  ·have:A'.length=A.length:=by lia
   rw [this]
theorem vd {l:List Nat} {c:Nat} (h:c ∈ l):∃ A B,l=A++c::B/\c ∉ A:=by
 induction l with
 | nil=>cases h
 | cons a l ih =>
   by_cases e:a=c
   ·subst e;exact ⟨[],l,rfl,by simp⟩
   ·refine o2_4 (ih ((aG.mp h).resolve_left fun q=>e q.symm)) fun A B e1 e2=>?_;exact ⟨a::A,B,by rw [e1];rfl,fun q=>(aG.mp q).elim (fun q=>e q.symm) e2⟩
theorem zU {x:Str} (h:46 ∈ x.cps.toList):0<=Txt.find x "." := by
 refine o2_4 (vd h) fun A B e h2=>?_;rw [vQ e h2];lia
theorem kh (x:Str) (k:Nat) (h:k<=x.length):(Txt.slice x (some (k:Int)) none).cps.toList=x.cps.toList.drop k:=by
 have hx:=len_eq x;rw [cI.mp (slice_closes_fromL (x:=x) (i:=(k:Int)) (b:=(x.length:Int)) (by lia) (by lia) rfl)]
 show (x.cps.toList.drop k).take ((x.length:Int) - (k:Int)).toNat=_;rw [cT (by rw [List.length_drop];lia)]
theorem last_eq (s sub:Str) (hi:Nat):lastOccurrence s sub 0 hi=(List.range (hi+1)).foldl (fun last i=>if i+sub.length<=hi/\subAt s sub i=true then some i else last) none:=by
 unfold lastOccurrence;simp;rw [List.range_eq_range'];generalize List.range' 0 (hi+1)=l;generalize (none:Option Nat)=o;induction l generalizing o with
 | nil=>rfl
 | cons a l ih =>
   rw [dw,cK];by_cases c:a+sub.length<=hi/\subAt s sub a=true
   ·rw [ay c,ay c];exact ih _
   ·rw [aq c,aq c];exact ih _
theorem lV (p:Nat->Prop) [DecidablePred p]:∀ m:Nat,((List.range m).foldl (fun last i=>if p i then some i else last) none=none/\∀ i,i<m->¬ p i)\/∃ j,(List.range m).foldl (fun last i=>if p i then some i else last) none=some j/\j<m/\p j/\∀ i,i<m->p i->i<=j
 | 0=>.inl ⟨rfl,fun i h=>absurd h (by lia)⟩
 | m+1=>by
   rw [dz,dW];simp only [cK,List.foldl_nil];by_cases c:p m
   ·rw [ay c];exact .inr ⟨m,rfl,by lia,c,fun i h _=>by lia⟩
   ·rw [aq c];rcases lV p m with ⟨e,h⟩ | ⟨j,e,h1,h2,h3⟩
    ·exact .inl ⟨e,fun i hi q=>if e2:i=m then c (e2▸q) else h i (by lia) q⟩
    ·exact .inr ⟨j,e,by lia,h2,fun i hi q=>if e2:i=m then absurd (e2▸q) c else h3 i (by lia) q⟩
theorem xD {x y:Str} (h:∀ A B,x.cps.toList≠A++y.cps.toList++B):Txt.rfind x y = -1:=by
 unfold Txt.rfind;rw [last_eq];rcases lV (fun i=>i+y.length<=x.length/\subAt x y i=true) (x.length+1) with ⟨e,_⟩ | ⟨j,e,h1,h2,h3⟩
 ·rw [e]
 ·refine o2_4 ((qb x y j).mp h2) fun A B e2 _=>?_;exact absurd e2 (h A B)
theorem xE {x y:Str} {A B:List Nat} (h:x.cps.toList=A++y.cps.toList++B) (hA:A≠[]):0<Txt.rfind x y:=by
 have ha:=(qb x y A.length).mpr ⟨A,B,h,rfl⟩;have hl:A.length<x.length+1:=by have:=ha.1;lia
 have h0:=List.length_pos_iff.mpr hA;unfold Txt.rfind;rw [last_eq];rcases lV (fun i=>i+y.length<=x.length/\subAt x y i=true) (x.length+1) with ⟨e,h2⟩ | ⟨j,e,h1,h2,h3⟩
 ·exact absurd ha (h2 _ hl)
 ·rw [e];have:=h3 _ hl ha;show 0<((j:Nat):Int);lia
theorem Bq {x:Str} {c:Nat} {l:List Nat} (h:x.cps.toList=c::l):Txt.item x 0=⟨#[c]⟩:=by
 have hl:x.length=l.length+1:=by rw [len_eq,h];rfl
 rw [cI.mp (item_closes (x:=x) (i:=0) ⟨by lia,by lia⟩)]
 have:x.cps.getD (0:Int).toNat 0=c:=by
  rw [show x.cps.getD (0:Int).toNat 0=x.cps.toList.getD 0 0 by simp [Array.getD_eq_getD_getElem?,bA],h];rfl
 rw [this]
theorem CG {x:Str} {c:Nat} {l:List Nat} (h:x.cps.toList=l++[c]):Txt.item x (-1)=⟨#[c]⟩:=by
 have hl:x.length=l.length+1:=by rw [len_eq,h];simp
 rw [cI.mp (item_closes_neg (x:=x) (i:=-1) (j:=-1+(x.length:Int)) (by decide) (by lia) rfl)]
 have e:(-1+(x.length:Int)).toNat=l.length:=by lia
 have:x.cps.getD l.length 0=c:=by
  rw [show x.cps.getD l.length 0=x.cps.toList.getD l.length 0 by simp [Array.getD_eq_getD_getElem?,bA],h]
  simp [bA]
 rw [e,this]
theorem uK {c d:Nat} (h:c≠d):((⟨#[c]⟩:Str) == ⟨#[d]⟩)=false:=by
 rw [aY];intro e;apply h;have:=congrArg (fun s:Str=>s.cps.toList) e;simpa using this
theorem oh {x:Str} {c d:Nat} {l m:List Nat} (h1:x.cps.toList=c::l) (h2:x.cps.toList=m++[d]) (hc:c≠46) (hd:d≠46):hdn x=true:=by
 unfold hdn;rw [Bq h1,CG h2,show ("." : Str)=⟨#[46]⟩ from rfl,uK hc,uK hd]
 have:(x == ("" : Str))=false:=by
  rw [aY];rintro rfl;cases h1
 rw [this];rfl
theorem m7 {x:Str} {c:Nat} {l:List Nat} (h:x.cps.toList=c::l):Txt.startswith x "." = (c == 46):=by
 unfold Txt.startswith;have hl:x.length=l.length+1:=by rw [len_eq,h];rfl
 rw [StrLaws.subAt_eq,h,hl,show ("." : Str).length=1 from rfl,show ("." : Str).cps.toList=[46] from rfl,List.drop_zero]
 have:(decide (0+1<=l.length+1))=true:=by simp
 rw [this];by_cases e:c=46
 ·subst e;rfl
 ·rw [aY.mpr e];simp [e]
noncomputable def zT (c:Nat):Bool:=(c<48 || 57<c) && (c<65 || 90<c) && decide (c<128)
theorem jM {c:Nat} (h:zT c=true):c<128/\lo1 c=c/\lo1 (up1 c)=c/\up1 c<128:=by
 have:∀ c,c<128->zT c=true->lo1 c=c/\lo1 (up1 c)=c/\up1 c<128:=by decide
 have h1:c<128:=by unfold zT at h;simp at h;exact h.2
 exact ⟨h1,this c h1 h⟩
noncomputable def rj (x:Str):Prop:=∀ c ∈ x.cps.toList,zT c=true
theorem iF {x:Str} (h:rj x):Txt.lower x=x:=by
 rw [lower_ascii fun c hc=>(jM (h c hc)).1];apply Str.ext';show (x.cps.map lo1).toList=_;rw [dY]
 conv=>rhs;rw [<- List.map_id x.cps.toList]
 exact bh fun c hc=>(jM (h c hc)).2.1
theorem oO {x:Str} (h:rj x):(Txt.upper x).cps.toList=x.cps.toList.map up1:=by
 rw [upper_ascii fun c hc=>(jM (h c hc)).1];show (x.cps.map up1).toList=_;rw [dY]
theorem gw {x:Str} (h:rj x):Txt.lower (Txt.upper x)=x:=by
 have e:=oO h;rw [lower_ascii fun c hc=>by
  rw [e] at hc;refine o1_3 (aE.mp hc) fun d hd rf2=>?_;subst rf2;exact (jM (h d hd)).2.2.2]
 apply Str.ext';show ((Txt.upper x).cps.map lo1).toList=_;rw [dY,e,br]
 conv=>rhs;rw [<- List.map_id x.cps.toList]
 exact bh fun c hc=>(jM (h c hc)).2.2.1
theorem gS {x:Str} (h:rj x):iz x:=fun i=>by
 have e:x.cps.getD i 0=x.cps.toList.getD i 0:=by simp [Array.getD_eq_getD_getElem?,bA]
 rw [e,bA];cases q:x.cps.toList[i]? with
 | none=>rfl
 | some c =>
   have:=h c (aV q);unfold zT at this;simp at this;unfold Sre.isDigit;simp;lia
theorem tV {A B a b:Str} {c d e f:Nat} {l m p q:List Nat} (hA:Txt.lower A=a) (hB:Txt.lower B = "." ++ b) (h1:a.cps.toList=c::l) (h2:a.cps.toList=m++[d]) (hc:c≠46) (hd:d≠46)
  (h3:b.cps.toList=e::p) (h4:b.cps.toList=q++[f]) (he:e≠46) (hf:f≠46):(f9 A B=true↔∃ P Q,a.cps.toList=P++46::b.cps.toList++Q):=by
 have hBc:(("." : Str)++b).cps.toList=46::b.cps.toList:=by rw [cps_append];rfl
 have hne:(a == "." ++ b)=false:=by
  rw [aY];rintro rfl;rw [hBc] at h1;cases h1;exact hc rfl
 have hsl:Txt.slice ("." ++ b) (some 1) none=b:=by
  apply Str.ext';have:=kh ("." ++ b) 1 (by rw [len_eq,hBc,bg];lia)
  rw [show ((1:Nat):Int)=1 from rfl] at this;rw [this,hBc];rfl
 unfold f9;rw [hA,hB,hne,oh h1 h2 hc hd,m7 hBc,hsl,oh h3 h4 he hf];simp only [bu,cg,Bool.not_true,beq_self_eq_true];constructor
 ·intro h;refine Classical.byContradiction fun hn=>?_;have:=xD (x:=a) (y := "." ++ b) fun P Q e=>hn ⟨P,Q,by rw [e,hBc]⟩
  rw [this] at h;exact absurd h (by decide)
 ·intro hz;refine o2_3 hz fun P Q e=>?_;clear hz;have hP:P≠[]:=by
   rintro rfl;rw [h1] at e;cases e;exact hc rfl
  have:=xE (x:=a) (y := "." ++ b) (A:=P) (B:=Q) (by rw [e,hBc]) hP
  have n1:(Txt.rfind a ("." ++ b) == -1)=false:=by rw [aY];lia
  have n2:(Txt.rfind a ("." ++ b) == 0)=false:=by rw [aY];lia
  rw [n1,n2];rfl
theorem qR {A B:Str} (h:Txt.lower A=Txt.lower B):f9 A B=true:=by
 unfold f9;rw [h];simp
theorem pX {A B:Str} {c:Nat} {l:List Nat} (h:Txt.lower A≠Txt.lower B) (h1:(Txt.lower B).cps.toList=c::l) (hc:c≠46):f9 A B=false:=by
 unfold f9;rw [aY.mpr h,m7 h1,aY.mpr hc];simp
end Mine
namespace Mine
noncomputable def dnL:List Nat->List Nat
 | []=>[108,111,99,97,108]
 | x::p=>(97+x)::46::dnL p
noncomputable def dn (p:List Nat):Str:=⟨(dnL p).toArray⟩
noncomputable def ddn (p:List Nat):Str:=⟨(46::dnL p).toArray⟩
noncomputable def gV (p:List Nat):Prop:=∀ x ∈ p,x<5
theorem jm (p:List Nat):(dn p).cps.toList=dnL p:=rfl
theorem qU (p:List Nat):(ddn p).cps.toList=46::dnL p:=rfl
theorem qQ:∀ p,(dnL p).length=2 * p.length+5
 | []=>rfl
 | x::p=>by simp [dnL,qQ p];lia
theorem iX (p:List Nat):(dn p).length=2 * p.length+5:=by rw [len_eq,jm,qQ]
theorem qT (p:List Nat):(ddn p).length=2 * p.length+6:=by rw [len_eq,qU,bg,qQ]
theorem ly:∀ p,∃ m,dnL p=m++[108]
 | []=>⟨[108,111,99,97],rfl⟩
 | x::p=>by refine o1_2 (ly p) fun m e=>?_;exact ⟨(97+x)::46::m,by rw [dnL,e];rfl⟩
theorem oz:∀ {p},gV p->∀ c ∈ dnL p,zT c=true
 | [],_,c,hc=>by
   have:c=108\/c=111\/c=99\/c=97\/c=108:=by simpa [dnL] using hc
   rcases this with rfl | rfl | rfl | rfl | rfl <;> decide
 | x::p,h,c,hc=>by
   have hx:=h x (aj ..);have:c=97+x\/c=46\/c ∈ dnL p:=by simpa [dnL] using hc
   rcases this with rfl | rfl | hc
   ·have:∀ x,x<5->zT (97+x)=true:=by decide
    exact this x hx
   ·decide
   ·exact oz (fun y hy=>h y (ai _ hy)) c hc
theorem iT {p:List Nat} (h:gV p):rj (dn p):=fun c hc=>oz h c (by rw [<- jm p];exact hc)
theorem sP {p:List Nat} (h:gV p):rj (ddn p):=fun c hc=>by
 rw [qU] at hc;rcases aG.mp hc with rfl | hc
 ·decide
 ·exact oz h c hc
theorem ow:∀ {p},gV p->∃ c l,dnL p=c::l/\c≠46
 | [],_=>⟨108,_,rfl,by decide⟩
 | x::p,_=>⟨97+x,_,rfl,by lia⟩
theorem uJ {x:Str} {c:Nat} {l:List Nat} (h:x.cps.toList=c::l):Txt.slice x (some 1) none=⟨l.toArray⟩:=by
 apply Str.ext';have:=kh x 1 (by rw [len_eq,h,bg];lia)
 rw [show ((1:Nat):Int)=1 from rfl] at this;rw [this,h];rfl
theorem jT (x:Nat) (p:List Nat):Txt.slice (dn (x::p)) (some 1) none=ddn p:=uJ (jm _)
theorem tE (p:List Nat):Txt.slice (ddn p) (some 1) none=dn p:=uJ (qU _)
theorem sE (x:Nat) (p:List Nat):Txt.item (dn (x::p)) 0=ltr x:=Bq (jm _)
theorem vY (p:List Nat):(ddn p == (".local" : Str))=p.isEmpty:=by
 cases p with
 | nil=>decide
 | cons x p =>
   rw [List.isEmpty_cons,aY];intro e;have:=congrArg Str.length e;rw [qT] at this;have e2:(".local" : Str).length=6:=by decide
   rw [e2] at this;simp at this
theorem BD (p q:List Nat):(ddn p != ddn p)=false:=by simp
theorem xG {x:Nat} {p:List Nat} (hx:x<5) (hp:gV p):reachF (dn (x::p))=ddn p:=by
 have h1:(dn (x::p)).cps.toList=[97+x]++46::dnL p:=rfl;have hf:Txt.find (dn (x::p)) "." = 1:=by
  have:=vQ h1 (by simp;lia)
  rw [this];rfl
 have hs:Txt.slice (dn (x::p)) (some (1+1)) none=dn p:=by
  apply Str.ext';have:=kh (dn (x::p)) 2 (by rw [iX,bg];lia)
  rw [show ((2:Nat):Int)=1+1 from rfl] at this;rw [this,h1];rfl
 refine o1_2 (ly (x::p)) fun m hm=>?_;have hh:hdn (dn (x::p))=true:=oh (jm _) hm (by lia) (by decide)
 have ha:(decide (0<=Txt.find (dn p) ".") || dn p == "local")=true:=by
  cases p with
  | nil=>decide +kernel
  | cons y p =>
    have:=zU (x:=dn (y::p)) (by rw [jm,dnL];simp)
    rw [bU this];rfl
 unfold reachF;rw [hf,ay (by decide),hs,hh,ha,ay (by decide)]
 apply Str.ext';rw [cps_append];rfl
theorem uI (p:List Nat):Txt.slice (dn p) none (some (-5))=⟨((dnL p).take (2 * p.length)).toArray⟩:=by
 have hl:=iX p;have:=slice_closes_to_neg (x:=dn p) (j:=-5) (k:=((2 * p.length:Nat):Int)) (by decide) (by lia) (by lia)
 rw [cI.mp this,jm,show ((0:Int)).toNat=0 from rfl,List.drop_zero,Int.sub_zero,bL]
theorem nD:∀ p q,(dnL p).take (2 * p.length)++dnL q=dnL (p++q)
 | [],q=>rfl
 | x::p,q=>by
   have:2 * (x::p).length=2 * p.length+1+1:=by simp;lia
   rw [this,dnL,List.take_succ_cons,List.take_succ_cons,List.cons_append,List.cons_append,nD p q];rfl
theorem BF (p q:List Nat):Txt.slice (dn p) none (some (-5))++dn q=dn (p++q):=by
 apply Str.ext';rw [cps_append,uI,jm,jm,<- nD]
theorem Ab (p:List Nat):(Txt.slice (dn p) none (some (-5))).length<=2 * p.length+5:=by
 have:=cM (dn p) none (some (-5));rw [iX] at this;exact this
theorem qP:∀ {p q:List Nat} {Q:List Nat},gV p->gV q->dnL p=dnL q++Q->p=q
 | [],[],_,_,_,_=>rfl
 | [],y::q,Q,_,hq,e=>by
   have h1:(108:Nat)=97+y:=(bZ e).1;have:=hq y (aj ..);lia
 | x::p,[],Q,hp,_,e=>by
   have h1:97+x=(108:Nat):=(bZ e).1;have:=hp x (aj ..);lia
 | x::p,y::q,Q,hp,hq,e=>by
   have h1:=bZ e;have h2:=bZ h1.2;have hxy:x=y:=by have:=h1.1;lia
   rw [hxy,qP (fun z hz=>hp z (ai _ hz)) (fun z hz=>hq z (ai _ hz)) h2.2]
theorem vV:∀ {p q:List Nat} {P Q:List Nat},gV p->gV q->dnL p=P++46::dnL q++Q->∃ r,r≠[]/\p=r++q
 | [],q,P,Q,_,_,e=>by
   have:(46:Nat) ∈ dnL []:=by rw [e];simp
   simp [dnL] at this
 | x::p,q,[],Q,_,_,e=>by
   have h1:97+x=(46:Nat):=(bZ e).1;lia
 | x::p,q,[a],Q,hp,hq,e=>by
   have h2:=(bZ (bZ e).2).2;exact ⟨[x],by simp,by rw [qP (fun z hz=>hp z (ai _ hz)) hq h2];rfl⟩
 | x::p,q,a::b::P,Q,hp,hq,e=>by
   have h2:=(bZ (bZ e).2).2;refine o1_3 (vV (P:=P) (Q:=Q) (fun z hz=>hp z (ai _ hz)) hq h2) fun r hr e2=>?_;exact ⟨x::r,by simp,by rw [e2];rfl⟩
theorem vU:∀ (r q:List Nat),r≠[]->∃ P,dnL (r++q)=P++46::dnL q
 | [],_,h=>absurd rfl h
 | [x],q,_=>⟨[97+x],rfl⟩
 | x::y::r,q,_=>by
   refine o1_2 (vU (y::r) q (by simp)) fun P e=>?_
   exact ⟨(97+x)::46::P,by rw [List.cons_append,dnL,e];rfl⟩
noncomputable def great (l:Nat) (q:List Nat):Str:=("." ++ Txt.upper (ltr l))++ddn q
theorem yL:∀ l,l<5->Txt.upper (ltr l)=⟨#[65+l]⟩:=by decide +kernel
theorem vL {l:Nat} {q:List Nat} (hl:l<5):(great l q).cps.toList=46::(65+l)::46::dnL q:=by
 unfold great;rw [cps_append,cps_append,yL l hl];rfl
theorem pR {l:Nat} {q:List Nat} (hl:l<5) (hq:gV q):Txt.lower (great l q) = "." ++ dn (l::q):=by
 have e:=vL (q:=q) hl;have f:=sP hq;rw [lower_ascii fun c hc=>by
  rw [e] at hc;rcases aG.mp hc with rfl | hc
  ·decide
  rcases aG.mp hc with rfl | hc
  ·lia
  ·exact (jM (f c hc)).1]
 apply Str.ext';show ((great l q).cps.map lo1).toList=_;rw [dY,e,cps_append];show lo1 46::lo1 (65+l)::(46::dnL q).map lo1=46::(97+l)::46::dnL q;have h1:∀ l,l<5->lo1 (65+l)=97+l:=by decide
 have h2:(46::dnL q).map lo1=46::dnL q:=by
  conv=>rhs;rw [<- List.map_id (46::dnL q)]
  exact bh fun c hc=>(jM (f c hc)).2.1
 rw [h1 l hl,h2];rfl
theorem pY {p q:List Nat} {l:Nat} (hp:gV p) (h0:p≠[]) (hl:l<5) (hq:gV q):f9 (Txt.upper (dn p)) (great l q)=true↔∃ r,r≠[]/\p=r++l::q:=by
 have hlq:gV (l::q):=fun x hx=>(aG.mp hx).elim (fun e=>e▸hl) (hq x);refine o2_4 (ow hp) fun c t h1 hc=>?_;refine o1_2 (ly p) fun m h2=>?_;refine o2_4 (ow hlq) fun e u h3 he=>?_;refine o1_2 (ly (l::q)) fun v h4=>?_;rw [tV (gw (iT hp)) (pR hl hq) (h1:(dn p).cps.toList=_) (h2:(dn p).cps.toList=_) hc (by decide) (h3:(dn (l::q)).cps.toList=_) (h4:(dn (l::q)).cps.toList=_) he (by decide)]
 constructor
 ·intro hz;refine o2_3 hz fun P Q e=>?_;clear hz;exact vV hp hlq e
 ·intro hz;refine o1_3 hz fun r hr rf2=>?_;clear hz;subst rf2;refine o1_2 (vU r (l::q) hr) fun P e=>?_;exact ⟨P,[],by rw [bf];exact e⟩
theorem By {p q:List Nat} (hp:gV p) (hq:gV q) (h:dn p=dn q):p=q :=
 qP (Q:=[]) hp hq (by rw [bf,<- jm,h,jm])
theorem qS {p q:List Nat} (hp:gV p) (hq:gV q):f9 (Txt.upper (dn p)) (dn q)=decide (p=q):=by
 by_cases h:p=q
 ·subst h;rw [bU rfl];exact qR (by rw [gw (iT hp),iF (iT hp)])
 ·rw [bB h];refine o2_4 (ow hq) fun c t h1 hc=>?_;refine pX ?_ (c:=c) (l:=t) ?_ hc
  ·rw [gw (iT hp),iF (iT hq)];exact fun e=>h (By hp hq e)
  ·rw [iF (iT hq)];exact h1
end Mine
end
section
open PySem PySem.W PySem.Calls PyProof.Rows
set_option tactic.hygienic false
namespace Mine
noncomputable def gj (P:Nat->List Nat) (x:Nat):Nat:=(P x).getLastD 0
noncomputable def Paths (P:Nat->List Nat):Prop:=∀ x,x<5->P x≠[]/\(P x).length<=5/\gV (P x)
section
variable {w:World} {mg mb:Str->Option Value} {Z:Frag} (g:GA w mg mb)
include g
theorem PE.reach {n:Nat} {env:Env} {S:St} {e:Expr} {p pos:Pos} {x:Str} (hk:env.kindOf "reach" = some .globalImplicit) (h:PE (CA w mg mb Z) (n+2) env S e (.str x)) (hx:iz x) (hz:x.length+1<=sizeLine)
  (he:starEach [e] env=(false,eval e env)::starEach [] env:=by rfl):PE (CA w mg mb Z) (n+2) env S (.Call (.Name "reach" p) [e] [] pos) (.str (reachF x)) :=
 PE.j3 (PE.glob hk (g.glo _ _ rfl)) (show (CA w mg mb Z).K.lookup 177=some _ from rfl) rfl (PL.cons h PL.nil he) (xF g hx hz) he
theorem v9 {n:Nat} {M:List (Addr×AO)} {aN:Addr} {nl:List (Str×AV)} {P:Nat->List Nat} (hN:(aN,AO.eY nl) ∈ M) (hn:∀ x,x<5->ie nl (ltr x)=some (.str (dn (P x)))) (hP:Paths P) :
  FC (CA w mg mb Z) (n+3) 309 M [.raw (.ref aN)] (fun av M'=>∃ aC,av = .raw (.ref aC)/\M'=M++[(aC,.eY (cwL (fQ (gj P) 5)))]):=by
 have ok:=okA (Z:=Z) g;have sl:sizeLine=16777216:=by decide
 refine gO ok (ab:=[("names", .raw (.ref aN))]) ⟨⟨_,rfl,rfl⟩,⟨_,_,_,_,rfl,rfl,rfl,rfl⟩,rfl,rfl,rfl,(fun x c h=>by cases h),rfl,rfl,rfl,by decide⟩ (by decide) (bind1 fun _=>rfl) (by intro x hx;simp at hx;subst hx;rfl) ?_
 intro L;refine EX.cons ?_;refine E1.loc ok ?_;refine EV.yg ok (sK _) fun aC=>?_;refine EX.cons ?_;refine kG ok (l:=chars "abcde") (fun i S=>S=⟨[("names", .raw (.ref aN)),("crowds", .raw (.ref aC))],M++[(aC,.eY (cwL (fQ (gj P) i)))]⟩) (.name _ _) (PE.then (PE.str ok) ⟨Iter.str ok,rfl⟩) ?_ ?_
 ·rintro x d7 a T hT hx rfl;rw [qa,aQ] at hx;refine o1_3 (aS.mp hx) fun x' hx' rf2=>?_;subst rf2;have hx5:x<5/\x'=x:=by
   refine o1_2 (aM.mp hx') fun h1 h2=>?_;simp at h1 h2;lia
  refine o0_2 hx5 fun hx5 rf1=>?_;subst rf1;refine o0_3 (hP x' hx5) fun p1 p2 p3=>?_;refine TG.loc ok ?_;refine EX.cons ?_;refine E1.loc ok ?_;refine PE.then (PE.sub (PE.name rfl) (PE.name rfl) (O.k6 ok (sK _) (x:=ltr x') (af _ hN) (hn x' hx5) fun t u h=>rfl)) ?_
  refine EX.cons ?_;refine kG ok (l:=upto 0 5) (fun k S=>∃ r y q,P x'=r++y::q/\r.length=k/\S=⟨[("names", .raw (.ref aN)),("crowds", .raw (.ref aC)),("letter", ltV x'),("host", .str (dn (y::q)))],M++[(aC,.eY (cwL (fQ (gj P) x')))]⟩) (.name _ _) ?_ ?_ ?_
  ·refine PE.then (PE.jo (PE.gB rfl (g.non _ rfl) ((g.mb _ (by decide)).trans rfl)) (PE.int ok) (O.rN ok)) ⟨Iter.rng ok rfl,?_⟩
   cases hp:P x' with
   | nil=>exact absurd hp p1
   | cons y q=>exact ⟨[],y,q,rfl,rfl,rfl⟩
  ·intro k eG a T2 hT2 hk hz;refine o3_6 hz fun r y q e1 e2 rf5=>?_;clear hz;subst rf5;have hH:gV (y::q):=fun z hz=>p3 z (by rw [e1];exact aa _ hz)
   have hq:gV q:=fun z hz=>hH z (ai _ hz);have hlen:(y::q).length<=5:=by
    have:=congrArg List.length e1;rw [bl] at this;lia
   have hz1:=iX (y::q);have hz2:=qT q;have hql:q.length<=4:=by simp at hlen;exact hlen
   refine TG.loc ok ?_;refine EX.cons ?_;refine E1.loc ok ?_;refine PE.then (PE.cast (PE.reach g (n:=n) rfl (PE.name rfl) (gS (iT hH)) (by rw [hz1,sl];lia)) (congrArg AV.str (xG (hH y (aj ..)) hq))) ?_
   refine EX.cons ?_;refine E1.ite ((PT.cast (PT.cmp (PE.name rfl) (PE.cast (oJ ok (PE.name rfl) (PE.int ok) (by rw [hz1,sl];lia)) (congrArg AV.str (jT y q))) (O.nes ok)) (BD q q)).then ?_)
   rw [aq (by decide)]
   refine EX.nil ?_;refine EX.cons ?_;refine E1.ite ((PT.cast (PT.cmp (PE.name rfl) (PE.str ok) (O.eqs ok)) (vY q)).then ?_)
   cases q with
   | nil =>
     rw [ay (show ([]:List Nat).isEmpty=true from rfl)];refine EX.cons (E1.brk (hT2 .brk _ ?_));have ehd:gj P x'=y:=by unfold gj;rw [e1];simp
     refine EX.cons ?_;refine jt ok (sK _) ?_;refine EV.bin ?_;refine EV.mF PySem.F.slot_dict_get PySem.F.plainAttrs_dict PySem.F.type_dict_get ((PE.name rfl).then ⟨aC,rfl,BC (aa _ (ao.mpr rfl)),PL.then (PL.cons (PE.cast (PE.sub (PE.name rfl) (PE.int ok) (O.nT ok (by decide) (by rw [iX];lia) (by rw [iX];lia))) (congrArg AV.str (sE y []))) (PL.cons (PE.str ok) PL.nil)) ((O.Di ok (sK _) (x:=ltr y) (.inl ⟨_,rfl⟩) (aa _ (ao.mpr rfl))).mono fun av S' e=>?_)⟩)
     refine o0_2 e fun rf0 rf1=>?_;clear e;subst rf0;subst rf1;rw [show (ie (cwL (fQ (gj P) x')) (ltr y)).getD (.str (Str.ofString "")) = .str (lets (e9 (fQ (gj P) x') y)) from yh _ _]
     have hlz:(lets (e9 (fQ (gj P) x') y)).length<=5:=by
      rw [iw];show (List.map _ _).toArray.size<=5;rw [aK,az];exact bC (List.length_filter_le _ _) (by simp;lia)
     refine (PE.name rfl).then ?_
     refine (O.adds ok (by rw [sl];have:(ltr x').length=1:=rfl;lia)).mono (eq2 ?_)
     refine ⟨M.length,aC,_,ltr y,by simp;rfl,?_,PE.name rfl,PE.cast (PE.sub (PE.name rfl) (PE.int ok) (O.nT ok (by decide) (by rw [iX];lia) (by rw [iX];lia))) (congrArg AV.str (sE y [])),?_⟩
     ·have:=kT (gj P) x';simp [cwL];lia
     refine EX.nil (hT .next _ ⟨⟨[("names", .raw (.ref aN)),("crowds", .raw (.ref aC))],_⟩,Le.pre (μ:=[("names", .raw (.ref aN)),("crowds", .raw (.ref aC))]) (ν:=[("letter", ltV x'),("host", .str (dn [y])),("k", a),("higher", .str (ddn []))]),?_⟩)
     refine congrArg (St.mk _) ?_;show List.set (M++[(aC,AO.eY _)]) M.length (aC,AO.eY (iZ (cwL (fQ (gj P) x')) (ltr y) (.str (lets (e9 (fQ (gj P) x') y)++ltr x'))))=_;rw [z9 _ (iB _ _),gA,ehd];simp
   | cons z q =>
     rw [aq (show ¬ (z::q).isEmpty=true by simp)]
     refine EX.nil ?_;refine EX.cons ?_;refine E1.loc ok ?_;refine PE.then (PE.cast (oJ ok (PE.name rfl) (PE.int ok) (by rw [hz2,sl];lia)) (congrArg AV.str (tE (z::q)))) ?_
     refine EX.nil (hT2 .next _ ⟨_,Le.pre (ν:=[("k", a),("higher", .str (ddn (z::q)))]),r++[y],z,q,?_,?_,rfl⟩)
     ·rw [e1];simp
     ·simp [e2]
  ·intro eG hz;refine o3_6 hz fun r y q e1 e2 rf5=>?_;clear hz;subst rf5;exfalso;have:=congrArg List.length e1;have e3:(upto 0 5).length=5:=rfl;rw [e3] at e2;rw [bl,bg] at this;lia
 ·rintro d7 rfl;have e3:(chars "abcde").length=5:=rfl
  rw [e3];exact EX.cons (E1.ret ((PE.name rfl).then ⟨aC,rfl,rfl⟩))
end
end Mine
namespace Mine
noncomputable def gJ (kf:Nat->Nat) (a:Nat) (l:List Nat):List Nat:=insLt (tO kf) a l
noncomputable def g8 (kf:Nat->Nat) (a:Nat):List Nat->List Nat
 | []=>[a]
 | r::rs=>if kf r<kf a then r::g8 kf a rs else a::r::rs
noncomputable def qg (late:Bool) (kf:Nat->Nat) (a:Nat) (l:List Nat):List Nat:=if late=true then gJ kf a l else g8 kf a l
theorem fL (kf:Nat->Nat) (a r:Nat) (rs:List Nat):gJ kf a (r::rs)=if kf a<kf r then a::r::rs else r::gJ kf a rs:=by
 unfold gJ;show (if tO kf a r=true then _ else _)=_
 unfold tO;by_cases h:kf a<kf r
 ·rw [ay (by simpa using h),ay h]
 ·rw [aq (by simpa using h),aq h]
theorem sH (kf:Nat->Nat) (a b:Nat):∀ l:List Nat,g8 kf a (gJ kf b l)=gJ kf b (g8 kf a l)
 | []=>by
   show g8 kf a [b]=gJ kf b [a];rw [fL];show (if kf b<kf a then [b,a] else [a,b])=if kf b<kf a then [b,a] else [a,b]
   rfl
 | r::rs=>by
   have ih:=sH kf a b rs;have eL:∀ x xs,g8 kf a (x::xs)=if kf x<kf a then x::g8 kf a xs else a::x::xs:=fun _ _=>rfl
   rw [fL,eL];by_cases h1:kf b<kf r
   ·rw [ay h1,eL];by_cases h2:kf r<kf a
    ·rw [ay h2,ay (by lia),eL,ay h2,fL,ay h1]
    ·rw [aq h2];by_cases h3:kf b<kf a
     ·rw [ay h3,eL,aq h2,fL,ay h3]
     ·rw [aq h3,fL,aq h3,fL,ay h1]
   ·rw [aq h1,eL];by_cases h2:kf r<kf a
    ·rw [ay h2,ay h2,fL,aq h1,ih]
    ·rw [aq h2,aq h2,fL,aq (by lia),fL,aq h1]
theorem pN (kf:Nat->Nat) (a:Nat):∀ l acc:List Nat,g8 kf a (l.foldr (gJ kf) acc)=l.foldr (gJ kf) (g8 kf a acc)
 | [],_=>rfl
 | x::l,acc=>by
   show g8 kf a (gJ kf x (l.foldr (gJ kf) acc))=gJ kf x (l.foldr (gJ kf) (g8 kf a acc));rw [sH,pN kf a l acc]
theorem sI (late:Bool) (kf:Nat->Nat) (r:List Nat):r.foldl (fun acc h=>qg late kf h acc) []=gI (tO kf) (if late=true then r else r.reverse):=by
 cases late with
 | true=>rfl
 | false =>
   rw [aq (by decide)]
   unfold gI;rw [List.foldl_reverse];have:∀ (l r:List Nat),r.foldl (fun acc h=>qg false kf h acc) (l.foldr (gJ kf) [])=(l++r).foldr (gJ kf) []:=by
    intro l r;induction r generalizing l with
    | nil=>simp
    | cons x r ih =>
      rw [cK];have e:qg false kf x (l.foldr (gJ kf) [])=(l++[x]).foldr (gJ kf) []:=by
       show g8 kf x (l.foldr (gJ kf) [])=_;rw [pN,List.foldr_append];rfl
      rw [e,ih (l++[x])];simp
   exact this [] r
noncomputable def gk (kf:Nat->Nat) (l:List Nat):Prop:=l.Pairwise fun a b=>kf a<=kf b
theorem vH (late:Bool) (kf:Nat->Nat) (a:Nat):∀ l:List Nat,(qg late kf a l).Perm (a::l):=by
 intro l;cases late with
 | true =>
   show (gJ kf a l).Perm _;induction l with
   | nil=>exact .refl _
   | cons r rs ih =>
     rw [fL];split
     ·exact .refl _
     ·exact (ih.cons r).trans (.swap ..)
 | false =>
   show (g8 kf a l).Perm _;induction l with
   | nil=>exact .refl _
   | cons r rs ih =>
     show (if _ then r::g8 kf a rs else a::r::rs).Perm _
     split
     ·exact (ih.cons r).trans (.swap ..)
     ·exact .refl _
theorem l9 (late:Bool) (kf:Nat->Nat) (a:Nat) {l:List Nat} (h:gk kf l):gk kf (qg late kf a l):=by
 induction l with
 | nil=>cases late <;> exact List.pairwise_singleton ..
 | cons r rs ih =>
   have hp:=vH late kf a rs;refine o0_2 (bT.mp h) fun h1 h2=>?_;cases late with
   | true =>
     show gk kf (gJ kf a (r::rs));rw [fL];split
     ·rename_i hlt;exact bT.mpr ⟨fun b hb=>by
       rcases aG.mp hb with rfl | hb
       ·lia
       ·have:=h1 b hb;lia,h⟩
     ·exact bT.mpr ⟨fun b hb=>by
       rcases aG.mp (hp.mem_iff.mp hb) with rfl | hb
       ·lia
       ·exact h1 b hb,ih h2⟩
   | false =>
     show gk kf (if kf r<kf a then r::g8 kf a rs else a::r::rs)
     split
     ·exact bT.mpr ⟨fun b hb=>by
       rcases aG.mp (hp.mem_iff.mp hb) with rfl | hb
       ·lia
       ·exact h1 b hb,ih h2⟩
     ·exact bT.mpr ⟨fun b hb=>by
       rcases aG.mp hb with rfl | hb
       ·lia
       ·have:=h1 b hb;lia,h⟩
theorem nv {kf:Nat->Nat} {a:Nat}:∀ {l:List Nat},gk kf l->∃ k,k<=l.length/\(∀ i c,l[i]? = some c->decide (kf a<kf c)=decide (k<=i))/\gJ kf a l=l.take k++a::l.drop k
 | [],_=>⟨0,bF _,fun i c h=>by simp at h,rfl⟩
 | r::rs,h=>by
   refine o0_2 (bT.mp h) fun h1 h2=>?_;rw [fL];by_cases q:kf a<kf r
   ·refine ⟨0,bR _,fun i c hc=>?_,by rw [ay q];rfl⟩
    have:kf r<=kf c:=by
     cases i with
     | zero=>simp at hc;subst hc;exact bF _
     | succ i=>exact h1 c (aV (by simpa using hc))
    simp;lia
   ·refine o1_4 (nv (a:=a) h2) fun k hk hp e=>?_;refine ⟨k+1,by simp;lia,fun i c hc=>?_,by rw [aq q,e];rfl⟩
    cases i with
    | zero=>simp at hc;subst hc;simp;lia
    | succ i=>rw [hp i c (by simpa using hc)];simp
theorem nA {kf:Nat->Nat} {a:Nat}:∀ {l:List Nat},gk kf l->∃ k,k<=l.length/\(∀ i c,l[i]? = some c->decide (kf c<kf a)=decide (i<k))/\g8 kf a l=l.take k++a::l.drop k
 | [],_=>⟨0,bF _,fun i c h=>by simp at h,rfl⟩
 | r::rs,h=>by
   refine o0_2 (bT.mp h) fun h1 h2=>?_;show ∃ k,_/\_/\(if kf r<kf a then r::g8 kf a rs else a::r::rs)=_
   by_cases q:kf r<kf a
   ·refine o1_4 (nA (a:=a) h2) fun k hk hp e=>?_;refine ⟨k+1,by simp;lia,fun i c hc=>?_,by rw [ay q,e];rfl⟩
    cases i with
    | zero=>simp at hc;subst hc;simp;lia
    | succ i=>rw [hp i c (by simpa using hc)];simp
   ·refine ⟨0,bR _,fun i c hc=>?_,by rw [aq q];rfl⟩
    have:kf r<=kf c:=by
     cases i with
     | zero=>simp at hc;subst hc;exact bF _
     | succ i=>exact h1 c (aV (by simpa using hc))
    simp;lia
theorem tQ {late:Bool} {kf kg:Nat->Nat} {a:Nat} {l:List Nat} (h:∀ x,x=a\/x ∈ l->kf x=kg x):qg late kf a l=qg late kg a l:=by
 induction l with
 | nil=>cases late <;> rfl
 | cons r rs ih =>
   have ea:=h a (.inl rfl);have er:=h r (.inr (aj ..));have ih:=ih fun x hx=>h x (hx.imp id (ai _));cases late with
   | true =>
     show gJ kf a (r::rs)=gJ kg a (r::rs);rw [fL,fL,ea,er,show gJ kf a rs=gJ kg a rs from ih]
   | false =>
     show (if kf r<kf a then r::g8 kf a rs else a::r::rs)=if kg r<kg a then r::g8 kg a rs else a::r::rs
     rw [ea,er,show g8 kf a rs=g8 kg a rs from ih]
end Mine
namespace Mine
theorem BJ {C:Cx} {fd:FuncData} {T:Addr} {o:Obj} {a b c:AV} {x y z:Str} (ho:C.K.lookup T=some o) (h:∀ u v t,evO 40 [o] (bindArgs fd ⟨[u,v,t],[]⟩)=some ([T],[(x,u),(y,v),(z,t)])):BA C fd [a,b,c] [(x,a),(y,b),(z,c)]:=fun hp X vs r hK _=>by
 refine VRs.eW r fun v _ r rs=>?_;refine VRs.eW rs fun u _ r' rs=>?_;refine VRs.eW rs fun t _ r2 rs=>?_;refine VRs.fN rs ?_;exact ⟨_,fun s e M A E Q hq=>kR _ (h v u t) (.cons (e▸hK _ _ ho) .nil) hq,.cons r (.cons r' (.cons r2 .nil))⟩
section
variable {w:World} {mg mb:Str->Option Value} {Z:Frag} (g:GA w mg mb)
include g
theorem tF {n:Nat} {M:List (Addr×AO)} {x y:Str} (a d:Addr) (hx:x.length<=100000) (hy:y.length<=100000) (h0:0<y.length) :
  FC (CA w mg mb Z) (n+1) 192 (M++[(a,.obj 251 d none none)]) [.raw (.ref a),.str x,.str y] (fun av M'=>av = .none/\M'=M++[(a,.obj 251 d (some ("text", .str (t9 x y))) none)]):=by
 have ok:=okA (Z:=Z) g;refine gO ok (ab:=[("self", .raw (.ref a)),("text_or_uri", .str x),("tag", .str y)]) ⟨⟨_,rfl,rfl⟩,⟨_,_,_,_,rfl,rfl,rfl,rfl⟩,rfl,rfl,rfl,(fun x c h=>by cases h),rfl,rfl,rfl,by decide⟩ (by decide) (BJ (T:=185) rfl (by intro u v t;kernel_rfl)) (by intro x hx;simp at hx;rcases hx with rfl | rfl | rfl <;> rfl) ?_
 intro L;have sl:sizeLine=16777216:=by decide
 have l0:Str.empty.length=0:=rfl;have l1:(Str.ofString "{").length=1:=by decide
 have l2:(Str.ofString "}").length=1:=by decide
 refine EX.cons (E1.ite ((PT.val (PE.name rfl) (T1.str ok (by lia))).then ?_))
 rw [ay (by simp;lia)]
 refine EX.cons (E1.assign ok (.inl rfl) ((PE.cast (PE.joined ok (PJ.cons (PE.str ok) (by simp only [cU,l0,l1,l2];lia) (PJ.cons (PE.Bu ok (PE.name rfl) (by lia)) (by simp only [cU,l0,l1,l2];lia) (PJ.cons (PE.str ok) (by simp only [cU,l0,l1,l2];lia) (PJ.cons (PE.Bu ok (PE.name rfl) (by lia)) (by simp only [cU,l0,l1,l2];lia) PJ.nil)))) (by simp only [cU,l0,l1,l2];lia)) (Ad x y)).then (EX.nil ?_)))
 refine EX.cons (ud ok (i:=M.length) (a:=a) (c:=251) (d:=d) (sq:=none) ⟨rfl,rfl,rfl⟩ rfl (by simp) (PE.name rfl) (PE.name rfl) (EX.nil ?_))
 exact ⟨rfl,by simp⟩
theorem xH {n:Nat} {M:List (Addr×AO)} {x y:Str} (hx:x.length<=100000) (hy:y.length<=100000) (h0:0<y.length) :
  FC (CA w mg mb Z) (n+2) 251 M [.str x,.str y] (fun av M'=>av = .qn 251 (t9 x y)/\M'=M):=by
 have ok:=okA (Z:=Z) g;refine FC.qn ok (zW ok (fI:=192) rfl rfl rfl fun a d=>?_);have h:=tF (Z:=Z) g (n:=n) (M:=M) a d hx hy h0;intro env μ A Y dZ D s vs Q ha R rv q;refine h env μ A Y dZ D s vs Q ha R rv fun v s' av S' p R' K' r=>q v s' av S' ⟨p.1,p.2.1,a,d,rfl,p.2.2⟩ R' K' r
end
end Mine
namespace Mine
theorem CD:(Str.ofString "_initial_size" == Str.ofString "append")=false:=by decide
theorem BI {C:Cx} {fd:FuncData} {x y z:Str} {a b c:AV} (h:∀ v u t,bindArgs fd ⟨[v,u,t],[]⟩=pure [(x,v),(y,u),(z,t)]):BA C fd [a,b,c] [(x,a),(y,b),(z,c)]:=fun hp X vs r _ _=>by
 refine VRs.eW r fun v _ r rs=>?_;refine VRs.eW rs fun u _ r' rs=>?_;refine VRs.eW rs fun t _ r2 rs=>?_;refine VRs.fN rs ?_;exact ⟨_,fun s _=>.of_eq (h v u t),.cons r (.cons r' (.cons r2 .nil))⟩
section
variable {w:World} {mg mb:Str->Option Value} {Z:Frag} (g:GA w mg mb)
include g
theorem mJ:Meth (CA w mg mb Z) 111 "append" (.builtin "list.append"):=⟨⟨"list.__getattribute__", rfl,by decide +kernel⟩,rfl,rfl,⟨"method_descriptor", rfl,rfl⟩,.inr ⟨_,rfl⟩⟩
theorem oG:Meth (CA w mg mb Z) 111 "push" (.ref 55):=⟨⟨"list.__getattribute__", rfl,by decide +kernel⟩,rfl,rfl,⟨"function", rfl,rfl⟩,.inl rfl⟩
theorem kF:Meth (CA w mg mb Z) 111 "pop_from" (.ref 63):=⟨⟨"list.__getattribute__", rfl,by decide +kernel⟩,rfl,rfl,⟨"function", rfl,rfl⟩,.inl rfl⟩
noncomputable def fP (i:Nat):Option (Str×AV):=some ("_initial_size", .int i)
theorem zw {n:Nat} {M:List (Addr×AO)} {j k:Nat} {p d:Addr} {l:List (Str×Str)} {x y:Str} (hM:M[j]? = some (p,.obj 111 d (fP k) (some l))) (hz:l.length<=1000) :
  FC (CA w mg mb Z) (n+1) 55 M [.raw (.ref p),.str x,.str y] (fun av M'=>av = .none/\M'=M.set j (p,.obj 111 d (fP k) (some (l++[(x,y)])))):=by
 have ok:=okA (Z:=Z) g;have sl:sizeLine=16777216:=by decide
 refine gO ok (ab:=[("self", .raw (.ref p)),("fws", .str x),("string", .str y)]) ⟨⟨_,rfl,rfl⟩,⟨_,_,_,_,rfl,rfl,rfl,rfl⟩,rfl,rfl,rfl,(fun x c h=>by cases h),rfl,rfl,rfl,by decide⟩ (by decide) (BI fun _ _ _=>rfl) (by intro x hx;simp at hx;rcases hx with rfl | rfl | rfl <;> rfl) ?_
 intro L;refine EX.cons (E1.expr (EV.zE (mJ g) ((PE.name rfl).then ⟨p,d,fP k,some l,rfl,eu hM,(fun q hq=>by cases hq;exact CD),(PL.cons (PE.tuple ok (PL.cons (PE.name rfl) (PL.cons (PE.name rfl) PL.nil)) (by simp only [bg,bO];lia)) PL.nil).then (O.zF (q:=(x,y)) ok hM (by lia) rfl (EX.nil ?_))⟩)))
 exact ⟨rfl,rfl⟩
end
end Mine
namespace Mine
section
variable {w:World} {mg mb:Str->Option Value} {Z:Frag} (g:GA w mg mb)
include g
theorem Ah {f L:Addr} {fd:FuncData} (h1:∃ of,(CA w mg mb Z).K.lookup f=some of/\of.data = .func fd) (h2:(fd.params.posonlyargs++fd.params.args).head?.map (·.arg)=some (Str.ofString "self"))
  (h3:∃ cc oc vs file tf,fd.code = .ref cc/\(CA w mg mb Z).K.lookup cc=some oc/\oc.data = .fields vs/\vs[2]? = some (.str file tf)/\(((CA w mg mb Z).prog.main.file:Str) == file)=true)
  (h4:(callEnv fd L f).kindOf "super" = some .globalImplicit) (h5:(callEnv fd L f).kindOf "__class__" = some .free) (h6:fd.closure.lookup (Str.ofString "__class__")=some 35):Al (CA w mg mb Z) (callEnv fd L f) f 111 "self" := by
 refine o1_3 h1 fun of a b=>?_;clear h1;refine o1_3 (aS.mp h2) fun ar c e=>?_;exact ⟨h4,h5,rfl,⟨of,fd,ar,a,b,c,e⟩,h3,by rfl,⟨35,_,h6,rfl,rfl⟩,⟨_,_,rfl,rfl⟩,g.non _ rfl,(g.mb _ (by decide)).trans rfl⟩
end
end Mine
end
section
open PySem PySem.W PySem.Calls PyProof.Rows Builtin.ObjectAttr
set_option tactic.hygienic false
namespace Mine
theorem ng (self:Value):refuseLoop self "__setattr__" [.ref 111,.type "list", .type "object"]=pure ():=by rw [refuseLoop_ref];exact qz self
theorem yV {C:Cx} {fd:FuncData} {T:Addr} {o:Obj} {n:Nat} {t0:Tok} {a:AV} {k:Nat} {args:List AV} {x y:Str} (ho:C.K.lookup T=some o) (hs:o.data = .seq #[.int 0 t0] n)
  (h1:∀ u,evO 40 [o] (bindArgs fd ⟨[u],[]⟩)=some ([T],[(x,u),(y,.int 0 t0)])) (h2:∀ u v,evO 40 [o] (bindArgs fd ⟨[u,v],[]⟩)=some ([T],[(x,u),(y,v)])) (ha:args=[a]/\k=0\/args=[a,.int k]):BA C fd args [(x,a),(y,.int k)]:=fun hp X vs r hK hX=>by
 rcases ha with ⟨rfl,rfl⟩ | rfl
 ·refine VRs.eW r fun v _ r rs=>?_
  ·refine VRs.fN rs ?_;exact ⟨_,fun s e M A E Q hq=>kR _ (h1 v) (.cons (e▸hK _ _ ho) .nil) hq,.cons r (.cons (.int ..) .nil)⟩
 ·exact BA.two ho h2 hp X vs r hK hX
section
variable {w:World} {mg mb:Str->Option Value} {Z:Frag} (g:GA w mg mb)
include g
theorem q7 {n:Nat} {M:List (Addr×AO)} {j:Nat} {p d:Addr} {k:Nat} {args:List AV} (hM:M[j]? = some (p,AO.obj 111 d none (some []))) (ha:args=[.raw (.ref p)]/\k=0\/args=[.raw (.ref p),.int k]) :
  FC (CA w mg mb Z) (n+1) 48 M args (fun av M'=>av = .none/\M'=M.set j (p,AO.obj 111 d (fP k) (some []))):=by
 have ok:=okA (Z:=Z) g;refine CN ok (ab:=[("self", .raw (.ref p)),("initial_size", .int k)]) ⟨⟨_,rfl,rfl⟩,⟨_,_,_,_,rfl,rfl,rfl,rfl⟩,rfl,rfl,rfl,?clo,rfl,rfl,rfl,by decide⟩ (by decide) (yV (T:=40) rfl rfl (by intro u;kernel_rfl) (by intro u v;kernel_rfl) ha) (by intro x hx;simp at hx;rcases hx with rfl | rfl <;> rfl) ?_
 case clo =>
  intro x c h;have:c=35:=by
   have h':=mem_of_lookup h;simpa using congrArg Prod.snd (ao.mp h')
  subst this;exact .inl ⟨_,rfl⟩
 intro L;refine B3.cons (rq ok (i:=j) (a:=p) (c:=111) (d:=d) (sq:=some []) ⟨rfl,⟨_,rfl,rfl,rfl,ng⟩,rfl⟩ rfl hM (PE.name rfl) (PE.name rfl) ?_);intro A Y dZ D s Q hA R q;have hM':(M.set j (p,AO.obj 111 d (fP k) (some [])))[j]? = some (p,AO.obj 111 d (fP k) (some [])):=by
  have:j<M.length:=(aM.mp hM).1;rw [List.getElem?_set_self this]
 refine ks_wpAt_execs_cons (ks_wpAt_Expr_any ?_);refine qs ok (c:=111) (d:=d) (kv:=fP k) (sq:=some []) (Ah g ⟨_,rfl,rfl⟩ rfl ⟨_,_,_,_,_,rfl,rfl,rfl,rfl,by first | rfl | kernel_rfl⟩ rfl rfl rfl) z7 (by decide) rfl rfl (eu hM') rfl rfl rfl rfl rfl rfl (by show builtinType _=_;rw [builtinType_eq_fast];kernel_rfl) (fun hI h=>qi hI h) (fun _ _ q=>yq q) (Code.quiet_builtin _ (by decide +kernel)) (entryFor_of_tree (by kernel_rfl))
  (xZ ok (P:=fun av S'=>av = .none/\S'=⟨[("initial_size", .int k),("self", .raw (.ref p))],M.set j (p,AO.obj 111 d (fP k) (some []))⟩) hM' (by simp) ⟨rfl,by simp [List.set_set,fP]⟩) (pl:=pure false) rfl R fun v d8 av eG p eB eN r=>?_
 refine o0_2 p fun rf0 rf1=>?_;clear p;subst rf0;subst rf1;exact _root_.PySem.wpAt_of_wpAny (dm (q _ _ .next _ ⟨rfl,rfl⟩ eB eN .next))
end
end Mine
end
section
open PySem PySem.W PySem.Calls PyProof.Rows
set_option tactic.hygienic false
namespace Mine
theorem BV (c:Addr):∀ vs:List Value,vs.length<=1->argsOk "list.__new__" ⟨.ref c::vs,[]⟩
 | [],_=>by unfold argsOk;kernel_rfl
 | [v],_=>by unfold argsOk;kernel_rfl
 | _::_::_,h=>by simp at h
section
variable {w:World} {mg mb:Str->Option Value} {Z:Frag} (g:GA w mg mb)
include g
theorem wD:oK (CA w mg mb Z).K 111:=⟨⟨_,_,_,_,rfl,rfl,rfl,rfl,rfl⟩,rfl,rfl,rfl,rfl⟩
theorem yW {n:Nat} {M:List (Addr×AO)} {k:Nat} {args:List AV} (ha:args=[]/\k=0\/args=[.int k]) :
  FC (CA w mg mb Z) (n+2) 111 M args (fun av M'=>∃ p d,av = .raw (.ref p)/\M'=M++[(p,AO.obj 111 d (fP k) (some []))]):=by
 have ok:=okA (Z:=Z) g;refine yd ok (fI:=48) (wD g) (fun vs hv=>BV _ vs (by rcases ha with ⟨rfl,_⟩ | rfl <;> simp at hv <;> simp [hv])) rfl rfl fun p d=>?_
 have h:=q7 (Z:=Z) g (n:=n) (M:=M++[(p,AO.obj 111 d none (some []))]) (j:=M.length) (p:=p) (d:=d) (k:=k) (args:=.raw (.ref p)::args) (by simp) (by rcases ha with ⟨rfl,rfl⟩ | rfl <;> simp)
 intro env μ A Y dZ D s vs Q hA R rv q;refine h env μ A Y dZ D s vs Q hA R rv fun v s' av S' pp R' K' r=>q v s' av S' ⟨pp.1,pp.2.1,p,d,rfl,?_⟩ R' K' r;rw [pp.2.2];simp
end
end Mine
namespace Mine
theorem FC.self {C:Cx} {n:Nat} {f p:Addr} {M:List (Addr×AO)} {args:List AV} {P:AV->List (Addr×AO)->Prop} (h:FC C n f M (.raw (.ref p)::args) P) (env:Env) (μ:List (Str×AV)) :
  VN C n env ⟨μ,M⟩ (fun vs=>call (.ref f) (.ref p::vs)) args fun av S'=>S'.μ=μ/\P av S'.M :=
 fun A Y dZ D s vs Q ha R rv q=>h.fn env μ A Y dZ D s (.ref p::vs) Q ha R (.cons (.raw _) rv) q
section
variable {w:World} {mg mb:Str->Option Value} {Z:Frag} (g:GA w mg mb)
include g
end
end Mine
namespace Mine
section
variable {w:World} {mg mb:Str->Option Value} {Z:Frag} (g:GA w mg mb)
include g
theorem Ai:uc (CA w mg mb Z).K 111:=⟨rfl,rfl,rfl,rfl,rfl⟩
end
end Mine
namespace Mine
noncomputable def gZ (q:Str×Str):Nat:=q.1.length+q.2.length
noncomputable def eO (l:List (Str×Str)):Nat:=(l.map gZ).sum
noncomputable def gy (l:List (Str×Str)):Str:=Txt.join "" (l.map fun q=>Txt.join "" [q.1,q.2])
theorem qA (l:List (Str×Str)):preSum (fun j=>((l.map fun q=>((gZ q:Nat):Int)).getD j 0)) l.length=(eO l:Int):=by
 have e:=preSum_getD (l.map fun q=>((gZ q:Nat):Int)) l.length;rw [cT (by simp)] at e
 rw [e];unfold eO;induction l with
 | nil=>rfl
 | cons q l ih =>
   simp only [aU,bD,cJ];rw [<- ih (preSum_getD _ _ |>.trans (by rw [cT (by simp)]))]
theorem vm {prog:Program} {w:World} {A:Around} {E:Value->Shared->Prop} {s:Shared} {env:Env} {x y:Str} {t:Tok} {p p' pos:Pos} {Q:Value->Shared->Prop} {m mg mb:Str->Option Value} (hk:env.scope.kind = .function) (hx:env.kindOf x=some .local) (hn:s.heap.Ns env.locals m) (hm:m x=some (.str y t))
  (hl:env.kindOf "len" = some .globalImplicit) (hg:s.heap.Ns env.globals mg) (hb:s.heap.Ns env.builtins mb) (h1:mg "len" = none) (h2:mb "len" = some (.builtin "len")) (hz:y.length<=1000) (hd:(x == ("__debug__" : Str))=false)
  (q:∀ t' tk,Q (.int y.length t') { s with toks:=tk }) (hs:starEach [.Name x p'] env=[(false,eval (.Name x p') env)]:=by rfl):wpAny (model prog w) A (eval (.Call (.Name "len" p) [.Name x p'] [] pos) env) Q E s:=by
 refine Call_name1 hs (dB hk hl (Calls.loadGlobal_builtin (mg:=mg) (mb:=mb) hg h1 hb h2 ?_) (by decide))
 refine callWith_builtin1 (wpAny_Name (cu hk hx hn hm ?_) hd);exact PyProof.Rows.len_str (by lia) (q _ _)
section
variable {w:World} {mg mb:Str->Option Value} {Z:Frag} (g:GA w mg mb)
theorem wF {h:Heap} {X:List Addr} {p d:Addr} {i:Nat} {l:List (Str×Str)} {C:Cx} (o:OR C h X p (.obj 111 d (fP i) (some l))) :
  ∃ (vs:List Value) (k:Nat) (t:Tok) (od:Obj),h.get? p=some ⟨.ref 111,some d,.seq vs.toArray k,#[]⟩/\InstAt h p ⟨.ref 111,some d,.seq vs.toArray k,#[]⟩ 111 (some od)/\lookIn (Str.ofString "_initial_size") od=some (some (.int i t)):=by
 refine o0_2 o fun z1 zz=>?_;refine o4_6 zz fun hs tk ep u e2 r2=>?_;clear o;refine o2_4 z1 fun vs k e r=>?_;clear z1;refine VR.pK r2 ?_;clear r2;intro t e_0;cases e_0
 ·exact ⟨vs,k,t,_,e,⟨e,rfl,rfl,e2⟩,by simp [lookIn,Value.isStr]⟩
theorem wG (P:Params) {o:Obj} {v:Value} (h:lookIn (Str.ofString "_initial_size") o=some (some v)):findObj (KA P) 111 (some o) "_initial_size" = some (.value v):=by
 have e:findObj (KA P) 111 (some o) "_initial_size" = (lookIn (Str.ofString "_initial_size") o).bind fun (own:Option Value)=>(match own with
  | some v=>some (.value v)
  | none=>some .missing):=rfl
 rw [e,h];rfl
include g
theorem biA:BIn (CA w mg mb Z):=⟨_,_,g.glo _ _ rfl,by decide,rfl,rfl,rfl,rfl⟩
theorem yN {n:Nat} {M:List (Addr×AO)} {p d:Addr} {k:Nat} {l:List (Str×Str)} (hM:(p,AO.obj 111 d (fP k) (some l)) ∈ M) (hz:l.length<=1000) (hq:∀ q ∈ l,q.1.length<=1000/\q.2.length<=1000) :
  FC (CA w mg mb Z) (n+1) 78 M [.raw (.ref p)] (fun av M'=>av = .int ((k:Int)+eO l)/\M'=M):=by
 have ok:=okA (Z:=Z) g;refine gO ok (ab:=[("self", .raw (.ref p))]) ⟨⟨_,rfl,rfl⟩,⟨_,_,_,_,rfl,rfl,rfl,rfl⟩,rfl,rfl,rfl,(fun x c h=>by cases h),rfl,rfl,rfl,by decide⟩ (by decide) (bind1 fun _=>rfl) (by intro x hx;simp at hx;subst hx;rfl) ?_
 intro L;refine EX.cons (E1.ret ?_);intro A Y dZ D s Q ha R q;refine cL ((PE.gB (x := "sum") (v:=.builtin "sum") (C:=CA w mg mb Z) (n:=n) rfl (g.non _ rfl) ((g.mb _ (by decide)).trans rfl) (by decide)) A Y dZ D s _ ha R fun f ee BQ d7 jx d9 eE fy=>?_)
 refine o0_2 jx fun rf0 rf1=>?_;clear jx;subst rf0;subst rf1
 (refine VR.gX fy fun e_0=>?_;subst e_0)
 refine PyProof.Rows.callWith_builtin1 ?_ rfl rfl;refine c9 ?_ rfl;refine vM ok (c:=77) (P:=73) (Fv:=fun q v=>∃ t,v = .int (gZ q:Nat) t) rfl (by rfl) (by decide) rfl rfl rfl (by decide) rfl ⟨⟨_,_,_,_,_,_,_,_,_,rfl,rfl,rfl,rfl,rfl,rfl,rfl,rfl,rfl⟩,by decide⟩ rfl (aj ..) (biA g) (Ai g) (PE.name rfl) hM ?hel ha d9 ?hk
 case hel =>
  intro A' E' cs Ca code bn d8 mS q t u hA hq' hns hma hmb hg hb eg eb;subst eb;refine o0_2 (hq q hq') fun z1 z2=>?_;refine wpAny_BinOp (vm (m:=mS) (mg:=mg) (mb:=mb) (y:=q.1) (t:=t) rfl rfl hns hma rfl hg hb (g.non _ rfl) ((g.mb _ (by decide)).trans rfl) z1 (by decide) fun t1 k1=>?_)
  refine vm (m:=mS) (mg:=mg) (mb:=mb) (y:=q.2) (t:=u) rfl rfl hns hmb rfl hg hb (g.non _ rfl) ((g.mb _ (by decide)).trans rfl) z2 (by decide) fun t2 k2=>?_
  exact add_int ⟨⟨_,congrArg (fun z=>Value.int z _) (show ((q.1.length:Int)+q.2.length)=((gZ q:Nat):Int) from (cJ _ _).symm)⟩,_,_,rfl,fun _ _ e=>e⟩
 case hk =>
  intro a fp wr G St gr gF mO W hst hty hafp hfp hback;refine c9 ?_ rfl;show wpAny _ _ (eval (.Attribute (.Name "self" _) "_initial_size" _) _) _ _ _
  rw [arm_eval_Attribute];show wpAny _ _ (eval (.Name "self" _) _ >>= _) _ _ _
  refine o1_3 gF.fr.loc fun m hn hm=>?_;refine o1_3 (hm "self" (.raw (.ref p)) rfl rfl) fun v e1 rv=>?_
  (refine VR.gX rv fun e_0=>?_;subst e_0)
  refine ah (wpAny_Name (cu rfl rfl hn e1 ?_) (by decide))
  refine o4_7 (wF (gF.ob _ hM)) fun vs kk tk od e2 I e3=>?_;refine ah (bY (ah (bw (ni gF.bs.K (Ai g) I rfl rfl (wG _ e3) rfl ?_))));refine ah (wpAny_letTemporaryGo (ak ?_));refine wpAny_items_nil ?_;have W1:=W.in4_1;have hst':St 0 { gr with toks:=gr.toks+1 }:=W.frame 0 gr _ _ hst (Nat.le_succ _) fun _ _ _ e=>e
  refine call_sum2 (W1.self 0 _ _ _ hst' ⟨a,fp,wr,G,l.length,_,St,fun j=>((l.map fun q=>((gZ q:Nat):Int)).getD j 0),rfl,W1,hst',hfp,fun j v h=>?_,fun s' t' hm'=>?_⟩)
  ·refine o1_3 h fun q hq zz=>?_;refine o1_2 zz fun t rf3=>?_;clear h;subst rf3;exact ⟨t,by simp [bA,hq]⟩
  ·rw [qA];have hm5:Moved wr G gr s':=⟨hm'.heap,hm'.gens,hm'.drawn,hm'.os,bC (Nat.le_succ _) hm'.toks⟩;refine o0_2 (hback s' hm5) fun R6 K6=>?_;exact q _ _ _ _ ⟨rfl,rfl⟩ R6 (eE.trans K6) (.int ..)
end
end Mine
namespace Mine
theorem sU {prog:Program} {w:World} {A:Around} {E:Value->Shared->Prop} {s:Shared} {env:Env} {nm x:Str} {t:Tok} {e:Expr} {p apos pos:Pos} {Q:Value->Shared->Prop} {mg:Str->Option Value} (hk:env.scope.kind = .function) (hn:env.kindOf nm=some .globalImplicit) (hg:s.heap.Ns env.globals mg) (hm:mg nm=some (.str x t))
  (h:wpAny (model prog w) A (eval e env) (fun v ee=>wpAny (model prog w) A (call (.builtin "str.join") [.str x t,v]) Q E ee) E s) (hd:(nm == ("__debug__" : Str))=false)
  (hbase:attributeBase (.Name nm p) "join" env (eval (.Name nm p) env)=eval (.Name nm p) env:=by rfl)
  (hfew:((backTo pos (starEach [e] env)).all (fun x=>!x.1) && (backToKw pos (keywordEach [] env)).all (fun x=>x.1.isSome) && decide ([e].length+([]:List Keyword).length+(if ([]:List Keyword).isEmpty then 0 else 1)<30))=true:=by rfl)
  (hline:(apos.endLine == pos.line)=true:=by rfl) (he:starEach [e] env=(false,eval e env)::starEach [] env:=by rfl) :
  wpAny (model prog w) A (eval (.Call (.Attribute (.Name nm p) "join" apos) [e] [] pos) env) Q E s:=by
 refine dN hbase hfew hline (dB hk hn (Calls.loadGlobal_global (mg:=mg) hg hm ?_) hd);refine ⟨"str", "str.join", PySem.F.plainAttrs_str,PySem.F.slot_str_join,PySem.F.type_str_join,dG _ _ _,(fun _ e=>nomatch e),?_⟩
 have h':wpAny (model prog w) A (spliced (backTo pos (starEach [e] env))) (fun vs s'=>wpAny (model prog w) A (call (.builtin "str.join") ([.str x t]++vs)) Q E s') E s:=c9 (bx h (fun v ee z=>wpAny_items_nil z) fun _ _ e=>e) he
 rw [he] at h' ⊢;exact cC rfl (evalArgs_plain h')
section
variable {w:World} {mg mb:Str->Option Value} {Z:Frag} (g:GA w mg mb)
include g
theorem AI {n:Nat} {M:List (Addr×AO)} {p d:Addr} {k:Nat} {l:List (Str×Str)} (hM:(p,AO.obj 111 d (fP k) (some l)) ∈ M) (hz:l.length<=1000) (hq:∀ q ∈ l,q.1.length<=100/\q.2.length<=100) :
  FC (CA w mg mb Z) (n+1) 85 M [.raw (.ref p)] (fun av M'=>av = .str (gy l)/\M'=M):=by
 have ok:=okA (Z:=Z) g;have sl:sizeLine=16777216:=by decide
 refine gO ok (ab:=[("self", .raw (.ref p))]) ⟨⟨_,rfl,rfl⟩,⟨_,_,_,_,rfl,rfl,rfl,rfl⟩,rfl,rfl,rfl,(fun x c h=>by cases h),rfl,rfl,rfl,by decide⟩ (by decide) (bind1 fun _=>rfl) (by intro x hx;simp at hx;subst hx;rfl) ?_
 intro L;refine EX.cons (E1.ret ?_);intro A Y dZ D s Q ha R q;refine sU (mg:=mg) rfl rfl R.bs.g (g.glo _ _ rfl) ?_ (by decide)
 refine vM ok (c:=84) (P:=80) (Fv:=fun q v=>∃ t,v = .str (Txt.join "" [q.1,q.2]) t) rfl (by rfl) (by decide) rfl rfl rfl (by decide) rfl ⟨⟨_,_,_,_,_,_,_,_,_,rfl,rfl,rfl,rfl,rfl,rfl,rfl,rfl,rfl⟩,by decide⟩ rfl (ai _ (aj ..)) (biA g) (Ai g) (PE.name rfl) hM ?hel ha R ?hk
 case hel =>
  intro A' E' cs Ca code bn d8 mS q t u hA hq' hns hma hmb hg hb eg eb;subst eb;refine o0_2 (hq q hq') fun z1 z2=>?_;refine sU (mg:=mg) rfl rfl hg (g.glo _ _ rfl) ?_ (by decide)
  refine wpAny_Tuple (c9 (wpAny_Name (cu rfl rfl hns hma ?_) (by decide)) rfl)
  refine c9 (wpAny_Name (cu rfl rfl hns hmb ?_) (by decide)) rfl
  refine wpAny_items_nil ⟨by simp [sl],?_⟩
  refine join_tupleW (ys:=[q.1,q.2]) ⟨_,aI _ rfl,rfl,_,rfl⟩ (.cons _ _ (.cons _ _ .nil)) (by decide) (by simp;lia) fun t' kk=>⟨⟨_,rfl⟩,_,_,rfl,fun _ _ e=>aA _ e⟩
 case hk =>
  intro a fp wr G St gr gF mO W hst hty hafp hfp hback;refine SC.joinGen W.in4_2 hty hst hfp hafp (fun j v h=>?_) (fun s' ll hm hit=>?_) (by lia)
  ·refine o1_3 h fun q _ zz=>?_;refine o1_2 zz fun t rf3=>?_;clear h;subst rf3;exact ⟨_,_,rfl⟩
  ·refine o0_2 (hback s' hm) fun R6 K6=>?_;have hll:ll.map (·.1)=l.map fun q=>Txt.join "" [q.1,q.2]:=by
    refine o0_2 hit fun h1 h2=>?_;clear hit;have hlen:ll.length=l.length:=by simpa [strValues] using h1
    apply List.ext_getElem?;intro i;by_cases hi:i<l.length
    ·have hi2:i<ll.length:=by lia
     refine o1_3 (h2 i (.str ll[i].1 ll[i].2) (by simp [strValues,hi2])) fun q hq zz=>?_
     refine o1_2 zz fun t hv=>?_;have e0:=(Value.str.inj hv).1;have e1:l[i]=q:=by
      rw [aX hi] at hq;exact bE hq
     rw [aQ,aQ,aX hi,aX hi2];simp only [Option.map_some,e1,e0]
    ·rw [cX (by simp;lia),cX (by simp;lia)]
   refine ⟨?_,fun t' kk=>q _ _ _ _ ⟨?_,rfl⟩ (R6.go ok (.toks ..)) (K6.trans (Kp.go R6 (.toks ..))) (.str ..)⟩
   ·rw [hll];refine joinOk_of_weight ?_ (by decide)
    have hb:∀ q ∈ l,(Txt.join "" [q.1,q.2]).length<=200:=fun q hq'=>by
     refine o0_2 (hq q hq') fun z1 z2=>?_;refine bC (StrLaws.join_length_le "" [q.1,q.2]) ?_
     have:("" : Str).length=0:=rfl
     simp [this];lia
    have:∀ m:List (Str×Str),(∀ q ∈ m,(Txt.join "" [q.1,q.2]).length<=200)->((m.map fun q=>Txt.join "" [q.1,q.2]).map (·.length)).sum<=200 * m.length:=fun m=>by
     induction m with
     | nil=>intro _;simp
     | cons q m ih =>
       intro h;have h1:=h q (aj ..);have h2:=ih fun q hq=>h q (ai _ hq);simp only [aU,bD,bg] at h2 ⊢;lia
    have:=this l hb;simp only [az] at this ⊢;lia
   ·rw [hll];rfl
end
end Mine
end
section
open PySem PySem.W PySem.Calls PyProof.Rows Builtin
namespace Mine
theorem Ba {prog:Program} {w:World} {A:Around} {E:Value->Shared->Prop} {s:Shared} {K:Frag} {x c f:Addr} {ox:Obj} {od:Option Obj} {Q:Value->Shared->Prop} (X:K.In s.heap) (I:InstAt s.heap x ox c od) (hs:findIn K (.ref c) "__len__" = some (some (.ref f))) (hf:isFn K (.ref f)=true)
  (h:wpAny (model prog w) A.in1 (call (.ref f) [.ref x]) (W.LenBack Q) E s):wpAny (model prog w) A (call (.builtin "len") [.ref x]) Q E s:=by
 refine Calls.call_function_entry kind_len plain_len entry_len (args_len1 _) ?_;unfold Builtin.«len»;refine ah (m:=oneArg "len" _) (ak ?_)
 refine ah (m:=callSpecial? (.ref x) (Str.ofString "__len__")) (special_fn X I hs (cI.mp hf) (bx h (fun r s' hr=>?_) fun _ _ y=>y))
 cases r <;> first | exact hr.elim | skip
 rename_i n u;refine o0_2 hr fun z1 hq=>?_;clear hr;refine o0_2 z1 fun h0 h1=>?_;clear z1;refine ah (bw (ak ?_));refine ah (wpAny_letGo ?_);show wpAny _ _ (if n<0 then _ else _) _ _ _
 rw [aq (by lia)]
 show wpAny _ _ (if n ≥ 2 ^ 63 then _ else _) _ _ _
 rw [aq (by lia)]
 exact ah (wpAny_mkInt (ak ⟨_,rfl,hq⟩))
theorem nh {l:List (Str×Str)} (hq:∀ q ∈ l,q.1.length<=1000/\q.2.length<=1000):eO l<=2000 * l.length:=by
 unfold eO;induction l with
 | nil=>simp
 | cons q l ih =>
   have h1:=hq q (aj ..);have h2:=ih fun q h=>hq q (ai _ h);simp only [aU,bD,bg,gZ] at h2 ⊢;lia
section
variable {w:World} {mg mb:Str->Option Value} {Z:Frag} (g:GA w mg mb)
include g
theorem O.vj {n:Nat} {env:Env} {S:St} {p d:Addr} {k:Nat} {l:List (Str×Str)} (hM:(p,AO.obj 111 d (fP k) (some l)) ∈ S.M) (hz:l.length<=1000) (hq:∀ q ∈ l,q.1.length<=1000/\q.2.length<=1000) (hk:k<=1000) :
  PN (CA w mg mb Z) (n+2) env S (fun vs=>call (.builtin "len") vs) [.raw (.ref p)] (.int ((k:Int)+eO l)):=fun A Y dZ D s vs Q ha R r q=>by
 refine VRs.eW r fun _ _ r rs=>?_
 ·
  refine VRs.fN rs ?_;refine VR.fM r ?_;refine o3_6 (lZ (R.ob _ hM)) fun vs kk od e I _=>?_;refine Ba R.bs.K I (f:=78) rfl rfl ?_;refine (yN g (n:=n) hM hz hq).fn env S.μ A.in1 Y dZ D s [.ref p] _ ha.in1 R (.cons (.raw _) .nil) fun v s' av S' pp R' K' rr=>?_;refine o0_3 pp fun e1 rf1 e3=>?_;clear pp;subst rf1;have eS:S'=S:=by obtain ⟨μ,M⟩:=S';cases e1;cases e3;rfl
  subst eS;refine VR.ff rr fun t=>?_
  ·
   have:=nh hq;refine ⟨⟨by lia,by lia⟩,?_⟩
   exact q _ _ _ _ ⟨rfl,rfl⟩ (R'.go (okA (Z:=Z) g) (.toks ..)) (K'.trans (Kp.go R' (.toks ..))) (.int ..)
theorem O.zj {n:Nat} {env:Env} {S:St} {p d:Addr} {k:Nat} {l:List (Str×Str)} (hM:(p,AO.obj 111 d (fP k) (some l)) ∈ S.M) (hz:l.length<=1000) (hq:∀ q ∈ l,q.1.length<=100/\q.2.length<=100) :
  P1 (CA w mg mb Z) (n+3) env S (fun v=>call (.type "str") [v]) (.raw (.ref p)) (.str (gy l)):=fun A Y dZ D s v Q ha R r q=>by
 refine VR.fM r ?_;refine o3_6 (lZ (R.ob _ hM)) fun vs kk od e I _=>?_;refine kso_call (k8 ha.in1.in1) R.bs.K I (f:=85) rfl rfl ?_;refine (AI g (n:=n) hM hz hq).fn env S.μ A.in1.in1 Y dZ D s [.ref p] _ ha.in1.in1 R (.cons (.raw _) .nil) fun v s' av S' pp R' K' rr=>?_;refine o0_3 pp fun e1 rf1 e3=>?_;clear pp;subst rf1;have eS:S'=S:=by obtain ⟨μ,M⟩:=S';cases e1;cases e3;rfl
 subst eS;refine VR.fO rr fun t=>?_
 ·exact q _ _ _ _ ⟨rfl,rfl⟩ R' K' (.str ..)
end
end Mine
end
section
open PySem PySem.W PySem.Calls PyProof.Rows Builtin.ObjectAttr Builtin
namespace Mine
theorem CR {C:Cx} {fd:FuncData} {T:Addr} {o:Obj} {n:Nat} {a b:AV} {args:List AV} {x y:Str} (ho:C.K.lookup T=some o) (hs:o.data = .seq #[.none] n)
  (h1:∀ u,evO 40 [o] (bindArgs fd ⟨[u],[]⟩)=some ([T],[(x,u),(y,.none)])) (h2:∀ u v,evO 40 [o] (bindArgs fd ⟨[u,v],[]⟩)=some ([T],[(x,u),(y,v)])) (ha:args=[a]/\b = .none\/args=[a,b]):BA C fd args [(x,a),(y,b)]:=fun hp X vs r hK hX=>by
 rcases ha with ⟨rfl,rfl⟩ | rfl
 ·refine VRs.eW r fun v _ r rs=>?_;refine VRs.fN rs ?_;exact ⟨_,fun s e M A E Q hq=>kR _ (h1 v) (.cons (e▸hK _ _ ho) .nil) hq,.cons r (.cons .none .nil)⟩
 ·exact BA.two ho h2 hp X vs r hK hX
section
variable {prog:Program} {w:World} {A:Around} {E:Value->Shared->Prop} {s:Shared} {K:Frag} {x c f:Addr} {ox:Obj} {od:Option Obj}
theorem uy {Q:Bool->Shared->Prop} (X:K.In s.heap) (I:InstAt s.heap x ox c od) (hb:findIn K (.ref c) "__bool__" = some none) (hs:findIn K (.ref c) "__len__" = some (some (.ref f))) (hf:isFn K (.ref f)=true)
  (h:wpAny (model prog w) A.in1 (call (.ref f) [.ref x]) (W.LenBack fun v s'=>∃ n t,v = .int n t/\Q (n != 0) s') E s):wpAny (model prog w) A (truthy (.ref x)) Q E s:=by
 unfold truthy;refine ah (m:=callSpecial? (.ref x) (Str.ofString "__bool__")) (ah (ah (I.type.here ((cA X hb).here (ak ?_)))))
 refine ah (ah (I.type.here ((cA X hs).here ?_)));show wpAny _ _ (if (some (Value.ref f)).isNone=true then _ else _) _ _ _
 rw [aq (by simp)]
 refine ah (wpAny_runValue (codeAny_builtin entry_len ?_));rw [Around.under_plainId plain_len _];unfold Builtin.«len»;refine ah (m:=oneArg "len" _) (ak ?_)
 refine ah (m:=callSpecial? (.ref x) (Str.ofString "__len__")) (special_fn X I hs (cI.mp hf) (bx h (fun r s' hr=>?_) fun _ _ y=>y))
 cases r <;> first | exact hr.elim | skip
 rename_i n u;refine o0_2 hr fun z1 hq=>?_;clear hr;refine o0_2 z1 fun h0 h1=>?_;clear z1;refine ah (bw (ak ?_));refine ah (wpAny_letGo ?_);show wpAny _ _ (if n<0 then _ else _) _ _ _
 rw [aq (by lia)]
 show wpAny _ _ (if n ≥ 2 ^ 63 then _ else _) _ _ _
 rw [aq (by lia)]
 refine ah (wpAny_mkInt (ak ?_));refine o2_4 hq fun n' t' e hq=>?_;cases e;exact ak hq
end
section
variable {w:World} {mg mb:Str->Option Value} {Z:Frag} (g:GA w mg mb)
include g
theorem jE:Meth (CA w mg mb Z) 111 "reset" (.ref 93):=⟨⟨"list.__getattribute__", rfl,by decide +kernel⟩,rfl,rfl,⟨"function", rfl,rfl⟩,.inl rfl⟩
theorem mH:Meth (CA w mg mb Z) 111 "is_onlyws" (.ref 100):=⟨⟨"list.__getattribute__", rfl,by decide +kernel⟩,rfl,rfl,⟨"function", rfl,rfl⟩,.inl rfl⟩
theorem wC:nK (CA w mg mb Z).K 111:=⟨rfl,⟨_,rfl,rfl,rfl,ng⟩,rfl⟩
theorem rL {n:Nat} {M:List (Addr×AO)} {j:Nat} {p d:Addr} {k:Nat} {l l':List (Str×Str)} {args:List AV} (hM:M[j]? = some (p,AO.obj 111 d (fP k) (some l))) (hz:l.length<=1000) (hz':l'.length<=1000)
  (ha:(args=[.raw (.ref p)]/\l'=[])\/args=[.raw (.ref p),.lst (l'.map gu)]) :
  FC (CA w mg mb Z) (n+1) 93 M args (fun av M'=>av = .none/\M'=M.set j (p,AO.obj 111 d (fP 0) (some l'))):=by
 have ok:=okA (Z:=Z) g;have hj:j<M.length:=(aM.mp hM).1;have hset:∀ sv:AV,∀ {L:Addr} {body:List Stmt} {fd:FuncData} {c:Code} {pp:Pos},True:=fun _ _ _ _ _ _=>trivial;refine o1_3 (by
  rcases ha with ⟨h1,h2⟩ | h1
  ·exact ⟨.none,.inl ⟨h1,rfl⟩,.inl ⟨rfl,h2⟩⟩
  ·exact ⟨_,.inr h1,.inr rfl⟩:∃ b:AV,(args=[.raw (.ref p)]/\b = .none\/args=[.raw (.ref p),b])/\(b = .none/\l'=[]\/b = .lst (l'.map gu))) fun b ha' hb=>?_
 refine gO ok (ab:=[("self", .raw (.ref p)),("startval", b)]) ⟨⟨_,rfl,rfl⟩,⟨_,_,_,_,rfl,rfl,rfl,rfl⟩,rfl,rfl,rfl,(fun x c h=>by cases h),rfl,rfl,rfl,by decide⟩ (by decide) (CR (T:=86) rfl rfl (by intro u;kernel_rfl) (by intro u v;kernel_rfl) ha') (by intro x hx;simp at hx;rcases hx with rfl | rfl <;> rfl) ?_
 intro L;refine EX.cons ?_;refine G.mono (P:=fun f S'=>f = .next/\S'=⟨[("startval", .lst (l'.map gu)),("self", .raw (.ref p))],M⟩) ?_ ?_
 ·rcases hb with ⟨rfl,rfl⟩ | rfl
  ·refine E1.ite ((PT.cmp (PE.name rfl) PE.nul (O.fY ok rfl)).then ?_)
   rw [ay rfl];refine EX.cons ?_;refine E1.loc ok ?_;exact (PE.list ok PL.nil).then (EX.nil ⟨rfl,rfl⟩)
  ·refine E1.ite ((PT.cmp (PE.name rfl) PE.nul (O.fY ok rfl)).then ?_)
   rw [aq (by decide)]
   exact EX.nil ⟨rfl,rfl⟩
 intro f S' hz;refine o0_2 hz fun rf0 rf1=>?_;clear hz;subst rf0;subst rf1;refine EX.cons (ue ok (Ai g) hM (PE.name rfl) (PE.name rfl) hz hz' ?_);refine EX.cons (rm ok (i:=j) (a:=p) (c:=111) (d:=d) (sq:=some l') (av0:=.int k) (av:=.int 0) (wC g) rfl (List.getElem?_set_self hj) (PE.int ok) (PE.name rfl) ?_);exact EX.nil ⟨rfl,by rw [List.set_set];rfl⟩
theorem uT {n:Nat} {M:List (Addr×AO)} {j:Nat} {p d:Addr} {k:Nat} {l:List (Str×Str)} (hM:M[j]? = some (p,AO.obj 111 d (fP k) (some l))) (hz:l.length<=1000) :
  FC (CA w mg mb Z) (n+1) 63 M [.raw (.ref p)] (fun av M'=>av = .lst (l.map gu)/\M'=M.set j (p,AO.obj 111 d (fP k) (some []))):=by
 have ok:=okA (Z:=Z) g;refine gO ok (ab:=[("self", .raw (.ref p)),("i", .int (0:Nat))]) ⟨⟨_,rfl,rfl⟩,⟨_,_,_,_,rfl,rfl,rfl,rfl⟩,rfl,rfl,rfl,(fun x c h=>by cases h),rfl,rfl,rfl,by decide⟩ (by decide) (yV (T:=56) rfl rfl (by intro u;kernel_rfl) (by intro u v;kernel_rfl) (.inl ⟨rfl,rfl⟩)) (by intro x hx;simp at hx;rcases hx with rfl | rfl <;> rfl) ?_
 intro L;refine EX.cons (E1.assign ok (.inl rfl) ((EV.A2 ok (Ai g) (eu hM) (PE.name rfl) (PE.name rfl) (bR _) hz).then ?_))
 refine EX.cons (An ok (Ai g) hM (PE.list ok PL.nil) (PE.name rfl) (PE.name rfl) (bR _) hz ?_);exact EX.cons (E1.ret ((PE.name rfl).then ⟨rfl,rfl⟩))
theorem PE.size {n:Nat} {env:Env} {S:St} {e:Expr} {pos:Pos} {p d:Addr} {k:Nat} {l:List (Str×Str)} (h:PE (CA w mg mb Z) n env S e (.raw (.ref p))) (hM:(p,AO.obj 111 d (fP k) (some l)) ∈ S.M)
  (hbase:attributeBase e "_initial_size" env (eval e env)=eval e env:=by rfl):PE (CA w mg mb Z) n env S (.Attribute e "_initial_size" pos) (.int k):=fun A Y dZ D s Q ha R q=>by
 show wpAny _ _ (eval (.Attribute e "_initial_size" pos) env) _ _ _
 rw [arm_eval_Attribute,hbase];refine ah (G.at h ha R fun v ee d9 eE r=>?_);refine VR.fM r ?_;refine o4_7 (wF (d9.ob _ hM)) fun vs kk tk od e2 I e3=>?_;refine ah (bY (ah (bw (ni d9.bs.K (Ai g) I rfl rfl (wG _ e3) rfl ?_))));exact ah (wpAny_letTemporaryGo (ak (q _ _ _ _ ⟨rfl,rfl⟩ (d9.go (okA (Z:=Z) g) (.toks ..)) (eE.trans (Kp.go d9 (.toks ..))) (.int ..))))
theorem T1.acc {n:Nat} {env:Env} {S:St} {p d:Addr} {k:Nat} {l:List (Str×Str)} (hM:(p,AO.obj 111 d (fP k) (some l)) ∈ S.M) (hz:l.length<=1000) (hq:∀ q ∈ l,q.1.length<=1000/\q.2.length<=1000) (hk:k<=1000) :
  T1 (CA w mg mb Z) (n+2) env S (.raw (.ref p)) (((k:Int)+eO l) != 0):=fun A Y dZ D s v Q ha R r q=>by
 refine VR.fM r ?_;refine o3_6 (lZ (R.ob _ hM)) fun vs kk od e I _=>?_;refine uy R.bs.K I (f:=78) rfl rfl rfl ?_;refine (yN g (n:=n) hM hz hq).fn env S.μ A.in1 Y dZ D s [.ref p] _ ha.in1 R (.cons (.raw _) .nil) fun v s' av S' pp R' K' rr=>?_;refine o0_3 pp fun e1 rf1 e3=>?_;clear pp;subst rf1;have eS:S'=S:=by obtain ⟨μ,M⟩:=S';cases e1;cases e3;rfl
 subst eS;refine VR.ff rr fun t=>?_;have:=nh hq;refine ⟨⟨by lia,by lia⟩,_,_,rfl,?_⟩
 exact q _ _ _ _ ⟨rfl,rfl⟩ (R'.go (okA (Z:=Z) g) (.toks ..)) (K'.trans (Kp.go R' (.toks ..))) rfl
noncomputable def iE (k:Nat) (l:List (Str×Str)):Bool:=((k:Int) == 0) && (!(((k:Int)+eO l) != 0) || Txt.isspace (gy l))
theorem uX {n:Nat} {M:List (Addr×AO)} {p d:Addr} {k:Nat} {l:List (Str×Str)} (hM:(p,AO.obj 111 d (fP k) (some l)) ∈ M) (hz:l.length<=1000) (hq:∀ q ∈ l,q.1.length<=100/\q.2.length<=100) (hk:k<=1000) :
  FC (CA w mg mb Z) (n+4) 100 M [.raw (.ref p)] (fun av M'=>av = .bool (iE k l)/\M'=M):=by
 have ok:=okA (Z:=Z) g;refine gO ok (ab:=[("self", .raw (.ref p))]) ⟨⟨_,rfl,rfl⟩,⟨_,_,_,_,rfl,rfl,rfl,rfl⟩,rfl,rfl,rfl,(fun x c h=>by cases h),rfl,rfl,rfl,by decide⟩ (by decide) (bind1 fun _=>rfl) (by intro x hx;simp at hx;subst hx;rfl) ?_
 intro L;refine EX.cons (E1.ret ?_);refine (PE.BL (PE.cmp (PE.size g (PE.name rfl) hM) (PE.int ok) (O.eq ok)) fun _=>PE.Dj (PE.Dk (PE.name rfl) (T1.acc g hM hz (fun q h=>⟨by have:=(hq q h).1;lia,by have:=(hq q h).2;lia⟩) hk)) fun _=>PE.isspace ok (PE.jo (PE.gB rfl (g.non _ rfl) ((g.mb _ (by decide)).trans rfl)) (PE.name rfl) (O.zj g hM hz hq))).then ⟨rfl,rfl⟩
end
end Mine
end
section
open PySem PySem.W PySem.Calls PyProof.Rows
set_option tactic.hygienic false
namespace Mine
noncomputable def lK:Str := "_law_order.<locals>.<lambda>"
theorem BK {fd:FuncData} {x y z:Str} {a b c:AV} (h:∀ u v q,bindArgs fd ⟨[u,v,q],[]⟩=pure [(x,u),(y,v),(z,q)]) :
  ∀ vs:List Value,vs.length=[a,b,c].length->∃ bs,bindArgs fd ⟨vs,[]⟩=pure bs/\∀ h X,VRs h X vs [a,b,c]->PRs h X bs [(x,a),(y,b),(z,c)] :=
 fun vs e=>by
 refine o2_4 (len_cons e) fun u _ rf2 e1=>?_;subst rf2;refine o2_4 (len_cons e1) fun v _ rf2 e2=>?_;subst rf2;refine o2_4 (len_cons e2) fun q _ rf2 e3=>?_;subst rf2;cases len_nil e3;exact ⟨_,h u v q,fun _ _ r=>.cons r.hd (.cons r.tl.hd (.cons r.tl.tl.hd .nil))⟩
theorem wu {fd:FuncData} {x:Str} {a:AV} (h:∀ u,bindArgs fd ⟨[u],[]⟩=pure [(x,u)]) :
  ∀ vs:List Value,vs.length=[a].length->∃ bs,bindArgs fd ⟨vs,[]⟩=pure bs/\∀ h X,VRs h X vs [a]->PRs h X bs [(x,a)] :=
 fun vs e=>by
 refine o2_4 (len_cons e) fun u _ rf2 e1=>?_;subst rf2;cases len_nil e1;exact ⟨_,h u,fun _ _ r=>.cons r.hd .nil⟩
theorem g9 {α β:Type} {f g:α->List β} {l:List α} (h:∀ x ∈ l,f x=g x):l.flatMap f=l.flatMap g:=by
 rw [List.flatMap_def,List.flatMap_def,bh h]
theorem kr {α:Type} {A:List α} {x:α}:(A++[x])[(A++[x]).length - 1]? = some x:=by simp
theorem Iter.lets {C:Cx} (ok:C.Ok) {n:Nat} {env:Env} {S:St} {l:List Nat}:Iter C n env S (.str (lets l)) (l.map ltV):=by
 rw [<- nJ];exact Iter.str ok
theorem xe (wt:Nat->Nat->Nat) (a b:List Nat):(a.flatMap fun x=>b.map fun y=>(wt x y:Int)).sum=((a.flatMap fun x=>b.map fun y=>wt x y).sum:Nat):=by
 have:∀ l:List Nat,(l.map fun n:Nat=>(n:Int)).sum=(l.sum:Nat):=fun l=>by
  induction l with
  | nil=>rfl
  | cons a l ih=>simp only [aU,bD,ih,cJ]
 rw [<- this,List.map_flatMap];congr 1;exact g9 fun x _=>by rw [br];rfl
noncomputable abbrev xO (late:Bool) (aW:Addr) (oC:Obj) (row:AV) (aT aO:Addr):List (Str×AV):=[("late", .bool late),("worth", .raw (.ref aW)),("crowds", .ob oC []),("row", row),("tied", .raw (.ref aT)),("order", .raw (.ref aO))]
noncomputable abbrev Cj (aR aO aT:Addr) (row done:List Nat) (t:Nat->Nat) (hs:List Nat) (cs:jN) (R:List (Addr×AO)):List (Addr×AO) :=
 (aR,.list (row.map ltV))::(aO,.list (done.map ltV))::(aT,.eY (qo t hs))::(fH 321 cs++R)
section
variable {w:World} {mg mb:Str->Option Value} {Z:Frag} (g:GA w mg mb)
include g
theorem ciO:jF (CA w mg mb Z).K 323 321:=⟨⟨_,_,_,_,_,_,_,_,_,rfl,rfl,rfl,rfl,rfl,rfl,rfl,rfl,rfl⟩,by decide⟩
theorem xM {n:Nat} {R:List (Addr×AO)} {cs:jN} {aW:Addr} {wl:List (Str×AV)} {wt:Nat->Nat->Nat} {oC:Obj} {cw:Cw} {late:Bool} (hcs:fD lK cs) (hW:(aW,AO.eY wl) ∈ R) (dC:DOb (CA w mg mb Z) (sK _) oC (cwL cw)) (hn:(cw.map (·.1)).Nodup) (hz:cw.length<=5)
  (hw:∀ c ∈ cw,∀ c' ∈ cw,c.1≠c'.1->∀ x ∈ c.2,∀ y ∈ c'.2,ie wl (ltr x++ltr y)=some (.int (wt x y:Nat))) (hlen:∀ c ∈ cw,c.2.length<=5) :
  FC (CA w mg mb Z) (n+4) 324 (fH 321 cs++R) [.ob oC [],.raw (.ref aW),.bool late] (fun av M'=>av = .lst ((kY (crW wt cw) late cw.length (cw.map (·.1)) fun _=>0).map ltV)/\∃ cs',fD lK cs'/\M'=fH 321 cs'++R):=by
 have ok:=okA (Z:=Z) g;have sl:sizeLine=16777216:=by decide
 refine mh ok (ab:=[("crowds", .ob oC []),("worth", .raw (.ref aW)),("late", .bool late)]) ⟨⟨_,rfl,rfl⟩,⟨_,_,_,_,rfl,rfl,rfl,rfl⟩,rfl,rfl,rfl,(fun x c h=>by cases h),rfl,rfl,rfl,by decide⟩ (by decide) (by decide) rfl (BK fun _ _ _=>rfl) (by intro x hx;simp at hx;rcases hx with rfl | rfl | rfl <;> first | exact .inl rfl | exact .inr rfl) ?_
 intro L;let hs:=cw.map (·.1)
 have hsz:hs.length<=5:=by show (cw.map _).length<=5;rw [az];exact hz
 refine EX.cons ?_;refine E1.loc ok ?_;refine EV.jo (PE.gB rfl (g.non _ rfl) ((g.mb _ (by decide)).trans rfl)) (PE.then (PE.name rfl) ?_)
 refine O.vg ok (sK _) dC (by simp [cwL];lia) (fun h=>?_) fun aR=>?_
 ·refine o1_2 (Value.isStrOf_shape h) fun t rf1=>?_;subst rf1;exact .str _ _
 have eRow:((cwL cw).map fun p=>(sK (CA w mg mb Z)).av p.1)=hs.map ltV:=by
  unfold cwL;rw [br,br];rfl
 rw [eRow];refine EX.cons ?_;refine E1.cell ok ?_;refine EV.BE (sK _) ok (l:=hs.map ltV) (fc:=[(aR,.list (hs.map ltV))]) (μc:=[]) (f:=fun a=>(ltr (vlt a),.int 0)) ⟨rfl,by decide,rfl,by decide,by decide⟩ (PE.then (PE.name rfl) ⟨f6.zJ (aj ..),fun p hp=>?_,fun L'=>Cap.nil,fun D acc L' x hx=>?_,fun aT=>?_⟩) (by rw [az];lia)
 ·rw [ao.mp hp];exact aj ..
 ·refine o1_3 (aE.mp hx) fun h hh rf2=>?_;subst rf2;refine TG.loc ok ?_;exact PE.then (PE.name rfl) ⟨by rw [gx];rfl,PE.then (PE.int ok) ⟨rfl,Le.pre (ν:=[("head", ltV h)])⟩⟩
 refine EX.cons ?_;refine E1.loc ok ?_;refine EV.qE ok (EL.nil ⟨by decide,fun aO=>?_⟩)
 have eT:dfold (fun a=>(ltr (vlt a),AV.int 0)) (hs.map ltV)=qo (fun _=>0) hs:=by
  rw [mz]
  ·rw [br];unfold qo;exact bh fun h _=>by simp [gx]
  ·rw [br];refine List.Pairwise.map _ (fun a b (hab:a≠b) e=>hab ?_) hn;simp only [Function.comp,gx] at e;exact je e
 rw [eT];refine G.jb (M':=Cj aR aO aT hs [] (fun _=>0) hs cs R) (e7.last (e7.at 2 rfl (e7.at 0 rfl (e7.at 0 rfl (e7.refl _)))) ) ?_;refine EX.cons ?_;refine qe ok (fun k S=>∃ row t done cs1 aR,k=row.length/\fD lK cs1/\row.Nodup/\(∀ h ∈ row,h ∈ hs)/\done.length+row.length=hs.length/\(∀ h ∈ done,h ∈ hs/\h ∉ row) /\
  done++kY (crW wt cw) late row.length row t=kY (crW wt cw) late cw.length hs (fun _=>0)/\S=⟨xO late aW oC (.raw (.ref aR)) aT aO,Cj aR aO aT row done t hs cs1 R⟩) hs.length
  ⟨hs,fun _=>0,[],cs,aR,rfl,hcs,hn,fun h x=>x,by simp,fun h x=>by simp at x,by rw [List.nil_append];exact congrArg (fun k=>kY (crW wt cw) late k hs fun _=>0) (az ..),rfl⟩ ?_
 intro k d7 T P' hT hP' hz;refine o5_13 hz fun row t done cs1 aR rf5 hcs1 hrn hrs hdl hdn hF rf12=>?_;clear hz;subst rf5;subst rf12;refine (PT.val (PE.name rfl) (T1.zJ ok (aj ..) (by rw [az];lia))).then ?_
 by_cases hne:row=[]
 ·subst hne;rw [aq (by simp)]
  refine hP' .next _ ?_;rw [show kY (crW wt cw) late ([]:List Nat).length [] t=[] from rfl,bf] at hF;refine G.freeze (a:=aO) (l:=done.map ltV) (x := "order") rfl (M':=fH 321 cs1++R) (e7.at 1 rfl (e7.drop (e7.drop (e7.refl _)))) ?_
  refine EX.cons (E1.ret ((PE.name rfl).then ⟨?_,cs1,hcs1,rfl⟩))
  rw [hF]
 rw [ay (by simp [hne])]
 have hrow:=gM hne;generalize hv:row.getLastD 0=v at hrow;generalize hr:row.dropLast=r at hrow;have hFr:kY (crW wt cw) late row.length row t=v::kY (crW wt cw) late r.length (mQ (crW wt cw) late row t) (j6 (crW wt cw) row t):=by
  have:row.length=r.length+1:=by rw [hrow];simp
  rw [this];show row.getLastD 0::_=_;rw [hv]
 have hT':j6 (crW wt cw) row t=fun h=>if h ∈ r then t h+crW wt cw v h else t h:=by unfold j6;rw [hr,hv]
 have hR':mQ (crW wt cw) late row t=gI (tO (j6 (crW wt cw) row t)) (if late=true then r else r.reverse):=by unfold mQ;rw [hr]
 have hrl:row.length=r.length+1:=by rw [hrow];simp
 have hrn':r.Nodup:=by rw [hrow] at hrn;exact (aJ.mp hrn).1
 have hvr:v ∉ r:=fun q=>by rw [hrow] at hrn;exact (aJ.mp hrn).2.2 v q v (ao.mpr rfl) rfl
 have hvs:v ∈ hs:=hrs v (by rw [hrow];simp)
 have hrsr:∀ h ∈ r,h ∈ hs:=fun h q=>hrs h (by rw [hrow];exact af _ q)
 have hrm:row.map ltV=r.map ltV++[ltV v]:=by rw [hrow,bq];rfl
 show EX _ _ _ ⟨_,(aR,.list (row.map ltV))::_⟩ _ _;rw [hrm];have hF2:(done++[v])++kY (crW wt cw) late r.length (mQ (crW wt cw) late row t) (j6 (crW wt cw) row t)=kY (crW wt cw) late cw.length hs (fun _=>0):=by
  rw [aH,<- hF,hFr];rfl
 have hdv:∀ h ∈ done++[v],h ∈ hs/\h ∉ r:=fun h q=>by
  rcases au.mp q with q | q
  ·exact ⟨(hdn h q).1,fun z=>(hdn h q).2 (by rw [hrow];exact af _ z)⟩
  ·rw [ao.mp q];exact ⟨hvs,hvr⟩
 have crowdAt:∀ h ∈ hs,∃ c ∈ cw,c.1=h/\e9 cw h=c.2/\ie (cwL cw) (ltr h)=some (.str (lets c.2)):=fun h q=>by
  refine o1_3 (aE.mp q) fun c hc e=>?_;have hf:(cw.find? fun c=>decide (c.1=h)).isSome=true:=by
   rw [List.find?_isSome];exact ⟨c,hc,by simp [e]⟩
  refine o1_2 (cY.mp hf) fun c' hc'=>?_;refine ⟨c',List.mem_of_find?_eq_some hc',by simpa using List.find?_some hc',?_,?_⟩
  ·unfold e9;rw [hc'];rfl
  ·rw [oA,hc'];rfl
 clear hrm hF hrow hFr;refine EX.cons (E1.expr (EV.mF F.slot_list_append cZ F.type_list_append ((PE.name rfl).then ⟨aO,rfl,lU (ai _ (aj ..)),EL.cons ?_⟩)))
 refine EV.C1 ok (PE.name rfl) (i:=0) rfl (by rw [az];lia) ?_
 refine EL.nil (O.append ok (i:=1) rfl (by rw [az,sl];lia) ?_)
 refine o1_5 (crowdAt v hvs) fun cv hcv ecv gcv acv=>?_;refine EX.cons ?_;refine ig ok (l:=r.map ltV) (fc:=[(aR,.list (r.map ltV))]) (fun i S=>S=⟨xO late aW oC (.raw (.ref aR)) aT aO,(aR,.list (r.map ltV))::(aO,.list (done.map ltV++[ltV v]))::(aT,.eY (qo (fun x=>if x ∈ r.take i then t x+crW wt cw v x else t x) hs))::(fH 321 cs1++R)⟩)
  (PE.then (PE.name rfl) ⟨f6.zJ (aj ..),?_⟩) (fun i S e p hp=>?_) ?_ ?_
 ·refine congrArg (St.mk _) ?_;rw [show (fun x=>if x ∈ r.take 0 then t x+crW wt cw v x else t x)=t from funext fun x=>by simp]
  rfl
 ·subst e;rw [ao.mp hp];exact aj ..
 ·rintro i eG x T2 hT2 hx rfl;rw [aQ] at hx;refine o1_3 (aS.mp hx) fun h hx' rf2=>?_;subst rf2;have hhr:h ∈ r:=aV hx';have hhs:=hrsr h hhr;refine o1_5 (crowdAt h hhs) fun ch hch ech gch ach=>?_;refine TG.cell ok ?_;refine EX.cons ?_;refine Ao ok (sK _) (i:=2) (x:=ltr h) (old:=.int ((if h ∈ r.take i then t h+crW wt cw v h else t h:Nat):Int)) (y:=.int (crW wt cw v h:Nat)) (PE.name rfl) (PE.name rfl) rfl (nM hhs) (by rw [xd];lia) ?_ (O.iadd ok) ?_
  ·refine PE.cast (PE.i6 (PE.gB rfl (g.non _ rfl) ((g.mb _ (by decide)).trans rfl)) (PL.cons (a:=.lst ((cv.2.flatMap fun x=>ch.2.map fun y=>(wt x y:Int)).map .int)) ?_ PL.nil) (O.qt ok)) (congrArg AV.int ?_)
   ·refine EV.Bc ok (l:=cv.2.map ltV) (fc:=[]) (μc:=[("crowds", .ob oC []),("head", ltV h),("worth", .raw (.ref aW))]) (a':=fun _=>.str (lets ch.2)) (l':=fun _=>ch.2.map ltV) (f:=fun x y=>.int (wt (vlt x) (vlt y):Nat)) ⟨rfl,by decide,rfl,by decide,by decide⟩ (fun _=>rfl) (fun _=>rfl) (by intro p hp;simp at hp;rcases hp with rfl | rfl | rfl <;> (dsimp only;decide)) (by decide) ?_ (by rw [az];have:=hlen cv hcv;lia) (fun _ _=>by rw [az];have:=hlen ch hch;lia)
    refine PE.then (PE.sub (PE.name rfl) (PE.sub (PE.name rfl) (show PE _ _ _ _ _ (.int (-((1:Nat):Int))) from PE.neg ok (PE.int ok)) (O.oS ok (m:=1) (ai _ (aj ..)) (bF _) (by simp) kr (by decide))) (O.nZ (sK _) dC acv (fun t u h=>rfl) ok)) ?_
    refine ⟨f6.of (.name _ _) (Iter.lets ok),fun p hp=>(nomatch hp),fun L'=>Cap.cons rfl rfl (.inl rfl) (.inl rfl) (Cap.cons rfl rfl (.inl rfl) (.inl rfl) (Cap.cons rfl rfl (.inl rfl) (.inl rfl) Cap.nil)),fun D acc L' x hx=>?_,fun D acc L' x hx y hy=>?_,?_⟩
    ·refine o1_3 (aE.mp hx) fun a ha rf2=>?_;subst rf2;exact ⟨PE.sub (PE.name rfl) (PE.name rfl) (O.nZ (sK _) dC ach (fun t u h=>rfl) ok),Iter.lets ok⟩
    ·refine o1_3 (aE.mp hx) fun a ha rf2=>?_;subst rf2;refine o1_3 (aE.mp hy) fun b hb rf2=>?_;subst rf2;rw [gx,gx];refine PE.sub (PE.name rfl) (PE.bin (PE.name rfl) (PE.name rfl) (O.adds ok (by have h1:(ltr a).length=1:=rfl;have h2:(ltr b).length=1:=rfl;rw [sl];lia))) (O.k6 ok (sK _) (x:=ltr a++ltr b) (ai _ (ai _ (ai _ (ai _ (aa _ hW))))) (hw cv hcv ch hch (by rw [ecv,ech];exact fun e=>hvr (e▸hhr)) a ha b hb) fun t u h=>rfl)
    ·refine ⟨congrArg AV.lst ?_,rfl⟩;rw [List.map_flatMap,List.flatMap_map];refine g9 fun x _=>?_;rw [br,br];exact bh fun y _=>by simp [gx]
   ·unfold crW wsum;rw [gcv,gch];exact xe _ _ _
  ·refine EX.nil (hT2 .next _ ⟨_,Le.pre (μ:=xO late aW oC (.raw (.ref aR)) aT aO) (ν:=[("head", ltV h)]),?_⟩)
   refine congrArg (St.mk _) ?_;refine congrArg (fun q=>(aR,AO.list (r.map ltV))::(aO,AO.list (done.map ltV++[ltV v]))::(aT,AO.eY q)::(fH 321 cs1++R)) ?_;rw [<- cJ,w9 hhs,xN hrn' hx']
 ·rintro eG rfl;rw [show (fun x=>if x ∈ r.take (r.map ltV).length then t x+crW wt cw v x else t x)=j6 (crW wt cw) row t by rw [hT',az,bP]]
  refine EX.cons ?_;refine G.mono (P:=fun f S'=>f = .next/\S'=⟨xO late aW oC (if late=true then .raw (.ref aR) else .lst (r.map ltV).reverse) aT aO,(aR,.list (r.map ltV))::(aO,.list (done.map ltV++[ltV v]))::(aT,.eY (qo (j6 (crW wt cw) row t) hs))::(fH 321 cs1++R)⟩) (E1.ite (ET.not ((PT.val (PE.name rfl) T1.bool).then ?_))) ?_
  ·cases late with
   | true =>
     rw [aq (by decide)]
     exact EX.nil ⟨rfl,rfl⟩
   | false =>
     rw [ay (by decide)]
     refine EX.cons ?_;refine E1.loc ok ?_;refine PE.then (PE.Df ok (PE.name rfl) (.inr ⟨aR,rfl,aj ..⟩) (PE.neg ok (PE.int ok)) (by rw [az];lia)) ?_
     exact EX.nil ⟨rfl,rfl⟩
  intro _ _ hz;refine o0_2 hz fun rf0 rf1=>?_;clear hz;subst rf0;subst rf1;refine EX.cons ?_;refine E1.loc ok ?_;refine EV.xr ok (PE.gB rfl (g.non _ rfl) ((g.mb _ (by decide)).trans rfl)) (PL.then (PL.cons (PE.name rfl) PL.nil) ?_)
  refine G.jb (M':=fH 321 cs1++((aR,.list (r.map ltV))::(aO,.list (done.map ltV++[ltV v]))::(aT,.eY (qo (j6 (crW wt cw) row t) hs))::R)) (e7.mid (fH 321 cs1) [(aR,.list (r.map ltV)),(aO,.list (done.map ltV++[ltV v])),(aT,.eY (qo (j6 (crW wt cw) row t) hs))] (e7.refl _)) ?_;refine EV.lam ok (qual:=lK) (c:=323) (P:=321) (clos:=[("tied", L+4)]) hcs1 rfl rfl (ciO g) (biA g) rfl rfl fun f c' oc ctv cs2 hcs2 hcm=>?_
  refine o1_2 hcm fun pc hpc=>?_;clear hcm;refine ⟨_,e7.refl _,?_⟩;refine ⟨f,fun a=>(j6 (crW wt cw) row t (vlt a):Int),(if late=true then r else r.reverse).map ltV,_,rfl,rfl,?_,?_,fun c hc ex=>?_,fun D=>?_⟩
  ·cases late with
   | true=>exact .inr ⟨aR,rfl,ai _ (aa _ (aj ..))⟩
   | false=>exact .inl (by rw [aq (by decide),aq (by decide),List.map_reverse])
  ·rw [az];have:(if late=true then r else r.reverse).length=r.length:=by split <;> simp
   lia
  ·refine o1_3 (aE.mp hc) fun h hh rf2=>?_;subst rf2;have hhr:h ∈ hs:=hrsr h (by cases late <;> simpa using hh)
   refine FC.BG ok (x := "tied") rfl ⟨rfl,rfl⟩ fun c0 o0 hd hc0=>?_
   cases hc0;refine yQ (okA (Z:=(_,o0)::Z) g) (cap:=[("tied", .ref aT)]) (ab:=[("head", ltV h)]) (aa _ (aj ..)) (aa _ (ai _ (af _ (ai _ (aE.mpr ⟨_,hpc,rfl⟩))))) (hcs2 _ hpc) rfl rfl rfl (by decide) (by decide) (fun x c hx=>?_) (fun x v hx=>?_) (wu fun u=>rfl) (by intro x hx;simp at hx;subst hx;rfl) fun L'=>?_
   ·have e:x = "tied" /\ c=L+4:=by
     rw [bz] at hx;cases q:x == ("tied" : Str) with
     | true=>rw [q] at hx;exact ⟨by simpa using q,(bE hx).symm⟩
     | false=>rw [q] at hx;cases hx
    refine o0_2 e fun rf0 rf1=>?_;clear e;subst rf0;subst rf1;exact ⟨o0,aj ..⟩
   ·have e:x = "tied" /\ v = .ref aT:=by
     rw [bz] at hx;cases q:x == ("tied" : Str) with
     | true=>rw [q] at hx;exact ⟨by simpa using q,(bE hx).symm⟩
     | false=>rw [q] at hx;cases hx
    refine o0_2 e fun rf0 rf1=>?_;clear e;subst rf0;subst rf1;exact ⟨rfl,L+4,o0,rfl,aj ..,hd⟩
   ·refine PE.then (PE.sub (PE.name rfl) (PE.name rfl) (O.k6 (okA (Z:=(_,o0)::Z) g) (sK _) (x:=ltr h) (aa _ (ai _ (aa _ (ai _ (ai _ (aj ..)))))) (nM hhr) fun t u h=>rfl)) ⟨by simp [gx],rfl⟩
  ·rw [xm,<- hR'];refine G.jb (M':=Cj D aO aT (mQ (crW wt cw) late row t) (done++[v]) (j6 (crW wt cw) row t) hs cs2 R) (e7.at 0 rfl (e7.drop ?_)) ?_
   ·rw [bq];exact e7.mid [(aR,AO.list (r.map ltV)),(aO,.list (done.map ltV++[ltV v])),(aT,.eY (qo (j6 (crW wt cw) row t) hs))] (fH 321 cs2) (e7.drop (e7.refl _))
   have hpm:=jd (crW wt cw) late row t;rw [hr] at hpm;refine EX.nil (hT .next _ ⟨_,Le.refl _,_,?_,mQ (crW wt cw) late row t,j6 (crW wt cw) row t,done++[v],cs2,D,rfl,hcs2,hpm.nodup_iff.mpr hrn',fun h q=>hrsr h (hpm.mem_iff.mp q),?_,fun h q=>⟨(hdv h q).1,fun z=>(hdv h q).2 (hpm.mem_iff.mp z)⟩,?_,rfl⟩)
   ·rw [hpm.length_eq];lia
   ·rw [hpm.length_eq,bl];simp;lia
   ·rw [hpm.length_eq];exact hF2
end
end Mine
namespace Mine
noncomputable def AM (w:World):{fd:FuncData // ∃ c d s,(KA w.params).lookup 314=some ⟨c,d,.func fd,s⟩}:=⟨_,_,_,_,rfl⟩
noncomputable def Cd (w:World):{b:List Stmt // (AM w).1.body = .stmts b}:=⟨_,rfl⟩
noncomputable def uN (w:World) (L:Addr):Env:=callEnvC (AM w).1 L 314
noncomputable def C0 (w:World):List Stmt:=(Cd w).1
noncomputable def bodyOf:Stmt->List Stmt
 | .For _ _ b _ _=>b
 | .While _ b _ _=>b
 | _=>[]
noncomputable def ux (w:World):List Stmt:=bodyOf ((C0 w).getD 2 (.Pass default))
noncomputable def yD (w:World):List Stmt:=bodyOf ((ux w).getD 5 (.Pass default))
noncomputable def za (w:World):List Stmt:=bodyOf ((yD w).getD 3 (.Pass default))
noncomputable abbrev Pcs:=List (Str×Str)
noncomputable def upd {α:Type} (f:Nat->α) (j:Nat) (x:α):Nat->α:=fun i=>if i=j then x else f i
theorem iM {α:Type} {f:Nat->α} {j:Nat} {x:α}:upd f j x j=x:=ay rfl
theorem mX {α:Type} {f:Nat->α} {i j:Nat} {x:α} (h:i≠j):upd f j x i=f i:=aq h
theorem zd {α:Type} {f:Nat->α} {j:Nat} {x y:α}:upd (upd f j x) j y=upd f j y:=funext fun i=>by unfold upd;split <;> rfl
theorem uv {α:Type} {f:Nat->α} {j:Nat}:upd f j (f j)=f:=funext fun i=>by unfold upd;split <;> simp_all
noncomputable def jJ (p d:Nat->Addr) (k:Nat->Nat) (L:Nat->Pcs) (j:Nat):Addr×AO:=(p j,.obj 111 (d j) (fP (k j)) (some (L j)))
noncomputable def fm (p d:Nat->Addr) (k:Nat->Nat) (L:Nat->Pcs):List (Addr×AO):=[jJ p d k L 0,jJ p d k L 1,jJ p d k L 2,jJ p d k L 3,jJ p d k L 4]
theorem o9 (p d:Nat->Addr) (k:Nat->Nat) (L:Nat->Pcs):fm p d k L=(List.range 5).map (jJ p d k L):=rfl
theorem lN {p d:Nat->Addr} {k:Nat->Nat} {L:Nat->Pcs} {R:List (Addr×AO)}:∀ {j:Nat},j<5->(fm p d k L++R)[j]? = some (p j,.obj 111 (d j) (fP (k j)) (some (L j)))
 | 0,_=>rfl | 1,_=>rfl | 2,_=>rfl | 3,_=>rfl | 4,_=>rfl
 | _+5,h=>by lia
theorem kj {p d:Nat->Addr} {k:Nat->Nat} {L:Nat->Pcs} {R:List (Addr×AO)} {x:Nat} {y:Pcs} {j:Nat} (hj:j<5):(fm p d k L++R).set j (p j,.obj 111 (d j) (fP x) (some y))=fm p d (upd k j x) (upd L j y)++R:=by
 rw [o9,o9,List.set_append_left _ _ (by simp;lia)]
 congr 1;apply List.ext_getElem?;intro i;rw [List.getElem?_set,aQ,aQ];by_cases e:j=i
 ·subst e;rw [ay rfl,ay (by simp;lia),cR hj]
  show some _=some _;unfold jJ;rw [iM,iM]
 ·rw [aq e];by_cases hi:i<5
  ·rw [cR hi];show some _=some _;unfold jJ;rw [mX (Ne.symm e),mX (Ne.symm e)]
  ·rw [cX (by simp;lia)];rfl
noncomputable def pdL (p:Nat->Addr):List (Str×AV):=(List.range 5).map fun j=>(ltr j,.raw (.ref (p j)))
theorem n5 {f:Nat->AV} {h:Nat}:∀ {hs:List Nat},h ∈ hs->ie (hs.map fun j=>(ltr j,f j)) (ltr h)=some (f h)
 | a::hs,hm=>by
   unfold ie;show Option.map _ (List.find? _ ((ltr a,f a)::hs.map fun j=>(ltr j,f j)))=_;rw [bN];have e:decide ((ltr a,f a).1=ltr h)=decide (a=h):=r7 a h;rw [e];by_cases q:a=h
   ·subst q;simp
   ·rw [bB q];rcases aG.mp hm with r | r
    ·exact absurd r.symm q
    ·exact n5 r
theorem nX {p:Nat->Addr} {j:Nat} (h:j<5):ie (pdL p) (ltr j)=some (.raw (.ref (p j))):=n5 (aL.mpr h)
noncomputable abbrev uM (late:Bool) (aTi aN aP aT:Addr):List (Str×AV):=[("names", .raw (.ref aN)),("late", .bool late),("ties", .raw (.ref aTi)),("piles", .raw (.ref aP)),("tale", .raw (.ref aT))]
noncomputable abbrev iV (late:Bool) (aTi aN aP aT:Addr) (tv:AV) (oC:Obj) (row ord:AV):List (Str×AV) :=
 [("names", .raw (.ref aN)),("late", .bool late),("ties", .raw (.ref aTi)),("piles", .raw (.ref aP)),("tale", .raw (.ref aT)),("turn", tv),("crowds", .ob oC []),("row", row),("order", ord)]
noncomputable abbrev jC (late:Bool) (aTi aN aP aT:Addr) (tv:AV) (oC:Obj) (row ord wv:AV) (h:Nat):List (Str×AV) :=
 [("names", .raw (.ref aN)),("late", .bool late),("ties", .raw (.ref aTi)),("piles", .raw (.ref aP)),("tale", .raw (.ref aT)),("turn", tv),("crowds", .ob oC []),("row", row),("order", ord),("waiting", wv),("head", ltV h)]
noncomputable def tG (tie:Nat->Nat->Str) (x y:Nat):Str×Str:=(Txt.slice (tie x y) none (some 1),Txt.slice (tie x y) (some 1) none)
noncomputable def kX (tie:Nat->Nat->Str) (a b:List Nat):Pcs:=a.flatMap fun x=>b.map fun y=>tG tie x y
theorem nY (tie:Nat->Nat->Str) (a b:List Nat):(kX tie a b).length=a.length * b.length:=by
 unfold kX;induction a with
 | nil=>simp
 | cons x a ih=>rw [bQ,bl,ih,az,bg,Nat.succ_mul,Nat.add_comm]
theorem back_eq {S S':St} {M:List (Addr×AO)} (h1:S'.μ=S.μ) (h2:S'.M=M):S'=⟨S.μ,M⟩:=by
 obtain ⟨a,b⟩:=S';cases h2;cases h1;rfl
section
variable {w:World} {mg mb:Str->Option Value} {Z:Frag} (g:GA w mg mb)
include g
theorem EV.push {n:Nat} {env:Env} {S:St} {o e1 e2:Expr} {apos pos:Pos} {P:AV->St->Prop} {j:Nat} {p d:Addr} {k:Nat} {l:Pcs} {x y:Str} (ho:PE (CA w mg mb Z) (n+1) env S o (.raw (.ref p))) (hM:S.M[j]? = some (p,AO.obj 111 d (fP k) (some l))) (hz:l.length<=1000)
  (h1:PE (CA w mg mb Z) (n+1) env S e1 (.str x)) (h2:PE (CA w mg mb Z) (n+1) env S e2 (.str y)) (h:P .none ⟨S.μ,S.M.set j (p,AO.obj 111 d (fP k) (some (l++[(x,y)])))⟩)
  (hbase:attributeBase o "push" env (eval o env)=eval o env:=by rfl)
  (hfew:((backTo pos (starEach (e1::[e2]) env)).all (fun x=>!x.1) && (backToKw pos (keywordEach [] env)).all (fun x=>x.1.isSome) && decide ((e1::[e2]).length+([]:List Keyword).length+(if ([]:List Keyword).isEmpty then 0 else 1)<30))=true:=by rfl)
  (hline:(apos.endLine == pos.line)=true:=by rfl)
  (he:starEach [e1,e2] env=(false,eval e1 env)::starEach [e2] env:=by rfl) (he2:starEach [e2] env=(false,eval e2 env)::starEach [] env:=by rfl) (hplain:(backTo pos (starEach [e2] env)).any (·.1)=false:=by rfl) :
  EV (CA w mg mb Z) (n+1) env S (.Call (.Attribute o "push" apos) [e1,e2] [] pos) P :=
 EV.zE (oG g) (ho.then ⟨p,d,fP k,some l,rfl,eu hM,(fun q hq=>by cases hq;exact (show (Str.ofString "_initial_size" == Str.ofString "push")=false by decide)),(PL.cons h1 (PL.cons h2 PL.nil he2) he).then (((zw g hM hz).self env S.μ).mono fun a S' e=>by
  refine o0_3 e fun e1 rf1 e3=>?_;clear e;subst rf1;rw [back_eq e1 e3];exact h)⟩) hbase hfew hline he hplain
theorem EV.AS {n:Nat} {env:Env} {S:St} {o:Expr} {apos pos:Pos} {P:AV->St->Prop} {j:Nat} {p d:Addr} {k:Nat} {l:Pcs} (ho:PE (CA w mg mb Z) (n+1) env S o (.raw (.ref p))) (hM:S.M[j]? = some (p,AO.obj 111 d (fP k) (some l))) (hz:l.length<=1000)
  (h:P .none ⟨S.μ,S.M.set j (p,AO.obj 111 d (fP 0) (some []))⟩)
  (hbase:attributeBase o "reset" env (eval o env)=eval o env:=by rfl) (hline:(apos.endLine == pos.line)=true:=by rfl) :
  EV (CA w mg mb Z) (n+1) env S (.Call (.Attribute o "reset" apos) [] [] pos) P :=
 EV.uY (jE g) (ho.then ⟨p,d,fP k,some l,rfl,eu hM,(fun q hq=>by cases hq;exact (show (Str.ofString "_initial_size" == Str.ofString "reset")=false by decide)),(((rL g hM hz (l':=[]) (by simp) (.inl ⟨rfl,rfl⟩)).self env S.μ).mono fun a S' e=>by
  refine o0_3 e fun e1 rf1 e3=>?_;clear e;subst rf1;rw [back_eq e1 e3];exact h)⟩) hbase hline
theorem EV.AR {n:Nat} {env:Env} {S:St} {o e1:Expr} {apos pos:Pos} {P:AV->St->Prop} {p:Addr} (ho:PE (CA w mg mb Z) (n+1) env S o (.raw (.ref p)))
  {d0:Addr} {kv0:Option (Str×AV)} {sq0:Option Pcs} (hM0:(p,AO.obj 111 d0 kv0 sq0) ∈ S.M) (hk0:∀ q,kv0=some q->(q.1 == ("reset" : Str))=false)
  (h1:EV (CA w mg mb Z) (n+1) env S e1 fun a d7=>∃ j d k l l',a = .lst (l'.map gu)/\d7.M[j]? = some (p,AO.obj 111 d (fP k) (some l))/\l.length<=1000/\l'.length<=1000/\P .none ⟨d7.μ,d7.M.set j (p,AO.obj 111 d (fP 0) (some l'))⟩)
  (hbase:attributeBase o "reset" env (eval o env)=eval o env:=by rfl)
  (hfew:((backTo pos (starEach (e1::[]) env)).all (fun x=>!x.1) && (backToKw pos (keywordEach [] env)).all (fun x=>x.1.isSome) && decide ((e1::[]).length+([]:List Keyword).length+(if ([]:List Keyword).isEmpty then 0 else 1)<30))=true:=by rfl)
  (hline:(apos.endLine == pos.line)=true:=by rfl)
  (he:starEach [e1] env=(false,eval e1 env)::starEach [] env:=by rfl) (hplain:(backTo pos (starEach [] env)).any (·.1)=false:=by rfl) :
  EV (CA w mg mb Z) (n+1) env S (.Call (.Attribute o "reset" apos) [e1] [] pos) P :=
 EV.zE (jE g) (ho.then ⟨p,d0,kv0,sq0,rfl,hM0,hk0,EL.cons (G.mono h1 fun a d7 z=>by
  refine o5_10 z fun j d k l l' rf5 hM hz hz' h=>?_;clear z;subst rf5;refine EL.nil ?_;exact ((rL g hM hz hz' (.inr rfl)).self env d7.μ).mono fun a S' e=>by
   refine o0_3 e fun e1 rf1 e3=>?_;clear e;subst rf1;rw [back_eq e1 e3];exact h) he⟩) hbase hfew hline he hplain
theorem EV.AZ {n:Nat} {env:Env} {S:St} {o:Expr} {apos pos:Pos} {P:AV->St->Prop} {j:Nat} {p d:Addr} {k:Nat} {l:Pcs} (ho:PE (CA w mg mb Z) (n+1) env S o (.raw (.ref p))) (hM:S.M[j]? = some (p,AO.obj 111 d (fP k) (some l))) (hz:l.length<=1000)
  (h:P (.lst (l.map gu)) ⟨S.μ,S.M.set j (p,AO.obj 111 d (fP k) (some []))⟩)
  (hbase:attributeBase o "pop_from" env (eval o env)=eval o env:=by rfl) (hline:(apos.endLine == pos.line)=true:=by rfl) :
  EV (CA w mg mb Z) (n+1) env S (.Call (.Attribute o "pop_from" apos) [] [] pos) P :=
 EV.uY (kF g) (ho.then ⟨p,d,fP k,some l,rfl,eu hM,(fun q hq=>by cases hq;exact (show (Str.ofString "_initial_size" == Str.ofString "pop_from")=false by decide)),(((uT g hM hz).self env S.μ).mono fun a S' e=>by
  refine o0_3 e fun e1 rf1 e3=>?_;clear e;subst rf1;rw [back_eq e1 e3];exact h)⟩) hbase hline
theorem PE.iE {n:Nat} {env:Env} {S:St} {o:Expr} {apos pos:Pos} {p d:Addr} {k:Nat} {l:Pcs} (ho:PE (CA w mg mb Z) (n+4) env S o (.raw (.ref p))) (hM:(p,AO.obj 111 d (fP k) (some l)) ∈ S.M) (hz:l.length<=1000) (hq:∀ q ∈ l,q.1.length<=100/\q.2.length<=100) (hk:k<=1000)
  (hbase:attributeBase o "is_onlyws" env (eval o env)=eval o env:=by rfl) (hline:(apos.endLine == pos.line)=true:=by rfl) :
  PE (CA w mg mb Z) (n+4) env S (.Call (.Attribute o "is_onlyws" apos) [] [] pos) (.bool (iE k l)) :=
 EV.uY (mH g) (ho.then ⟨p,d,fP k,some l,rfl,hM,(fun q hq=>by cases hq;exact (show (Str.ofString "_initial_size" == Str.ofString "is_onlyws")=false by decide)),(((uX g hM hz hq hk).self env S.μ).mono fun a S' e=>by
  refine o0_3 e fun e1 rf1 e3=>?_;clear e;subst rf1;exact ⟨rfl,back_eq e1 e3⟩)⟩) hbase hline
theorem xB {n:Nat} {L:Addr} {late:Bool} {aTi aN aP aT aO aR:Addr} {tv wv:AV} {oC:Obj} {cw:Cw} {tl:List (Str×AV)} {tie:Nat->Nat->Str} {p d:Nat->Addr} {k:Nat->Nat} {Lp:Nat->Pcs} {done cv ch:List Nat} {v h:Nat} {R1:List (Addr×AO)} {P:AF->St->Prop}
  (dC:DOb (CA w mg mb Z) (sK _) oC (cwL cw)) (hO:(aO,AO.list ((done++[v]).map ltV)) ∈ R1) (hP:(aP,AO.eY (pdL p)) ∈ R1) (hTi:(aTi,AO.eY tl) ∈ R1) (hh:h<5) (hdz:done.length<=100)
  (acv:ie (cwL cw) (ltr v)=some (.str (lets cv))) (ach:ie (cwL cw) (ltr h)=some (.str (lets ch))) (hcv:cv.length<=5) (hch:ch.length<=5) (htie:∀ x ∈ cv,∀ y ∈ ch,ie tl (ltr x++ltr y)=some (.str (tie x y))/\(tie x y).length<=11) (hz:(Lp h).length+25<=1000)
  (q:EX (CA w mg mb Z) (n+1) (uN w L) ⟨jC late aTi aN aP aT tv oC (.raw (.ref aR)) (.raw (.ref aO)) wv h,fm p d k (upd Lp h (Lp h++kX tie cv ch))++R1⟩ ((za w).drop 1) P) :
  EX (CA w mg mb Z) (n+1) (uN w L) ⟨jC late aTi aN aP aT tv oC (.raw (.ref aR)) (.raw (.ref aO)) wv h,fm p d k Lp++R1⟩ (za w) P:=by
 have ok:=okA (Z:=Z) g;have sl:sizeLine=16777216:=by decide
 refine EX.cons ?_;refine ig ok (l:=cv.map ltV) (fc:=[]) (fun i S=>S=⟨jC late aTi aN aP aT tv oC (.raw (.ref aR)) (.raw (.ref aO)) wv h,fm p d k (upd Lp h (Lp h++kX tie (cv.take i) ch))++R1⟩) ?_ (fun _ _ _ _ h=>nomatch h) ?_ ?_
 ·refine PE.then (PE.sub (PE.name rfl) (PE.sub (PE.name rfl) (show PE _ _ _ _ _ (.int (-((1:Nat):Int))) from PE.neg ok (PE.int ok)) (O.oS ok (m:=1) (aa _ hO) (bF _) (by simp) (by rw [bq];exact kr) (by decide))) (O.nZ (sK _) dC acv (fun t u h=>rfl) ok)) ⟨f6.of (.name _ _) (Iter.lets ok),?_⟩
  refine congrArg (St.mk _) ?_;rw [show kX tie (cv.take 0) ch=[] from rfl,bf,uv]
 ·rintro i eG x' T hT hx' rfl;rw [aQ] at hx';refine o1_3 (aS.mp hx') fun x hx rf2=>?_;subst rf2;have hxc:=aV hx;have hic:=(aM.mp hx).1;have hz1:(kX tie (cv.take i) ch).length<=20:=by
   rw [nY,List.length_take];have:min i cv.length<=4:=by lia
   exact bC (Nat.mul_le_mul this hch) (by decide)
  refine TG.loc ok ?_;refine EX.cons ?_;refine ig ok (l:=ch.map ltV) (fc:=[]) (fun j S=>S=⟨jC late aTi aN aP aT tv oC (.raw (.ref aR)) (.raw (.ref aO)) wv h++([("x", ltV x)]:List (Str×AV)),fm p d k (upd Lp h (Lp h++kX tie (cv.take i) ch++(ch.take j).map (tG tie x)))++R1⟩) ?_ (fun _ _ _ _ h=>nomatch h) ?_ ?_
  ·refine PE.then (PE.sub (PE.name rfl) (PE.name rfl) (O.nZ (sK _) dC ach (fun t u h=>rfl) ok)) ⟨f6.of (.name _ _) (Iter.lets ok),?_⟩
   refine congrArg (St.mk _) ?_;rw [List.take_zero,dX,bf]
  ·rintro j fk y' T2 hT2 hy' rfl;rw [aQ] at hy';refine o1_3 (aS.mp hy') fun y hy rf2=>?_;subst rf2;have hyc:=aV hy;have hjc:=(aM.mp hy).1;refine o0_2 (htie x hxc y hyc) fun ht htz=>?_;have hz2:(Lp h++kX tie (cv.take i) ch++(ch.take j).map (tG tie x)).length<=1000:=by
    rw [bl,bl,az,List.length_take];lia
   generalize hA:Lp h++kX tie (cv.take i) ch++(ch.take j).map (tG tie x)=acc at *;have eA:Lp h++kX tie (cv.take i) ch++(ch.take (j+1)).map (tG tie x)=acc++[tG tie x y]:=by
    rw [<- hA,bM,hy];simp
   refine TG.loc ok ?_;refine EX.cons ?_;have et:∀ {p0 p1 p2 p3 p4:Pos},PE (CA w mg mb Z) (n+1) (uN w L) ⟨jC late aTi aN aP aT tv oC (.raw (.ref aR)) (.raw (.ref aO)) wv h++([("x", ltV x),("y", ltV y)]:List (Str×AV)),fm p d k (upd Lp h acc)++R1⟩ (.Subscript (.Name "ties" p0) (.BinOp (.Name "x" p1) .Add (.Name "y" p2) p3) p4) (.str (tie x y)):=by
    intro p0 p1 p2 p3 p4;exact PE.sub (PE.name rfl) (PE.bin (PE.name rfl) (PE.name rfl) (O.adds ok (by have h1:(ltr x).length=1:=rfl;have h2:(ltr y).length=1:=rfl;rw [sl];lia))) (O.k6 ok (sK _) (x:=ltr x++ltr y) (aa _ hTi) ht fun t u h=>rfl)
   refine E1.ite (ET.cmp (EV.push g (j:=h) (PE.sub (PE.name rfl) (PE.name rfl) (O.k6 ok (sK _) (x:=ltr h) (aa _ hP) (nX hh) fun t u h=>rfl)) (lN hh) (by rw [iM];exact hz2) (yY ok et (PE.int ok) (by rw [sl];lia)) (sZ ok et (PE.int ok) (by rw [sl];lia)) ?_))
   rw [iM];refine PE.then PE.nul ?_
   refine (O.iI ok rfl).mono (eq2 ?_);refine G1.mono T1.bool (eq2 ?_);rw [aq (by decide)]
   refine EX.nil (EX.nil (hT2 .next _ ⟨_,Le.pre (μ:=jC late aTi aN aP aT tv oC (.raw (.ref aR)) (.raw (.ref aO)) wv h++([("x", ltV x)]:List (Str×AV))) (ν:=[("y", ltV y)]),?_⟩))
   refine congrArg (St.mk _) ?_;rw [eA];exact (kj hh).trans (by rw [uv,zd];rfl)
  ·rintro fk rfl;refine EX.nil (hT .next _ ⟨_,Le.pre (μ:=jC late aTi aN aP aT tv oC (.raw (.ref aR)) (.raw (.ref aO)) wv h) (ν:=[("x", ltV x)]),?_⟩)
   refine congrArg (St.mk _) ?_;rw [az,bP];have:kX tie (cv.take (i+1)) ch=kX tie (cv.take i) ch++ch.map (tG tie x):=by
    unfold kX;rw [bM,hx,c8];simp
   rw [this,aH]
 ·rintro eG rfl;rw [az,bP];exact q
end
end Mine
namespace Mine
noncomputable def gR:Str := "_law_run.<locals>.<lambda>"
noncomputable def Cs (pa:Pos):Arguments:={ posonlyargs:=[],args:=[{ arg := "one", annotation:=none,pos:=pa }],vararg:=none,kwonlyargs:=[],kw_defaults:=[],kwarg:=none,defaults:=[] }
noncomputable def Cq (p1 p2 p3 p4 p5:Pos):Expr:=.Call (.Name "len" p1) [.Subscript (.Name "piles" p2) (.Name "one" p3) p4] [] p5
noncomputable def Cr:Scope:={ kind:=.function,names:=[("one", .local),("piles", .free),("len", .globalImplicit)],isGenerator:=false,isCoroutine:=false }
theorem nj {a:Addr} {o:AO} {X0 X1 X2 X3 X4 X5 X6 X7 X8 X9:Addr×AO} {M:List (Addr×AO)} (h:(a,o) ∈ M):(a,o) ∈ ([X0,X1,X2,X3,X4,X5,X6,X7,X8,X9]++M).eraseIdx 5:=by
 show (a,o) ∈ X0::X1::X2::X3::X4::X6::X7::X8::X9::M;simp [h]
theorem pO (l:List Nat) (k a:Nat):O.n8 (l.map ltV) k (ltV a)=(l.take k++a::l.drop k).map ltV:=by
 unfold O.n8;simp [List.map_take,List.map_drop]
noncomputable abbrev ia (aR aO aP aT aN:Addr) (row:List Nat) (ord:List AV) (p:Nat->Addr) (tale:List AV) (nl:List (Str×AV)):List (Addr×AO) :=
 [(aR,.list (row.map ltV)),(aO,.list ord),(aP,.eY (pdL p)),(aT,.list tale),(aN,.eY nl)]
theorem pD {p d:Nat->Addr} {k:Nat->Nat} {L:Nat->Pcs} {aR aO aP aT aN:Addr} {row:List Nat} {ord tale:List AV} {p':Nat->Addr} {nl:List (Str×AV)} {M:List (Addr×AO)}:∀ {j:Nat},j<5->(p j,AO.obj 111 (d j) (fP (k j)) (some (L j))) ∈ ((fm p d k L++ia aR aO aP aT aN row ord p' tale nl)++M).eraseIdx 5
 | 0,_=>aj ..
 | 1,_=>ai _ (aj ..)
 | 2,_=>ai _ (ai _ (aj ..))
 | 3,_=>ai _ (ai _ (ai _ (aj ..)))
 | 4,_=>ai _ (ai _ (ai _ (ai _ (aj ..))))
 | _+5,h=>by lia
theorem yK {p d:Nat->Addr} {k:Nat->Nat} {L:Nat->Pcs} {aR aO aP aT aN:Addr} {row:List Nat} {ord tale:List AV} {nl:List (Str×AV)} {M:List (Addr×AO)}:(aP,AO.eY (pdL p)) ∈ ((fm p d k L++ia aR aO aP aT aN row ord p tale nl)++M).eraseIdx 5 :=
 ai _ (ai _ (ai _ (ai _ (ai _ (ai _ (aj ..))))))
section
variable {w:World} {mg mb:Str->Option Value} {Z:Frag} (g:GA w mg mb)
include g
theorem ciR:jF (CA w mg mb Z).K 313 311:=⟨⟨_,_,_,_,_,_,_,_,_,rfl,rfl,rfl,rfl,rfl,rfl,rfl,rfl,rfl⟩,by decide⟩
theorem C2 {m:Nat} {f c' c0:Addr} {o0:Obj} {M:List (Addr×AO)} {pa p1 p2 p3 p4 p5:Pos} {pm ctv:Value} {oc:Obj} {aP:Addr} {p:Nat->Addr} {j d:Nat} {l:Pcs} (hj:j<5)
  (hf:(f,AO.fix (kla_obj "<lambda>" gR (Cs pa) (Cq p1 p2 p3 p4 p5) Cr [("piles", c0)] pm c' ctv)) ∈ M) (hcd:(c',AO.fix oc) ∈ M) (hoc:∃ vs t,oc.data = .fields vs/\vs[1]? = some (.str gR t)) (hd:o0.data = .cell (some (.ref aP)))
  (hP:(aP,AO.eY (pdL p)) ∈ M) (hM:(p j,AO.obj 111 d (fP 0) (some l)) ∈ M) (hz:l.length<=1000) (hq:∀ q ∈ l,q.1.length<=1000/\q.2.length<=1000) :
  FC (CA w mg mb ((c0,o0)::Z)) (m+3) f M [ltV j] (fun av M'=>av = .int (eO l:Nat)/\M'=M):=by
 have ok:=okA (Z:=(c0,o0)::Z) g;refine yQ ok (cap:=[("piles", .ref aP)]) (ab:=[("one", ltV j)]) hf hcd hoc rfl rfl rfl (by decide) (by decide) (fun x c hx=>?_) (fun x v hx=>?_) (wu fun u=>rfl) (by intro x hx;simp at hx;subst hx;rfl) fun L'=>?_
 ·have e:x = "piles" /\ c=c0:=by
   rw [bz] at hx;cases q:x == ("piles" : Str) with
   | true=>rw [q] at hx;exact ⟨by simpa using q,(bE hx).symm⟩
   | false=>rw [q] at hx;cases hx
  refine o0_2 e fun rf0 rf1=>?_;clear e;subst rf0;subst rf1;exact ⟨o0,aj ..⟩
 ·have e:x = "piles" /\ v = .ref aP:=by
   rw [bz] at hx;cases q:x == ("piles" : Str) with
   | true=>rw [q] at hx;exact ⟨by simpa using q,(bE hx).symm⟩
   | false=>rw [q] at hx;cases hx
  refine o0_2 e fun rf0 rf1=>?_;clear e;subst rf0;subst rf1;exact ⟨rfl,c0,o0,rfl,aj ..,hd⟩
 ·refine PE.then (PE.i6 (PE.gB rfl (g.non _ rfl) ((g.mb _ (by decide)).trans rfl)) (PL.cons (PE.sub (PE.name rfl) (PE.name rfl) (O.k6 ok (sK _) (x:=ltr j) hP (nX hj) fun t u h=>rfl)) PL.nil) (O.vj g hM hz hq (by decide))) ⟨?_,rfl⟩
  simp
theorem Ct {n:Nat} {f c' c0 aR aP:Addr} {o0 oc:Obj} {M:List (Addr×AO)} {pa p1 p2 p3 p4 p5:Pos} {pm ctv:Value} {p d:Nat->Addr} {k:Nat->Nat} {Lp:Nat->Pcs} {acc:List Nat} {h:Nat}
  (hf:(f,AO.fix (kla_obj "<lambda>" gR (Cs pa) (Cq p1 p2 p3 p4 p5) Cr [("piles", c0)] pm c' ctv)) ∈ M) (hcd:(c',AO.fix oc) ∈ M) (hoc:∃ vs t,oc.data = .fields vs/\vs[1]? = some (.str gR t)) (hd:o0.data = .cell (some (.ref aP)))
  (hP:(aP,AO.eY (pdL p)) ∈ M) (hMp:∀ j,j<5->(p j,AO.obj 111 (d j) (fP (k j)) (some (Lp j))) ∈ M) (hM:M[1]? = some (aR,AO.list (acc.map ltV))) (hs:gk (fun j=>eO (Lp j)) acc)
  (hh:∀ j,j=h\/j ∈ acc->j<5/\k j=0/\(Lp j).length<=1000/\∀ q ∈ Lp j,q.1.length<=1000/\q.2.length<=1000) (hz:acc.length<=5) :
  FCk (CA w mg mb ((c0,o0)::Z)) (n+5) 124 M [.raw (.ref aR),ltV h] [("key", .raw (.ref f))] (fun a M'=>a = .none/\M'=M.set 1 (aR,.list ((gJ (fun j=>eO (Lp j)) h acc).map ltV))):=by
 have key:∀ m j,j=h\/j ∈ acc->FC (CA w mg mb ((c0,o0)::Z)) (m+3) f M [ltV j] (fun av M'=>av = .int (eO (Lp j):Nat)/\M'=M):=fun m j hj=>by
  refine o0_4 (hh j hj) fun h5 hk0 hz1 hq1=>?_;exact C2 g h5 hf hcd hoc hd hP (hk0▸hMp j h5) hz1 hq1
 refine o1_4 (nv (a:=h) hs) fun kk hkk hpl eIns=>?_;have:=xX (Z:=(c0,o0)::Z) g (n:=n+2) (i:=1) (k:=kk) (xv:=ltV h) (xi:=(eO (Lp h):Nat)) (kf:=fun a=>(eO (Lp (vlt a)):Nat)) hM hf (by rw [az];lia) (by rw [az];exact hkk) (key _ h (.inl rfl)) (fun c hc=>by
  refine o1_3 (aE.mp hc) fun j hj rf2=>?_;subst rf2;rw [gx];exact key _ j (.inr hj)) (fun i c hc=>by
  rw [aQ] at hc;refine o1_3 (aS.mp hc) fun j hj rf2=>?_;subst rf2;rw [gx,<- hpl i j hj];exact dK.mpr Int.ofNat_lt)
 rw [pO,<- eIns] at this;exact this
theorem Cu {n:Nat} {f c' c0 aR aP:Addr} {o0 oc:Obj} {M:List (Addr×AO)} {pa p1 p2 p3 p4 p5:Pos} {pm ctv:Value} {p d:Nat->Addr} {k:Nat->Nat} {Lp:Nat->Pcs} {acc:List Nat} {h:Nat}
  (hf:(f,AO.fix (kla_obj "<lambda>" gR (Cs pa) (Cq p1 p2 p3 p4 p5) Cr [("piles", c0)] pm c' ctv)) ∈ M) (hcd:(c',AO.fix oc) ∈ M) (hoc:∃ vs t,oc.data = .fields vs/\vs[1]? = some (.str gR t)) (hd:o0.data = .cell (some (.ref aP)))
  (hP:(aP,AO.eY (pdL p)) ∈ M) (hMp:∀ j,j<5->(p j,AO.obj 111 (d j) (fP (k j)) (some (Lp j))) ∈ M) (hM:M[1]? = some (aR,AO.list (acc.map ltV))) (hs:gk (fun j=>eO (Lp j)) acc)
  (hh:∀ j,j=h\/j ∈ acc->j<5/\k j=0/\(Lp j).length<=1000/\∀ q ∈ Lp j,q.1.length<=1000/\q.2.length<=1000) (hz:acc.length<=5) :
  FCk (CA w mg mb ((c0,o0)::Z)) (n+5) 142 M [.raw (.ref aR),ltV h] [("key", .raw (.ref f))] (fun a M'=>a = .none/\M'=M.set 1 (aR,.list ((g8 (fun j=>eO (Lp j)) h acc).map ltV))):=by
 have key:∀ m j,j=h\/j ∈ acc->FC (CA w mg mb ((c0,o0)::Z)) (m+3) f M [ltV j] (fun av M'=>av = .int (eO (Lp j):Nat)/\M'=M):=fun m j hj=>by
  refine o0_4 (hh j hj) fun h5 hk0 hz1 hq1=>?_;exact C2 g h5 hf hcd hoc hd hP (hk0▸hMp j h5) hz1 hq1
 refine o1_4 (nA (a:=h) hs) fun kk hkk hpl eIns=>?_;have:=xY (Z:=(c0,o0)::Z) g (n:=n+2) (i:=1) (k:=kk) (xv:=ltV h) (xi:=(eO (Lp h):Nat)) (kf:=fun a=>(eO (Lp (vlt a)):Nat)) hM hf (by rw [az];lia) (by rw [az];exact hkk) (key _ h (.inl rfl)) (fun c hc=>by
  refine o1_3 (aE.mp hc) fun j hj rf2=>?_;subst rf2;rw [gx];exact key _ j (.inr hj)) (fun i c hc=>by
  rw [aQ] at hc;refine o1_3 (aS.mp hc) fun j hj rf2=>?_;subst rf2;rw [gx,<- hpl i j hj];exact dK.mpr Int.ofNat_lt)
 rw [pO,<- eIns] at this;exact this
theorem zp {n:Nat} {L:Addr} {late:Bool} {aTi aN aP aT aO aR:Addr} {tv wv:AV} {oC:Obj} {p d:Nat->Addr} {k:Nat->Nat} {Lp:Nat->Pcs} {acc:List Nat} {h:Nat} {ord tale:List AV} {nl:List (Str×AV)} {cs:jN} {R:List (Addr×AO)} {P:AF->St->Prop}
  (hcs:fD gR cs) (hs:gk (fun j=>eO (Lp j)) acc) (hh:∀ j,j=h\/j ∈ acc->j<5/\k j=0/\(Lp j).length<=1000/\∀ q ∈ Lp j,q.1.length<=1000/\q.2.length<=1000) (hz:acc.length<=5)
  (q:∀ cs',fD gR cs'->P .next ⟨jC late aTi aN aP aT tv oC (.raw (.ref aR)) (.raw (.ref aO)) wv h++([("given", .none)]:List (Str×AV)),fm p d k Lp++(ia aR aO aP aT aN (qg late (fun j=>eO (Lp j)) h acc) ord p tale nl++(fH 311 cs'++R))⟩) :
  EX (CA w mg mb Z) (n+5) (uN w L) ⟨jC late aTi aN aP aT tv oC (.raw (.ref aR)) (.raw (.ref aO)) wv h,fm p d k Lp++(ia aR aO aP aT aN acc ord p tale nl++(fH 311 cs++R))⟩ ((za w).drop 1) P:=by
 have ok:=okA (Z:=Z) g;refine EX.cons ?_;refine G.mono (P:=fun f S'=>f = .next/\∃ cs',fD gR cs'/\S'=⟨jC late aTi aN aP aT tv oC (.raw (.ref aR)) (.raw (.ref aO)) wv h++([("given", .none)]:List (Str×AV)),fm p d k Lp++(ia aR aO aP aT aN (qg late (fun j=>eO (Lp j)) h acc) ord p tale nl++(fH 311 cs'++R))⟩) (E1.ite ((PT.val (PE.name rfl) T1.bool).then ?_)) ?_
 ·cases late with
  | true =>
    rw [ay rfl];refine EX.cons ?_;refine E1.loc ok ?_;refine EV.sS (PE.glob rfl (g.glo _ _ rfl)) (show (CA w mg mb Z).K.lookup 124=some _ from rfl) rfl ?_;refine PL.then (PL.cons (PE.name rfl) (PL.cons (PE.name rfl) PL.nil)) ?_
    refine G.jb (M':=fH 311 cs++((fm p d k Lp++ia aR aO aP aT aN acc ord p tale nl)++R)) (e7.mid (fH 311 cs) (fm p d k Lp++ia aR aO aP aT aN acc ord p tale nl) (e7.refl _)) ?_;refine EV.lam ok (qual:=gR) (c:=313) (P:=311) (clos:=[("piles", L+1)]) hcs rfl rfl (ciR g) (biA g) rfl rfl fun f c' oc ctv cs2 hcs2 hcm=>?_
    refine o1_2 hcm fun pc hpc=>?_;clear hcm;refine ⟨_,e7.at 0 rfl (e7.mid (fm p d k Lp++ia aR aO aP aT aN acc ord p tale nl) (fH 311 cs2) (e7.at 5 rfl (e7.refl _))),?_⟩;refine KCall.mono (KCall.ofX ok (x := "piles") rfl ⟨rfl,rfl⟩ fun c0 o0 hd hc0=>by
     cases hc0;exact Ct g (Z:=Z) (p:=p) (d:=d) (k:=k) (aj ..) (ai _ (ai _ (nj (af _ (ai _ (aE.mpr ⟨_,hpc,rfl⟩)))))) (hcs2 _ hpc) hd (ai _ (ai _ yK)) (fun j hj=>ai _ (ai _ (pD hj))) rfl hs hh hz) (eqS ?_)
    refine G.jb (M':=fm p d k Lp++(ia aR aO aP aT aN (gJ (fun j=>eO (Lp j)) h acc) ord p tale nl++(fH 311 cs2++R))) ?_ (EX.nil ⟨rfl,cs2,hcs2,rfl⟩);exact e7.drop (e7.at 1 rfl (e7.at 1 rfl (e7.at 1 rfl (e7.at 1 rfl (e7.at 1 rfl (e7.at 0 rfl (e7.refl _)))))))
  | false =>
    rw [aq (by decide)]
    refine EX.cons ?_;refine E1.loc ok ?_;refine EV.sS (PE.glob rfl (g.glo _ _ rfl)) (show (CA w mg mb Z).K.lookup 142=some _ from rfl) rfl ?_;refine PL.then (PL.cons (PE.name rfl) (PL.cons (PE.name rfl) PL.nil)) ?_
    refine G.jb (M':=fH 311 cs++((fm p d k Lp++ia aR aO aP aT aN acc ord p tale nl)++R)) (e7.mid (fH 311 cs) (fm p d k Lp++ia aR aO aP aT aN acc ord p tale nl) (e7.refl _)) ?_;refine EV.lam ok (qual:=gR) (c:=313) (P:=311) (clos:=[("piles", L+1)]) hcs rfl rfl (ciR g) (biA g) rfl rfl fun f c' oc ctv cs2 hcs2 hcm=>?_
    refine o1_2 hcm fun pc hpc=>?_;clear hcm;refine ⟨_,e7.at 0 rfl (e7.mid (fm p d k Lp++ia aR aO aP aT aN acc ord p tale nl) (fH 311 cs2) (e7.at 5 rfl (e7.refl _))),?_⟩;refine KCall.mono (KCall.ofX ok (x := "piles") rfl ⟨rfl,rfl⟩ fun c0 o0 hd hc0=>by
     cases hc0;exact Cu g (Z:=Z) (p:=p) (d:=d) (k:=k) (aj ..) (ai _ (ai _ (nj (af _ (ai _ (aE.mpr ⟨_,hpc,rfl⟩)))))) (hcs2 _ hpc) hd (ai _ (ai _ yK)) (fun j hj=>ai _ (ai _ (pD hj))) rfl hs hh hz) (eqS ?_)
    refine G.jb (M':=fm p d k Lp++(ia aR aO aP aT aN (g8 (fun j=>eO (Lp j)) h acc) ord p tale nl++(fH 311 cs2++R))) ?_ (EX.nil ⟨rfl,cs2,hcs2,rfl⟩);exact e7.drop (e7.at 1 rfl (e7.at 1 rfl (e7.at 1 rfl (e7.at 1 rfl (e7.at 1 rfl (e7.at 0 rfl (e7.refl _)))))))
 ·intro _ _ hz;refine o0_2 hz fun rf0 zz=>?_;refine o1_3 zz fun cs2 hcs2 rf3=>?_;clear hz;subst rf0;subst rf3;refine EX.cons (E1.ite ((PT.cmp (PE.name rfl) PE.nul (O.iI ok rfl)).then ?_))
  rw [aq (by decide)]
  exact EX.nil (EX.nil (q cs2 hcs2))
end
end Mine
namespace Mine
theorem lP {tie:Nat->Nat->Str} {a b:List Nat} (h:∀ x ∈ a,∀ y ∈ b,(tie x y).length<=11):∀ q ∈ kX tie a b,q.1.length<=11/\q.2.length<=11:=fun q hq=>by
 refine o1_3 (bK.mp hq) fun x hx hq=>?_;refine o1_3 (aE.mp hq) fun y hy rf2=>?_;subst rf2;have:=h x hx y hy;exact ⟨bC (cM ..) this,bC (cM ..) this⟩
noncomputable def kQ (tie:Nat->Nat->Str) (cr:Nat->List Nat) (v:Nat) (r:List Nat) (Lp:Nat->Pcs):Nat->Pcs:=fun j=>if j ∈ r then Lp j++kX tie (cr v) (cr j) else Lp j
theorem xV {tie:Nat->Nat->Str} {cr:Nat->List Nat} {v:Nat} {Lp:Nat->Pcs}:kQ tie cr v [] Lp=Lp:=funext fun j=>aq (by simp)
theorem vo {tie:Nat->Nat->Str} {cr:Nat->List Nat} {v:Nat} {r:List Nat} {Lp:Nat->Pcs} {i h:Nat} (hn:r.Nodup) (hi:r[i]? = some h) :
  upd (kQ tie cr v (r.take i) Lp) h (kQ tie cr v (r.take i) Lp h++kX tie (cr v) (cr h))=kQ tie cr v (r.take (i+1)) Lp/\h ∉ r.take i:=by
 have e:r.take (i+1)=r.take i++[h]:=by rw [bM,hi];rfl
 have hni:h ∉ r.take i:=by
  have h1:(r.take (i+1)).Nodup:=hn.sublist (List.take_sublist ..);rw [e,aJ] at h1;exact fun q=>h1.2.2 h q h (ao.mpr rfl) rfl
 refine ⟨funext fun x=>?_,hni⟩;rw [e];unfold upd kQ;by_cases q:x=h
 ·subst q;rw [ay rfl,aq hni,ay (by simp)]
 ·rw [aq q];by_cases q2:x ∈ r.take i
  ·rw [ay q2,ay (af _ q2)]
  ·rw [aq q2,aq (by simp [q2,q])]
section
variable {w:World} {mg mb:Str->Option Value} {Z:Frag} (g:GA w mg mb)
include g
theorem xx {n:Nat} {L:Addr} {late:Bool} {aTi aN aP aT aO aR:Addr} {tv:AV} {oC:Obj} {cw:Cw} {tl:List (Str×AV)} {tie:Nat->Nat->Str} {p d:Nat->Addr} {k:Nat->Nat} {Lp:Nat->Pcs} {done r:List Nat} {v:Nat} {tale:List AV} {nl:List (Str×AV)} {cs:jN} {R:List (Addr×AO)} {P:AF->St->Prop}
  (dC:DOb (CA w mg mb Z) (sK _) oC (cwL cw)) (hTi:(aTi,AO.eY tl) ∈ R) (hdz:done.length<=100) (hr5:∀ j ∈ r,j<5) (hrn:r.Nodup) (hrz:r.length<=4) (hcs:fD gR cs)
  (hcr:∀ h,h=v\/h ∈ r->ie (cwL cw) (ltr h)=some (.str (lets (e9 cw h)))/\(e9 cw h).length<=5) (htie:∀ h ∈ r,∀ x ∈ e9 cw v,∀ y ∈ e9 cw h,ie tl (ltr x++ltr y)=some (.str (tie x y))/\(tie x y).length<=11)
  (hb:∀ j ∈ r,k j=0/\(Lp j).length+25<=1000/\∀ q ∈ Lp j,q.1.length<=100/\q.2.length<=100)
  (q:∀ cs',fD gR cs'->P .next ⟨iV late aTi aN aP aT tv oC (.raw (.ref aR)) (.raw (.ref aO))++([("waiting", .lst (r.map ltV))]:List (Str×AV)),fm p d k (kQ tie (e9 cw) v r Lp)++(ia aR aO aP aT aN (gI (tO fun j=>eO (kQ tie (e9 cw) v r Lp j)) (if late=true then r else r.reverse)) ((done++[v]).map ltV) p tale nl++(fH 311 cs'++R))⟩) :
  EX (CA w mg mb Z) (n+5) (uN w L) ⟨iV late aTi aN aP aT tv oC (.raw (.ref aR)) (.raw (.ref aO))++([("waiting", .lst (r.map ltV))]:List (Str×AV)),fm p d k Lp++(ia aR aO aP aT aN [] ((done++[v]).map ltV) p tale nl++(fH 311 cs++R))⟩ ((yD w).drop 3) P:=by
 have ok:=okA (Z:=Z) g;refine EX.cons ?_;have hkf:∀ i j,j ∈ r.take i->eO (kQ tie (e9 cw) v (r.take i) Lp j)=eO (kQ tie (e9 cw) v r Lp j):=fun i j hj=>by
  unfold kQ;rw [ay hj,ay (List.mem_of_mem_take hj)]
 generalize hkK:(fun j=>eO (kQ tie (e9 cw) v r Lp j))=kK at *;have hkK':∀ j,eO (kQ tie (e9 cw) v r Lp j)=kK j:=fun j=>by rw [<- hkK]
 have accP:∀ i,((r.take i).foldl (fun acc h=>qg late kK h acc) []).Perm (r.take i):=fun i=>by
  rw [sI];refine (gQ _ _).trans ?_;cases late
  ·exact List.reverse_perm _
  ·exact .refl _
 have accS:∀ l acc:List Nat,gk kK acc->gk kK (l.foldl (fun acc h=>qg late kK h acc) acc):=by
  intro l;induction l with
  | nil=>intro acc h;exact h
  | cons a l ih=>intro acc h;exact ih _ (l9 late kK a h)
 refine ig ok (l:=r.map ltV) (fc:=[]) (fun i S=>∃ cs',fD gR cs'/\S=⟨iV late aTi aN aP aT tv oC (.raw (.ref aR)) (.raw (.ref aO))++([("waiting", .lst (r.map ltV))]:List (Str×AV)),
  fm p d k (kQ tie (e9 cw) v (r.take i) Lp)++(ia aR aO aP aT aN ((r.take i).foldl (fun acc h=>qg late kK h acc) []) ((done++[v]).map ltV) p tale nl++(fH 311 cs'++R))⟩) ?_ (fun _ _ _ _ h=>nomatch h) ?_ ?_
 ·refine PE.then (PE.name rfl) ⟨f6.of (.name _ _) (Iter.lst ok),cs,hcs,?_⟩
  rw [List.take_zero,xV];rfl
 ·intro i eG x' T hT hx' hz;refine o1_3 hz fun cs1 hcs1 rf2=>?_;clear hz;subst rf2;rw [aQ] at hx';refine o1_3 (aS.mp hx') fun h hx rf2=>?_;subst rf2;have hhr:=aV hx;have hil:=(aM.mp hx).1;refine o0_2 (vo (tie:=tie) (cr:=e9 cw) (v:=v) (Lp:=Lp) hrn hx) fun eL hni=>?_;refine o0_3 (hb h hhr) fun hk0 hbz hbq=>?_;have eLh:kQ tie (e9 cw) v (r.take i) Lp h=Lp h:=aq hni;refine TG.loc ok ?_;refine xB g (v:=v) (h:=h) (done:=done) (cv:=e9 cw v) (ch:=e9 cw h) (tl:=tl) (tie:=tie) dC (af _ (ai _ (aj ..))) (af _ (ai _ (ai _ (aj ..)))) (aa _ (aa _ hTi)) (hr5 h hhr) hdz (hcr v (.inl rfl)).1 (hcr h (.inr hhr)).1 (hcr v (.inl rfl)).2 (hcr h (.inr hhr)).2 (htie h hhr) (by rw [eLh];exact hbz) ?_
  rw [eL];have hcong:qg late (fun j=>eO (kQ tie (e9 cw) v (r.take (i+1)) Lp j)) h ((r.take i).foldl (fun acc h=>qg late kK h acc) [])=(r.take (i+1)).foldl (fun acc h=>qg late kK h acc) []:=by
   have e:r.take (i+1)=r.take i++[h]:=by rw [bM,hx];rfl
   rw [e,dW];refine tQ fun x hxx=>?_;rw [<- e,hkf (i+1) x ?_,hkK'];rw [e];rcases hxx with rfl | hxx
   ·simp
   ·exact af _ ((accP i).mem_iff.mp hxx)
  have hin:∀ j,j=h\/j ∈ (r.take i).foldl (fun acc h=>qg late kK h acc) []->j ∈ r/\j ∈ r.take (i+1):=fun j hj=>by
   have e:r.take (i+1)=r.take i++[h]:=by rw [bM,hx];rfl
   rcases hj with rfl | hj
   ·exact ⟨hhr,by rw [e];simp⟩
   ·have:=(accP i).mem_iff.mp hj;exact ⟨List.mem_of_mem_take this,by rw [e];exact af _ this⟩
  refine zp g hcs1 ?_ (fun j hj=>?_) ?_ fun cs2 hcs2=>?_
  ·have:=accS (r.take i) [] List.Pairwise.nil;refine this.imp_of_mem fun {a b} ha hb h=>?_;dsimp only;rw [hkf (i+1) a (hin a (.inr ha)).2,hkf (i+1) b (hin b (.inr hb)).2,hkK',hkK'];exact h
  ·refine o0_2 (hin j hj) fun hjr hjt=>?_;refine o0_3 (hb j hjr) fun hk0 hbz hbq=>?_;have e:kQ tie (e9 cw) v (r.take (i+1)) Lp j=Lp j++kX tie (e9 cw v) (e9 cw j):=ay hjt;have hpz:(kX tie (e9 cw v) (e9 cw j)).length<=25:=by
    rw [nY];exact Nat.mul_le_mul (hcr v (.inl rfl)).2 (hcr j (.inr hjr)).2
   refine ⟨hr5 j hjr,hk0,?_,fun q hq=>?_⟩
   ·rw [e,bl];lia
   ·rw [e] at hq;rcases au.mp hq with hq | hq
    ·have:=hbq q hq;lia
    ·have:=lP (fun x hx y hy=>(htie j hjr x hx y hy).2) q hq;lia
  ·have:=(accP i).length_eq;rw [this,List.length_take];lia
  ·refine hT .next _ ⟨_,Le.pre (μ:=iV late aTi aN aP aT tv oC (.raw (.ref aR)) (.raw (.ref aO))++([("waiting", .lst (r.map ltV))]:List (Str×AV))) (ν:=[("head", ltV h),("given", .none)]),cs2,hcs2,?_⟩
   rw [hcong]
 ·intro eG hz;refine o1_3 hz fun cs1 hcs1 rf2=>?_;clear hz;subst rf2;rw [az,bP,sI];exact EX.nil (q cs1 hcs1)
end
end Mine
namespace Mine
noncomputable def nL (tie:Nat->Nat->Str) (x y:Nat):Nat:=(tie x y).length
theorem A0 (tie:Nat->Nat->Str) (x y:Nat):gZ (tG tie x y)=nL tie x y:=by
 unfold gZ tG nL;generalize tie x y=s;have l1:=cM s none (some 1);have l2:=cM s (some 1) none;have hl:s.length=s.cps.toList.length:=by rw [bG];rfl
 have hsz:s.cps.size=s.length:=rfl;by_cases h0:s.length=0
 ·dsimp only;lia
 ·have h1:=cI.mp (slice_closes_to (x:=s) (j:=1) ⟨by decide,by lia⟩)
  have h2:=cI.mp (slice_closes_from (x:=s) (i:=1) ⟨by decide,by lia⟩)
  have e1:(Txt.slice s none (some 1)).length=1:=by
   rw [h1];show (List.toArray _).size=1;rw [aK];simp;lia
  have e2:(Txt.slice s (some 1) none).length=s.length - 1:=by
   rw [h2];show (List.toArray _).size=_;rw [aK];simp;lia
  dsimp only;lia
theorem rX (tie:Nat->Nat->Str) (a b:List Nat):eO (kX tie a b)=wsum (nL tie) a b:=by
 unfold eO kX wsum;rw [List.map_flatMap];congr 1;refine g9 fun x _=>?_;rw [br];exact bh fun y _=>A0 tie x y
theorem lO (a b:Pcs):eO (a++b)=eO a+eO b:=by
 unfold eO;rw [bq,cS]
noncomputable def oF (tie:Nat->Nat->Str) (cr:Nat->List Nat) (done:List Nat) (h:Nat):Pcs:=done.flatMap fun v=>kX tie (cr v) (cr h)
theorem lz {tie:Nat->Nat->Str} {cr:Nat->List Nat} {h:Nat}:∀ {done:List Nat},(∀ v,v=h\/v ∈ done->(cr v).length<=5)->(oF tie cr done h).length<=25 * done.length
 | [],_=>bF _
 | v::done,hc=>by
   have ih:=lz (tie:=tie) (h:=h) (done:=done) fun u hu=>hc u (hu.imp id (ai _));show (kX tie (cr v) (cr h)++oF tie cr done h).length<=25 * (done.length+1);rw [bl,nY];have:=Nat.mul_le_mul (hc v (.inr (aj ..))) (hc h (.inl rfl));lia
theorem wB {tie:Nat->Nat->Str} {cr:Nat->List Nat} {h v:Nat} {done:List Nat}:oF tie cr (done++[v]) h=oF tie cr done h++kX tie (cr v) (cr h):=by
 unfold oF;rw [c8];simp
section
variable {w:World} {mg mb:Str->Option Value} {Z:Frag} (g:GA w mg mb)
include g
theorem uL {n:Nat} {L:Addr} {late:Bool} {aTi aN aP aT aO aR:Addr} {tv:AV} {oC:Obj} {cw:Cw} {tl:List (Str×AV)} {tie:Nat->Nat->Str} {p d:Nat->Addr} {k:Nat->Nat} {Lp:Nat->Pcs} {tale:List AV} {nl:List (Str×AV)} {cs:jN} {R:List (Addr×AO)} {P:AF->St->Prop}
  (dC:DOb (CA w mg mb Z) (sK _) oC (cwL cw)) (hTi:(aTi,AO.eY tl) ∈ R) (hs5:∀ j ∈ cw.map (·.1),j<5) (hsn:(cw.map (·.1)).Nodup) (hsz:cw.length<=5) (hcs:fD gR cs)
  (hcr:∀ h ∈ cw.map (·.1),ie (cwL cw) (ltr h)=some (.str (lets (e9 cw h)))/\(e9 cw h).length<=5)
  (htie:∀ v ∈ cw.map (·.1),∀ h ∈ cw.map (·.1),v≠h->∀ x ∈ e9 cw v,∀ y ∈ e9 cw h,ie tl (ltr x++ltr y)=some (.str (tie x y))/\(tie x y).length<=11)
  (hb:∀ j ∈ cw.map (·.1),k j=0/\Lp j=[]) (hLb:∀ j,j<5->(Lp j).length<=1000)
  (q:∀ aR' cs' Lf,fD gR cs'->(∀ j,j<5->(Lf j).length<=1000)->(∀ done v,done++[v]=kY (crW (nL tie) cw) late cw.length (cw.map (·.1)) (fun _=>0)->Lf v=oF tie (e9 cw) done v) ->
   EX (CA w mg mb Z) (n+5) (uN w L) ⟨iV late aTi aN aP aT tv oC (.raw (.ref aR')) (.raw (.ref aO)),fm p d k Lf++(ia aR' aO aP aT aN [] ((kY (crW (nL tie) cw) late cw.length (cw.map (·.1)) fun _=>0).map ltV) p tale nl++(fH 311 cs'++R))⟩ ((ux w).drop 6) P) :
  EX (CA w mg mb Z) (n+5) (uN w L) ⟨iV late aTi aN aP aT tv oC (.raw (.ref aR)) (.raw (.ref aO)),fm p d k Lp++(ia aR aO aP aT aN (cw.map (·.1)) [] p tale nl++(fH 311 cs++R))⟩ ((ux w).drop 5) P:=by
 have ok:=okA (Z:=Z) g;have sl:sizeLine=16777216:=by decide
 have hslen:(cw.map (·.1)).length=cw.length:=az ..;generalize hhs:cw.map (·.1)=hs at *;generalize hW:crW (nL tie) cw=W at *;have hWp:∀ v h,eO (kX tie (e9 cw v) (e9 cw h))=W v h:=fun v h=>by rw [rX,<- hW];rfl
 refine EX.cons ?_;refine qe ok (fun m S=>∃ row t done cs1 aR' L1,m=row.length/\fD gR cs1/\row.Nodup/\(∀ h ∈ row,h ∈ hs)/\done.length+row.length=hs.length/\(∀ h ∈ done,h ∈ hs/\h ∉ row) /\
  done++kY W late row.length row t=kY W late cw.length hs (fun _=>0)/\(∀ h ∈ row,L1 h=oF tie (e9 cw) done h/\t h=eO (L1 h))/\(∀ done' v,done'++[v]=done->L1 v=oF tie (e9 cw) done' v)/\(∀ j,j<5->(L1 j).length<=1000) /\
  S=⟨iV late aTi aN aP aT tv oC (.raw (.ref aR')) (.raw (.ref aO)),fm p d k L1++(ia aR' aO aP aT aN row (done.map ltV) p tale nl++(fH 311 cs1++R))⟩) hs.length
  ⟨hs,fun _=>0,[],cs,aR,Lp,rfl,hcs,hsn,fun h x=>x,by simp,fun h x=>by simp at x,by rw [List.nil_append,hslen],fun h hh=>by rw [(hb h hh).2];exact ⟨rfl,rfl⟩,fun d v e=>by simp at e,hLb,rfl⟩ ?_
 intro m d7 T P' hT hP' hz;refine o6_17 hz fun row t done cs1 aR' L1 rf6 hcs1 hrn hrs hdl hdn hF hL1 hLd hLb1 rf16=>?_;clear hz;subst rf6;subst rf16;refine (PT.val (PE.name rfl) (T1.zJ ok (l:=row.map ltV) (aa _ (aj ..)) (by rw [az];lia))).then ?_
 by_cases hne:row=[]
 ·subst hne;rw [aq (by simp)]
  refine hP' .next _ ?_;rw [show kY W late ([]:List Nat).length [] t=[] from rfl,bf] at hF;have:=q aR' cs1 L1 hcs1 hLb1 (fun done' v e=>hLd done' v (by rw [e,hF]))
  rw [<- hF] at this;exact this
 rw [ay (by simp [hne])]
 have hrow:=gM hne;generalize hv:row.getLastD 0=v at hrow;generalize hr:row.dropLast=r at hrow;have hFr:kY W late row.length row t=v::kY W late r.length (mQ W late row t) (j6 W row t):=by
  have:row.length=r.length+1:=by rw [hrow];simp
  rw [this];show row.getLastD 0::_=_;rw [hv]
 have hT':j6 W row t=fun h=>if h ∈ r then t h+W v h else t h:=by unfold j6;rw [hr,hv]
 have hR':mQ W late row t=gI (tO (j6 W row t)) (if late=true then r else r.reverse):=by unfold mQ;rw [hr]
 have hrl:row.length=r.length+1:=by rw [hrow];simp
 have hrn':r.Nodup:=by rw [hrow] at hrn;exact (aJ.mp hrn).1
 have hvr:v ∉ r:=fun q=>by rw [hrow] at hrn;exact (aJ.mp hrn).2.2 v q v (ao.mpr rfl) rfl
 have hvR:v ∈ row:=by rw [hrow];simp
 have hvs:v ∈ hs:=hrs v hvR;have hrR:∀ h ∈ r,h ∈ row:=fun h q=>by rw [hrow];exact af _ q
 have hrm:row.map ltV=r.map ltV++[ltV v]:=by rw [hrow,bq];rfl
 have hF2:(done++[v])++kY W late r.length (mQ W late row t) (j6 W row t)=kY W late cw.length hs (fun _=>0):=by
  rw [aH,<- hF,hFr];rfl
 have hdv:∀ h ∈ done++[v],h ∈ hs/\h ∉ r:=fun h q=>by
  rcases au.mp q with q | q
  ·exact ⟨(hdn h q).1,fun z=>(hdn h q).2 (hrR h z)⟩
  ·rw [ao.mp q];exact ⟨hvs,hvr⟩
 have hdz:done.length<=4:=by lia
 have hpl:∀ h ∈ hs,(oF tie (e9 cw) done h).length<=100:=fun h hh=>bC (lz fun u hu=>(hcr u (by
  rcases hu with rfl | hu
  ·exact hh
  ·exact (hdn u hu).1)).2) (by lia)
 show EX _ _ _ ⟨_,fm p d k L1++([(aR',.list (row.map ltV)),_,_,_,_]++_)⟩ _ _;rw [hrm];refine EX.cons (E1.expr (EV.mF F.slot_list_append cZ F.type_list_append ((PE.name rfl).then ⟨aO,rfl,lU (aa _ (ai _ (aj ..))),EL.cons ?_⟩)))
 refine EV.C1 ok (PE.name rfl) (i:=5) rfl (by rw [az];lia) ?_
 refine EL.nil (O.append ok (i:=6) rfl (by rw [az,sl];lia) ?_)
 refine EX.cons ?_;refine E1.loc ok ?_;refine PE.then (PE.name rfl) ?_
 refine EX.cons ?_;refine E1.loc ok ?_;refine EV.qE ok (EL.nil ⟨by decide,fun aR2=>?_⟩)
 refine G.freeze (a:=aR') (l:=r.map ltV) (x := "waiting") rfl (M':=fm p d k L1++(ia aR2 aO aP aT aN [] ((done++[v]).map ltV) p tale nl++(fH 311 cs1++R))) (e7.last (e7.at 6 rfl (e7.at 1 rfl (e7.at 1 rfl (e7.at 1 rfl (e7.at 1 rfl (e7.at 1 rfl (e7.at 0 rfl ?hsub)))))))) ?_
 case hsub=>rw [bq];exact e7.refl _
 have hpm:=jd W late row t;rw [hr] at hpm;have hcw:∀ h,h=v\/h ∈ r->h ∈ hs:=fun h q=>by
  rcases q with rfl | q
  ·exact hvs
  ·exact hrs h (hrR h q)
 refine xx g (done:=done) (v:=v) (tl:=tl) (tie:=tie) dC hTi (by lia) (fun j hj=>hs5 j (hrs j (hrR j hj))) hrn' (by lia) hcs1 (fun h q=>hcr h (hcw h q)) (fun h hh=>htie v hvs h (hrs h (hrR h hh)) (fun e=>hvr (e▸hh))) (fun j hj=>?_) fun cs2 hcs2=>?_
 ·refine ⟨(hb j (hrs j (hrR j hj))).1,?_,fun q hq=>?_⟩
  ·rw [(hL1 j (hrR j hj)).1];have:=hpl j (hrs j (hrR j hj));lia
  ·rw [(hL1 j (hrR j hj)).1] at hq;refine o1_3 (bK.mp hq) fun u hu hq=>?_;have:=lP (fun x hx y hy=>(htie u (hdn u hu).1 j (hrs j (hrR j hj)) (fun e=>(hdn u hu).2 (e▸hrR j hj)) x hx y hy).2) q hq;lia
 ·have eL:∀ j ∈ r,kQ tie (e9 cw) v r L1 j=oF tie (e9 cw) (done++[v]) j:=fun j hj=>by
   unfold kQ;rw [ay hj,wB,(hL1 j (hrR j hj)).1]
  have eK:∀ j ∈ r,eO (kQ tie (e9 cw) v r L1 j)=j6 W row t j:=fun j hj=>by
   rw [hT'];show _=if j ∈ r then t j+W v j else t j
   rw [ay hj,(hL1 j (hrR j hj)).2];unfold kQ;rw [ay hj,lO,hWp]
  have eS:gI (tO fun j=>eO (kQ tie (e9 cw) v r L1 j)) (if late=true then r else r.reverse)=mQ W late row t:=by
   rw [hR'];have hm:∀ a,a ∈ (if late=true then r else r.reverse)->a ∈ r:=fun a ha=>by
    cases late
    ·simpa using ha
    ·exact ha
   refine j9 fun a ha b hb=>?_;refine dK.mpr ?_;show eO (kQ tie (e9 cw) v r L1 a)<eO (kQ tie (e9 cw) v r L1 b)↔_;rw [eK a (hm a ha),eK b (hm b hb)]
  rw [eS];refine hT .next _ ⟨_,Le.pre (μ:=iV late aTi aN aP aT tv oC (.raw (.ref aR2)) (.raw (.ref aO))) (ν:=[("waiting", .lst (r.map ltV))]),_,?_,mQ W late row t,j6 W row t,done++[v],cs2,aR2,kQ tie (e9 cw) v r L1,rfl,hcs2,hpm.nodup_iff.mpr hrn',fun h q=>hrs h (hrR h (hpm.mem_iff.mp q)),?_,fun h q=>⟨(hdv h q).1,fun z=>(hdv h q).2 (hpm.mem_iff.mp z)⟩,?_,fun h q=>?_,fun done' u e=>?_,fun j hj=>?_,rfl⟩
  ·rw [hpm.length_eq];lia
  ·rw [hpm.length_eq,bl];simp;lia
  ·rw [hpm.length_eq];exact hF2
  ·have hq:=hpm.mem_iff.mp q;exact ⟨eL h hq,(eK h hq).symm⟩
  ·refine o0_2 (List.append_inj' e rfl) fun rf0 e2=>?_;subst rf0;cases e2;unfold kQ;rw [aq hvr,(hL1 v hvR).1]
  ·by_cases hjr:j ∈ r
   ·rw [eL j hjr];refine bC (lz fun u hu=>(hcr u ?_).2) (by rw [bl];simp;lia)
    rcases hu with rfl | hu
    ·exact hrs u (hrR u hjr)
    ·exact (hdv u hu).1
   ·unfold kQ;rw [aq hjr];exact hLb1 j hj
end
end Mine
namespace Mine
noncomputable abbrev Pth:=Nat->List Nat
noncomputable def g5 (P:Pth):Cw:=fQ (gj P) 5
noncomputable def gf (P:Pth):List Nat:=(g5 P).map (·.1)
noncomputable def eZ (tie:Nat->Nat->Str) (late:Bool) (P:Pth):List Nat:=kY (crW (nL tie) (g5 P)) late (g5 P).length (gf P) fun _=>0
noncomputable def fX (o:List Nat):Nat:=o.getLastD 0
noncomputable def iy (o:List Nat):Nat:=o.dropLast.getLastD 0
noncomputable def mR (tie:Nat->Nat->Str) (late:Bool) (P:Pth):Pth:=fun x=>if gj P x=fX (eZ tie late P) then P x++[iy (eZ tie late P)] else P x
noncomputable def fR (tie:Nat->Nat->Str) (late:Bool):Nat->Pth
 | 0=>fun x=>[x]
 | t+1=>mR tie late (fR tie late t)
structure POk (t:Nat) (P:Pth):Prop where
 n9:∀ x,x<5->gV (P x)
 ne:∀ x,x<5->P x≠[]
 len:∀ x,x<5->(P x).length<=t+1
 head:∀ x,x<5->P (gj P x)=[gj P x]
 cnt:(gf P).length=5 - t
theorem POk.init:POk 0 fun x=>[x]:=⟨fun x hx y hy=>by rw [ao.mp hy];exact hx,fun x _=>by simp,fun x _=>by simp,fun x _=>rfl,by decide⟩
theorem iR {P:Pth} {h:Nat}:h ∈ gf P↔∃ x,x<5/\gj P x=h:=jZ ..
theorem fU {P:Pth}:(gf P).Nodup:=iB ..
theorem kU {P:Pth} {h:Nat}:e9 (g5 P) h=(List.range 5).filter fun x=>gj P x=h:=iw ..
theorem gb {P:Pth} {h x:Nat}:x ∈ e9 (g5 P) h↔x<5/\gj P x=h:=by rw [kU];simp
theorem mE {P:Pth} {h:Nat}:(e9 (g5 P) h).length<=5:=by rw [kU];exact bC (List.length_filter_le ..) (by simp)
theorem mD {P:Pth} {h:Nat} (hh:h ∈ gf P):ie (cwL (g5 P)) (ltr h)=some (.str (lets (e9 (g5 P) h))):=by
 refine o1_3 (aE.mp hh) fun c hc e=>?_;have hf:((g5 P).find? fun c=>decide (c.1=h)).isSome=true:=by
  rw [List.find?_isSome];exact ⟨c,hc,by simp [e]⟩
 refine o1_2 (cY.mp hf) fun c' hc'=>?_;unfold e9;rw [oA,hc'];rfl
section
variable {t:Nat} {P:Pth} (K:POk t P)
include K
theorem POk.lt {h:Nat} (hh:h ∈ gf P):h<5:=by
 refine o1_3 (iR.mp hh) fun x hx rf2=>?_;subst rf2;unfold gj;have:=K.n9 x hx;refine this _ ?_;cases e:P x with
 | nil=>exact absurd e (K.ne x hx)
 | cons a l =>
   have:(a::l).getLastD 0=(a::l).getLast (by simp):=rfl
   rw [this];exact List.getLast_mem _
theorem POk.self {h:Nat} (hh:h ∈ gf P):P h=[h]/\gj P h=h:=by
 refine o1_3 (iR.mp hh) fun x hx rf2=>?_;subst rf2;have:=K.head x hx;refine ⟨this,?_⟩;show (P (gj P x)).getLastD 0=_;rw [this];rfl
theorem POk.r9:(g5 P).length=5 - t:=by rw [<- K.cnt];exact (az ..).symm
theorem POk.gq {tie:Nat->Nat->Str} {late:Bool}:(eZ tie late P).Perm (gf P):=Mine.gq _ _ _ _ _ (az ..)
theorem POk.split {tie:Nat->Nat->Str} {late:Bool} (ht:t<4):∃ a,eZ tie late P=a++[iy (eZ tie late P),fX (eZ tie late P)]:=by
 have h1:=(K.gq (tie:=tie) (late:=late)).length_eq;rw [K.cnt] at h1;generalize eZ tie late P=o at *;have e1:=gM (row:=o) (by intro e;rw [e] at h1;simp at h1;lia)
 have e2:=gM (row:=o.dropLast) (by intro e;have:=congrArg List.length e;rw [List.length_dropLast] at this;simp at this;lia)
 refine ⟨o.dropLast.dropLast,?_⟩;unfold iy fX
 conv=>lhs;rw [e1,e2]
 simp
theorem POk.ends {tie:Nat->Nat->Str} {late:Bool} (ht:t<4):iy (eZ tie late P) ∈ gf P/\fX (eZ tie late P) ∈ gf P/\iy (eZ tie late P)≠fX (eZ tie late P):=by
 refine o1_2 (K.split (tie:=tie) (late:=late) ht) fun a e=>?_;have hp:=K.gq (tie:=tie) (late:=late);have hn:=hp.nodup_iff.mpr fU;generalize iy (eZ tie late P)=p at *;generalize fX (eZ tie late P)=l at *;rw [e] at hp hn;refine ⟨hp.mem_iff.mp (by simp),hp.mem_iff.mp (by simp),fun q=>?_⟩
 subst q;have:=(aJ.mp hn).2.1;simp at this
theorem POk.vJ {tie:Nat->Nat->Str} {late:Bool} (x:Nat):gj (mR tie late P) x=if gj P x=fX (eZ tie late P) then iy (eZ tie late P) else gj P x:=by
 show (mR tie late P x).getLastD 0=_;unfold mR;split
 ·simp
 ·rfl
theorem POk.next {tie:Nat->Nat->Str} {late:Bool} (ht:t<4):POk (t+1) (mR tie late P):=by
 refine o0_3 (K.ends (tie:=tie) (late:=late) ht) fun h1 h2 h3=>?_;have hhd:=K.vJ (tie:=tie) (late:=late);have hex:∀ x,mR tie late P x=if gj P x=fX (eZ tie late P) then P x++[iy (eZ tie late P)] else P x:=fun x=>rfl
 generalize iy (eZ tie late P)=p at *;generalize fX (eZ tie late P)=l at *;have hp:=K.self h1;have hl:=K.self h2;refine ⟨fun x hx=>?_,fun x hx=>?_,fun x hx=>?_,fun x hx=>?_,?_⟩
 ·rw [hex];split
  ·intro y hy;rcases au.mp hy with hy | hy
   ·exact K.n9 x hx y hy
   ·rw [ao.mp hy];exact K.lt h1
  ·exact K.n9 x hx
 ·rw [hex];split
  ·simp
  ·exact K.ne x hx
 ·rw [hex];have:=K.len x hx;split
  ·rw [bl];simp;lia
  ·lia
 ·rw [hhd];split
  ·rw [hex,aq (by rw [hp.2];exact h3)];exact hp.1
  ·rename_i hne;have:=K.head x hx;rw [hex,(K.self (iR.mpr ⟨x,hx,rfl⟩)).2,aq hne];exact this
 ·have hperm:(gf (mR tie late P)).Perm ((gf P).erase l):=by
   rw [List.perm_ext_iff_of_nodup fU (fU.erase l)];intro a;rw [fU.mem_erase_iff,iR,iR];constructor
   ·intro hz;refine o1_3 hz fun x hx e=>?_;clear hz;rw [hhd] at e;split at e
    ·subst e;exact ⟨h3,p,K.lt h1,hp.2⟩
    ·rename_i hne;subst e;exact ⟨hne,x,hx,rfl⟩
   ·intro hz;refine o0_2 hz fun hne zz=>?_;refine o1_3 zz fun x hx rf3=>?_;clear hz;subst rf3;exact ⟨x,hx,by rw [hhd,aq hne]⟩
  rw [hperm.length_eq,List.length_erase_of_mem h2,K.cnt];lia
end
theorem gv {tie:Nat->Nat->Str} {late:Bool}:∀ t,t<=4->POk t (fR tie late t)
 | 0,_=>POk.init
 | t+1,h=>(gv t (by lia)).next (by lia)
theorem POk.Cg {t:Nat} {P:Pth} (K:POk t P) (ht:t<=4):Paths P:=fun x hx=>⟨K.ne x hx,bC (K.len x hx) (by lia),K.n9 x hx⟩
end Mine
namespace Mine
noncomputable def gD (P:Pth):List (Str×AV):=(List.range 5).map fun x=>(ltr x,.str (dn (P x)))
theorem jV {P:Pth} {x:Nat} (h:x<5):ie (gD P) (ltr x)=some (.str (dn (P x))):=n5 (f:=fun x=>.str (dn (P x))) (aL.mpr h)
theorem xP {P:Pth} {x:Nat} {q:List Nat} (h:x<5):iZ (gD P) (ltr x) (.str (dn q))=gD (upd P x q):=by
 unfold iZ;have ha:(gD P).any (fun kv=>kv.1=ltr x)=true:=by
  rw [cO];exact ⟨(ltr x,.str (dn (P x))),aE.mpr ⟨x,aL.mpr h,rfl⟩,by simp⟩
 rw [ay ha];unfold gD;rw [br];refine bh fun y hy=>?_;simp only [Function.comp];by_cases e:y=x
 ·subst e;rw [ay rfl,iM]
 ·rw [aq fun q=>e (je q),mX e]
theorem tL {P Q:Pth} (h:∀ x,x<5->P x=Q x):gD P=gD Q:=bh fun x hx=>by rw [h x (aL.mp hx)]
theorem xQ {P:Pth}:(gD P).length=5:=by simp [gD]
noncomputable abbrev ir (aP aT aN:Addr) (p:Nat->Addr) (tale:List AV) (nl:List (Str×AV)):List (Addr×AO):=[(aP,.eY (pdL p)),(aT,.list tale),(aN,.eY nl)]
theorem zD (l:Pcs):iE 3 l=false:=rfl
noncomputable def w5 (oC:Obj) (o:List Nat) (pl:Pcs):AV:=.tup [.ob oC [],.lst (o.map ltV),.int (eO pl:Nat),.bool (iE 0 pl)]
section
variable {w:World} {mg mb:Str->Option Value} {Z:Frag} (g:GA w mg mb)
include g
theorem xA {n:Nat} {L:Addr} {late:Bool} {aTi aN aP aT aO aR:Addr} {tv:AV} {oC:Obj} {cw:Cw} {p d:Nat->Addr} {k:Nat->Nat} {Lf:Nat->Pcs} {tale:List AV} {P0:Pth} {cs:jN} {R:List (Addr×AO)} {P:AF->St->Prop} {o a cl:List Nat} {pv lv:Nat}
  (dC:DOb (CA w mg mb Z) (sK _) oC (cwL cw)) (ho:o=a++[pv,lv]) (hoz:o.length<=5) (hl5:lv<5) (hp5:pv<5) (acl:ie (cwL cw) (ltr lv)=some (.str (lets cl))) (hcl:∀ x ∈ cl,x<5) (hclz:cl.length<=5) (hcn:cl.Nodup) (hpc:pv ∉ cl) (hpp:P0 pv=[pv]) (hP0:∀ x,x<5->(P0 x).length<=5)
  (hLz:(Lf lv).length<=200) (hLq:∀ q ∈ Lf lv,q.1.length<=100/\q.2.length<=100) (htz:tale.length<=10)
  (q:∀ pS,P .next ⟨iV late aTi aN aP aT tv oC (.raw (.ref aR)) (.lst (o.map ltV))++([("sheet", .raw (.ref pS))]:List (Str×AV)),fm p d k (upd Lf lv [])++(ir aP aT aN p (tale++[w5 oC o (Lf lv)]) (gD fun x=>if x ∈ cl then P0 x++[pv] else P0 x)++(fH 311 cs++R))⟩) :
  EX (CA w mg mb Z) (n+4) (uN w L) ⟨iV late aTi aN aP aT tv oC (.raw (.ref aR)) (.raw (.ref aO)),fm p d k Lf++(ia aR aO aP aT aN [] (o.map ltV) p tale (gD P0)++(fH 311 cs++R))⟩ ((ux w).drop 6) P:=by
 have ok:=okA (Z:=Z) g;have sl:sizeLine=16777216:=by decide
 have hom:o.map ltV=(a.map ltV++[ltV pv])++[ltV lv]:=by rw [ho];simp
 have hol:o.length=a.length+2:=by rw [ho];simp
 refine G.freeze (a:=aO) (x := "order") (l:=o.map ltV) rfl (M':=fm p d k Lf++(ir aP aT aN p tale (gD P0)++(fH 311 cs++R))) (e7.at 6 rfl (e7.at 0 rfl (e7.at 0 rfl (e7.at 0 rfl (e7.at 0 rfl (e7.at 0 rfl (e7.drop (e7.refl _)))))))) ?_
 refine EX.cons ?_;refine E1.loc ok ?_;refine EV.Ac (PE.glob rfl (g.glo _ _ rfl)) rfl (PL.then (PL.cons (PE.int ok) PL.nil) (((yW g (n:=n+2) (k:=3) (.inr rfl)).on fun av M1 zz=>?_)))
 refine o2_4 zz fun pS dS rf3 e3=>?_;clear zz;subst rf3;subst e3;refine G.jb (M':=(pS,.obj 111 dS (fP 3) (some []))::(fm p d k Lf++(ir aP aT aN p tale (gD P0)++(fH 311 cs++R)))) (e7.last (e7.refl _)) ?_;refine EX.cons ?_;refine E1.expr (EV.push g (n:=n+3) (j:=0) (PE.name rfl) rfl (by simp) (PE.str ok) (PE.str ok) ?_)
 refine EX.cons ?_;have elast:∀ {S:St} {p1 p2 p3 p4:Pos} {c:Nat},S.μ.lookup ("order" : Str)=some (AV.lst (o.map ltV))->PE (CA w mg mb Z) (n+4) (uN w L) S (.Subscript (.Name "order" p1) (.UnaryOp .USub (.Constant (.int 1) c p2) p3) p4) (ltV lv):=by
  intro S p1 p2 p3 p4 c hS;exact PE.sub (PE.name hS) (show PE _ _ _ _ _ (.int (-((1:Nat):Int))) from PE.neg ok (PE.int ok)) (O.jQ ok (m:=1) (bF _) (by rw [az];lia) (by rw [hom];exact kr) (by decide))
 refine E1.ite (ET.wm (AT.or ((PT.cmp (PE.iE g (PE.name rfl) (aj ..) (by simp) (by decide) (by decide)) PE.bool (O.jX ok)).then ?_)))
 rw [zD,aq (by decide)]
 refine AT.or (ET.cmp ?_);refine EV.AR g (n:=n+3) (p:=pS) (PE.name rfl) (aj ..) (fun q hq=>by cases hq;exact (show (Str.ofString "_initial_size" == Str.ofString "reset")=false by decide)) ?_
 refine EV.AZ g (n:=n+3) (j:=lv+1) (p:=p lv) (d:=d lv) (k:=k lv) (l:=Lf lv) (PE.sub (PE.name rfl) (elast rfl) (O.k6 ok (sK _) (x:=ltr lv) (a:=aP) (l:=pdL p) (ai _ (aa _ (aj ..))) (nX hl5) fun t u h=>rfl)) (lN hl5) (by lia) ?_
 refine ⟨0,dS,3,[("\t", "")],Lf lv,rfl,rfl,by simp,by lia,?_⟩
 refine PE.then PE.nul ?_
 refine (O.iI ok rfl).mono (eq2 ?_);refine G1.mono T1.bool (eq2 ?_);rw [aq (by decide)]
 refine AT.A3 ?_;rw [aq (by decide)]
 refine EX.nil ?_;have eset:(fm p d k Lf++(ir aP aT aN p tale (gD P0)++(fH 311 cs++R))).set lv (p lv,AO.obj 111 (d lv) (fP (k lv)) (some []))=fm p d k (upd Lf lv [])++(ir aP aT aN p tale (gD P0)++(fH 311 cs++R)):=by
  rw [kj hl5,uv]
 show EX _ _ _ ⟨_,(pS,AO.obj 111 dS (fP 0) (some (Lf lv)))::((fm p d k Lf++(ir aP aT aN p tale (gD P0)++(fH 311 cs++R))).set lv (p lv,AO.obj 111 (d lv) (fP (k lv)) (some [])))⟩ _ _;rw [eset];refine EX.cons (E1.expr (EV.mF F.slot_list_append cZ F.type_list_append ((PE.name rfl).then ⟨aT,rfl,lU (l:=tale) (ai _ (aa _ (ai _ (aj ..)))),PL.then (PL.cons (PE.tuple ok (PL.cons (PE.name rfl) (PL.cons (PE.name rfl) (PL.cons (PE.cast (PE.i6 (PE.gB rfl (g.non _ rfl) ((g.mb _ (by decide)).trans rfl)) (PL.cons (PE.name rfl) PL.nil) (O.vj g (n:=n+2) (aj ..) (by lia) (fun q hq=>by have:=hLq q hq;lia) (by decide))) (congrArg AV.int (Int.zero_add _))) (PL.cons (PE.iE g (PE.name rfl) (aj ..) (by lia) hLq (by decide)) PL.nil)))) (by simp only [bg,bO];decide)) PL.nil) (O.append ok (i:=7) rfl (by rw [sl];lia) ?_)⟩)))
 refine EX.cons ?_;refine ig ok (l:=cl.map ltV) (fc:=[]) (fun i S=>S=⟨iV late aTi aN aP aT tv oC (.raw (.ref aR)) (.lst (o.map ltV))++([("sheet", .raw (.ref pS))]:List (Str×AV)),
  (pS,.obj 111 dS (fP 0) (some (Lf lv)))::(fm p d k (upd Lf lv [])++(ir aP aT aN p (tale++[w5 oC o (Lf lv)]) (gD fun x=>if x ∈ cl.take i then P0 x++[pv] else P0 x)++(fH 311 cs++R)))⟩) ?_ (fun _ _ _ _ h=>nomatch h) ?_ ?_
 ·refine PE.then (PE.sub (PE.name rfl) (elast rfl) (O.nZ (sK _) dC acl (fun t u h=>rfl) ok)) ⟨f6.of (.name _ _) (Iter.lets ok),?_⟩
  rw [show (fun x=>if x ∈ cl.take 0 then P0 x++[pv] else P0 x)=P0 from funext fun x=>by simp]
  rfl
 ·rintro i eG x' T hT hx' rfl;rw [aQ] at hx';refine o1_3 (aS.mp hx') fun x hx rf2=>?_;subst rf2;have hxc:=aV hx;have hx5:=hcl x hxc;have e:cl.take (i+1)=cl.take i++[x]:=by rw [bM,hx];rfl
  have hni:x ∉ cl.take i:=by
   have h1:(cl.take (i+1)).Nodup:=hcn.sublist (List.take_sublist ..);rw [e,aJ] at h1;exact fun q=>h1.2.2 x q x (ao.mpr rfl) rfl
  have hpi:pv ∉ cl.take i:=fun q=>hpc (List.mem_of_mem_take q);generalize hPi:(fun x=>if x ∈ cl.take i then P0 x++[pv] else P0 x)=Pi at *
  have hPx:Pi x=P0 x:=by rw [<- hPi];exact aq hni
  have hPp:Pi pv=[pv]:=by rw [<- hPi];exact (aq hpi).trans hpp
  have hx1:=hP0 x hx5;have hz1:=iX (P0 x);have hz2:=iX [pv];have hz3:=Ab (P0 x);have e2:upd Pi x (P0 x++[pv])=fun x=>if x ∈ cl.take (i+1) then P0 x++[pv] else P0 x:=by
   funext y;rw [e,<- hPi];unfold upd;by_cases q:y=x
   ·subst q;rw [ay rfl,ay (by simp)]
   ·rw [aq q];dsimp only;by_cases q2:y ∈ cl.take i
    ·rw [ay q2,ay (af _ q2)]
    ·rw [aq q2,aq (by simp [q2,q])]
  refine TG.loc ok ?_;refine EX.cons ?_;refine jt ok (sK _) ?_;refine PE.then (PE.cast (PE.bin (yY ok (PE.sub (PE.name rfl) (PE.name rfl) (O.k6 ok (sK _) (x:=ltr x) (a:=aN) (l:=gD Pi) (ai _ (aa _ (ai _ (ai _ (aj ..))))) (c:=.str (dn (P0 x))) (by rw [jV hx5,hPx]) fun t u h=>rfl)) (PE.neg ok (PE.int ok)) (by rw [sl];lia)) (PE.sub (PE.name rfl) (PE.sub (PE.name rfl) (show PE _ _ _ _ _ (.int (-((2:Nat):Int))) from PE.neg ok (PE.int ok)) (O.jQ ok (m:=2) (by decide) (by rw [az];lia) (c:=ltV pv) (by rw [hom];simp) (by decide))) (O.k6 ok (sK _) (x:=ltr pv) (a:=aN) (l:=gD Pi) (ai _ (aa _ (ai _ (ai _ (aj ..))))) (c:=.str (dn [pv])) (by rw [jV hp5,hPp]) fun t u h=>rfl)) (O.adds ok (by rw [sl];simp at hz2;lia))) (congrArg AV.str (BF (P0 x) [pv]))) ⟨8,aN,gD Pi,ltr x,rfl,by rw [xQ];decide,PE.name rfl,PE.name rfl,?_⟩
  refine EX.nil (hT .next _ ⟨_,Le.pre (μ:=iV late aTi aN aP aT tv oC (.raw (.ref aR)) (.lst (o.map ltV))++([("sheet", .raw (.ref pS))]:List (Str×AV))) (ν:=[("letter", ltV x)]),?_⟩)
  rw [<- e2,<- xP hx5]
  rfl
 ·rintro eG rfl;rw [az,bP];refine G.jb (M':=fm p d k (upd Lf lv [])++(ir aP aT aN p (tale++[w5 oC o (Lf lv)]) (gD fun x=>if x ∈ cl then P0 x++[pv] else P0 x)++(fH 311 cs++R))) (e7.drop (e7.refl _)) ?_
  exact EX.nil (q pS)
end
end Mine
namespace Mine
noncomputable def B7 (tie:Nat->Nat->Str) (late:Bool) (P:Pth) (oC:Obj):AV:=w5 oC (eZ tie late P) (oF tie (e9 (g5 P)) (eZ tie late P).dropLast (fX (eZ tie late P)))
noncomputable def mK (C:Cx) (tie:Nat->Nat->Str) (late:Bool) (t:Nat) (tale:List AV):Prop :=
 tale.length=t/\∀ i,i<t->∃ oC,DOb C (sK C) oC (cwL (g5 (fR tie late i)))/\tale[i]? = some (B7 tie late (fR tie late i) oC)
theorem mK.snoc {C:Cx} {tie:Nat->Nat->Str} {late:Bool} {t:Nat} {tale:List AV} {oC:Obj} (h:mK C tie late t tale) (d:DOb C (sK C) oC (cwL (g5 (fR tie late t)))):mK C tie late (t+1) (tale++[B7 tie late (fR tie late t) oC]) :=
 ⟨by rw [bl,h.1];rfl,fun i hi=>by
  by_cases e:i<t
  ·refine o1_3 (h.2 i e) fun o d' h'=>?_;exact ⟨o,d',by rw [List.getElem?_append_left (by rw [h.1];exact e)];exact h'⟩
  ·have:i=t:=by lia
   subst this;exact ⟨oC,d,by rw [List.getElem?_append_right (by rw [h.1];exact bF _),h.1];simp⟩⟩
section
variable {w:World} {mg mb:Str->Option Value} {Z:Frag} (g:GA w mg mb)
include g
theorem xy {n:Nat} {L:Addr} {late:Bool} {aTi aN aP aT:Addr} {tv:AV} {tl:List (Str×AV)} {tie:Nat->Nat->Str} {p d:Nat->Addr} {k:Nat->Nat} {Lp:Nat->Pcs} {tale:List AV} {t:Nat} {P0:Pth} {cs:jN} {R:List (Addr×AO)} {P:AF->St->Prop}
  (K:POk t P0) (ht:t<4) (hTi:(aTi,AO.eY tl) ∈ R) (hcs:fD gR cs) (htl:∀ x y,x<5->y<5->x≠y->ie tl (ltr x++ltr y)=some (.str (tie x y))/\(tie x y).length<=11) (hLb:∀ j,j<5->(Lp j).length<=1000) (htz:tale.length<=10)
  (q:∀ oC μ' k' L' cs',DOb (CA w mg mb Z) (sK (CA w mg mb Z)) oC (cwL (g5 P0))->fD gR cs'->(∀ j,j<5->(L' j).length<=1000) ->
   P .next ⟨uM late aTi aN aP aT++μ',fm p d k' L'++(ir aP aT aN p (tale++[B7 tie late P0 oC]) (gD (mR tie late P0))++(fH 311 cs'++R))⟩) :
  EX (CA w mg mb Z) (n+5) (uN w L) ⟨uM late aTi aN aP aT++([("turn", tv)]:List (Str×AV)),fm p d k Lp++(ir aP aT aN p tale (gD P0)++(fH 311 cs++R))⟩ (ux w) P:=by
 have ok:=okA (Z:=Z) g;have sl:sizeLine=16777216:=by decide
 refine EX.cons ?_;refine E1.loc ok ?_;refine EV.j3 (PE.glob rfl (g.glo _ _ rfl)) (show (CA w mg mb Z).K.lookup 309=some _ from rfl) rfl (PL.then (PL.cons (PE.name rfl) PL.nil) (((v9 g (n:=n+2) (aN:=aN) (nl:=gD P0) (P:=P0) (aa _ (ai _ (ai _ (aj ..)))) (fun x hx=>jV hx) (K.Cg (by lia))).on fun av M1 zz=>?_)))
 refine o1_3 zz fun aC rf2 e3=>?_;clear zz;subst rf2;subst e3;refine EX.cons (E1.ite ((PT.cmp (PE.name rfl) PE.nul (O.fY ok rfl)).then ?_))
 rw [aq (by decide)]
 refine EX.nil ?_;refine G.vO (sK (CA w mg mb Z)) (.inl ⟨_,rfl⟩) (x := "crowds") (a:=aC) (l:=cwL (g5 P0)) rfl (M':=fm p d k Lp++(ir aP aT aN p tale (gD P0)++(fH 311 cs++R))) (e7.last (e7.refl _)) (fun p hp=>by refine o1_3 (aE.mp hp) fun c _ rf2=>?_;subst rf2;trivial) fun oC dC=>?_
 refine EX.cons ?_;refine E1.loc ok ?_;refine EV.jo (PE.gB rfl (g.non _ rfl) ((g.mb _ (by decide)).trans rfl)) (PE.then (PE.name rfl) ?_)
 refine O.vg ok (sK _) dC (by unfold cwL;rw [az,K.r9];lia) (fun h=>by refine o1_2 (Value.isStrOf_shape h) fun t rf1=>?_;subst rf1;exact .str _ _) fun aR=>?_
 have eRow:((cwL (g5 P0)).map fun p=>(sK (CA w mg mb Z)).av p.1)=(gf P0).map ltV:=by
  unfold cwL gf;rw [br,br];rfl
 rw [eRow];have hh5:∀ j ∈ gf P0,j<5:=fun j hj=>K.lt hj;refine EX.cons ?_;refine ig ok (l:=(gf P0).map ltV) (fc:=[(aR,.list ((gf P0).map ltV))]) (fun i S=>S=⟨uM late aTi aN aP aT++([("turn", tv),("crowds", .ob oC []),("row", .raw (.ref aR))]:List (Str×AV)),
  (aR,.list ((gf P0).map ltV))::(fm p d (fun j=>if j ∈ (gf P0).take i then 0 else k j) (fun j=>if j ∈ (gf P0).take i then [] else Lp j)++(ir aP aT aN p tale (gD P0)++(fH 311 cs++R)))⟩) ?_ (fun i S e p hp=>?_) ?_ ?_
 ·refine PE.then (PE.name rfl) ⟨f6.zJ (aj ..),?_⟩
  rw [show (fun j=>if j ∈ (gf P0).take 0 then 0 else k j)=k from funext fun x=>by simp,show (fun j=>if j ∈ (gf P0).take 0 then [] else Lp j)=Lp from funext fun x=>by simp]
  rfl
 ·subst e;rw [ao.mp hp];exact aj ..
 ·rintro i eG x' T hT hx' rfl;rw [aQ] at hx';refine o1_3 (aS.mp hx') fun h hx rf2=>?_;subst rf2;have hh:=hh5 h (aV hx);refine TG.loc ok ?_;refine EX.cons ?_;refine E1.ite (ET.cmp (EV.AS g (n:=n+4) (j:=h+1) (p:=p h) (PE.sub (PE.name rfl) (PE.name rfl) (O.k6 ok (sK _) (x:=ltr h) (a:=aP) (l:=pdL p) (ai _ (aa _ (aj ..))) (nX hh) fun t u h=>rfl)) (lN hh) (by split <;> simp [hLb h hh]) ?_))
  refine PE.then PE.nul ?_
  refine (O.iI ok rfl).mono (eq2 ?_);refine G1.mono T1.bool (eq2 ?_);rw [aq (by decide)]
  refine EX.nil (EX.nil (hT .next _ ⟨_,Le.pre (μ:=uM late aTi aN aP aT++([("turn", tv),("crowds", .ob oC []),("row", .raw (.ref aR))]:List (Str×AV))) (ν:=[("head", ltV h)]),?_⟩))
  refine congrArg (St.mk _) ?_;refine congrArg (List.cons _) ?_;refine (kj hh).trans ?_;have e:(gf P0).take (i+1)=(gf P0).take i++[h]:=by rw [bM,hx];rfl
  rw [e];congr 2
  ·funext j;unfold upd;by_cases q:j=h
   ·subst q;simp
   ·simp [q]
  ·funext j;unfold upd;by_cases q:j=h
   ·subst q;simp
   ·simp [q]
 ·rintro eG rfl;rw [az,bP];refine EX.cons ?_;refine E1.loc ok ?_;refine EV.qE ok (EL.nil ⟨by decide,fun aO=>?_⟩)
  generalize hk':(fun j=>if j ∈ gf P0 then 0 else k j)=k'
  generalize hL':(fun j=>if j ∈ gf P0 then ([]:Pcs) else Lp j)=L'
  refine G.jb (M':=fm p d k' L'++(ia aR aO aP aT aN (gf P0) [] p tale (gD P0)++(fH 311 cs++R))) (e7.last (e7.at 2 rfl (e7.at 2 rfl (e7.at 2 rfl (e7.at 2 rfl (e7.at 2 rfl (e7.at 1 rfl (e7.at 0 rfl (e7.refl _)))))))))  ?_;refine o1_2 (K.split (tie:=tie) (late:=late) ht) fun a ho=>?_;refine o0_3 (K.ends (tie:=tie) (late:=late) ht) fun he1 he2 he3=>?_;have hol:(eZ tie late P0).length=5 - t:=by rw [(K.gq (tie:=tie) (late:=late)).length_eq,K.cnt]
  have hcl:=K.r9;have hne:∀ v h x y,v≠h->x ∈ e9 (g5 P0) v->y ∈ e9 (g5 P0) h->x<5/\y<5/\x≠y:=fun v h x y hvh hx hy=>by
   have h1:=gb.mp hx;have h2:=gb.mp hy;exact ⟨h1.1,h2.1,fun e=>hvh (by rw [<- h1.2,<- h2.2,e])⟩
  refine uL g (late:=late) (tie:=tie) (tl:=tl) (p:=p) (d:=d) (k:=k') (Lp:=L') (cs:=cs) dC hTi hh5 fU (by lia) hcs (fun h hh=>⟨mD hh,mE⟩) (fun v _ h _ hvh x hx y hy=>by
   refine o0_3 (hne v h x y hvh hx hy) fun h1 h2 h3=>?_;exact htl x y h1 h2 h3) (fun j hj=>⟨by rw [<- hk'];exact ay hj,by rw [<- hL'];exact ay hj⟩) (fun j hj=>?_) fun aR' cs' Lf hcs' hLf hLl=>?_
  ·rw [<- hL'];show (if _ then _ else _:Pcs).length<=1000
   split
   ·simp
   ·exact hLb j hj
  ·show EX _ _ _ ⟨_,fm p d k' Lf++(ia aR' aO aP aT aN [] ((eZ tie late P0).map ltV) p tale (gD P0)++(fH 311 cs'++R))⟩ _ _;have hLe:Lf (fX (eZ tie late P0))=oF tie (e9 (g5 P0)) (eZ tie late P0).dropLast (fX (eZ tie late P0)):=hLl _ _ (by
    show _=eZ tie late P0;exact (gM (by intro e;rw [e] at hol;simp at hol;lia)).symm)
   have hdl:(eZ tie late P0).dropLast.length<=4:=by rw [List.length_dropLast];lia
   have hdm:∀ u ∈ (eZ tie late P0).dropLast,u≠fX (eZ tie late P0):=fun u hu e=>by
    have hn:=(K.gq (tie:=tie) (late:=late)).nodup_iff.mpr fU;rw [gM (row:=eZ tie late P0) (by intro e;rw [e] at hol;simp at hol;lia)] at hn
    exact (aJ.mp hn).2.2 u hu _ (ao.mpr rfl) e
   refine xA g (n:=n+1) (pv:=iy (eZ tie late P0)) (lv:=fX (eZ tie late P0)) (cl:=e9 (g5 P0) (fX (eZ tie late P0))) dC ho (by lia) (K.lt he2) (K.lt he1) (mD he2) (fun x hx=>(gb.mp hx).1) mE (by rw [kU];exact List.nodup_range.filter _) (fun hx=>he3 ?_) (K.self he1).1 (fun x hx=>bC (K.len x hx) (by lia)) ?_ (fun q hq=>?_) htz fun pS=>?_
   ·rw [<- (gb.mp hx).2,(K.self he1).2]
   ·rw [hLe];exact bC (lz fun u _=>mE) (by lia)
   ·rw [hLe] at hq;refine o1_3 (bK.mp hq) fun u hu hq=>?_;have:=lP (fun x hx y hy=>by
     refine o0_3 (hne u (fX (eZ tie late P0)) x y (hdm u hu) hx hy) fun h1 h2 h3=>?_;exact (htl x y h1 h2 h3).2) q hq
    lia
   ·have hnx:gD (fun x=>if x ∈ e9 (g5 P0) (fX (eZ tie late P0)) then P0 x++[iy (eZ tie late P0)] else P0 x)=gD (mR tie late P0):=tL fun x hx=>by
     unfold mR;by_cases q:gj P0 x=fX (eZ tie late P0)
     ·rw [ay q,ay (gb.mpr ⟨hx,q⟩)]
     ·rw [aq q,aq fun z=>q (gb.mp z).2]
    rw [hnx,hLe];exact q oC [("turn", tv),("crowds", .ob oC []),("row", .raw (.ref aR')),("order", .lst ((eZ tie late P0).map ltV)),("sheet", .raw (.ref pS))] k' (upd Lf (fX (eZ tie late P0)) []) cs' dC hcs' fun j hj=>by
     unfold upd;split
     ·simp
     ·exact hLf j hj
end
end Mine
namespace Mine
theorem e7.comm {A B M':List (Addr×AO)} (k:e7 M' (B++A)):e7 M' (A++B):=by
 refine o1_2 k fun T k=>?_;exact ⟨T,k.trans aZ⟩
theorem yy {f:Nat->AV} {i:Nat} {v:AV}:iZ ((List.range i).map fun j=>(ltr j,f j)) (ltr i) v=((List.range i).map fun j=>(ltr j,f j))++[(ltr i,v)]:=by
 unfold iZ;rw [aq];intro q;refine o1_3 (cO.mp q) fun p hp e=>?_;refine o1_3 (aE.mp hp) fun j hj rf2=>?_;subst rf2;have:=je (cG e);have:=aL.mp hj;lia
section
variable {w:World} {mg mb:Str->Option Value} {Z:Frag} (g:GA w mg mb)
include g
theorem AL {n:Nat} {late:Bool} {aTi aN:Addr} {tl:List (Str×AV)} {tie:Nat->Nat->Str} {cs:jN} {R:List (Addr×AO)}
  (hTi:(aTi,AO.eY tl) ∈ R) (hcs:fD gR cs) (htl:∀ x y,x<5->y<5->x≠y->ie tl (ltr x++ltr y)=some (.str (tie x y))/\(tie x y).length<=11) :
  FC (CA w mg mb Z) (n+6) 314 ((aN,.eY (gD fun x=>[x]))::(fH 311 cs++R)) [.raw (.ref aTi),.bool late,.raw (.ref aN)] (fun av M'=>∃ tale cs',av = .lst tale/\mK (CA w mg mb Z) tie late 4 tale/\fD gR cs'/\M'=(aN,.eY (gD (fR tie late 4)))::(fH 311 cs'++R)):=by
 have ok:=okA (Z:=Z) g;refine mh ok (ab:=[("ties", .raw (.ref aTi)),("late", .bool late),("names", .raw (.ref aN))]) ⟨⟨_,rfl,rfl⟩,⟨_,_,_,_,rfl,rfl,rfl,rfl⟩,rfl,rfl,rfl,(fun x c h=>by cases h),rfl,rfl,rfl,by decide⟩ (by decide) (by decide) rfl (BK fun _ _ _=>rfl) (by intro x hx;simp at hx;rcases hx with rfl | rfl | rfl <;> exact .inl rfl) ?_
 intro L;show EX _ _ (uN w L) _ (C0 w) _;refine EX.cons ?_;refine E1.cell ok ?_;refine EV.yl ok (arm_eval_DictComp ..) rfl (mkD (sK _)) (fun D L=>qY) ⟨rfl,by decide,rfl,by decide,by decide⟩ (PE.then (PE.str ok) ⟨chars "abcde", [],[],fun D L i S=>∃ p d:Nat->Addr,S=⟨[],(D,.eY ((List.range i).map fun j=>(ltr j,.raw (.ref (p j)))))::(((aN,.eY (gD fun x=>[x]))::(fH 311 cs++R))++(List.range i).map (jJ p d (fun _=>3) fun _=>[]))⟩,f6.of (.name _ _) (Iter.str ok),⟨fun L=>Cap.nil,fun D L=>⟨fun _=>0,fun _=>0,?_⟩,(fun _ _ _ _ _ _ h=>nomatch h),fun D L i S x hx hI=>?_⟩,fun D L S' hI=>?_⟩)
 ·rw [List.range_zero,dX,dX,bf];rfl
 ·refine o2_3 hI fun p d rf2=>?_;clear hI;subst rf2;rw [qa,aQ] at hx;refine o1_3 (aS.mp hx) fun x' hx' rf2=>?_;subst rf2;have hx5:i<5/\x'=i:=by
   refine o1_2 (aM.mp hx') fun h1 h2=>?_;simp at h1 h2;lia
  refine o0_2 hx5 fun hi5 rf1=>?_;clear hx5;subst rf1;refine TG.loc ok ?_;refine CT.nil ?_;rw [ay rfl];refine EM.C4 (sK _) ?_ ok;refine PE.then (PE.name rfl) ?_
  refine EV.Ac (PE.glob rfl (g.glo _ _ rfl)) rfl (PL.then (PL.cons (PE.int ok) PL.nil) (((yW g (n:=n+3) (k:=3) (.inr rfl)).on fun av M1 zz=>?_)))
  refine o2_4 zz fun pS dS rf3 e3=>?_;clear zz;subst rf3;subst e3;refine ⟨ltr x',_,rfl,rfl,by simp;lia,⟨[],(D,.eY ((List.range (x'+1)).map fun j=>(ltr j,.raw (.ref (upd p x' pS j)))))::(((aN,.eY (gD fun x=>[x]))::(fH 311 cs++R))++(List.range (x'+1)).map (jJ (upd p x' pS) (upd d x' dS) (fun _=>3) fun _=>[]))⟩,⟨?_,fun _ _ h=>nomatch h⟩,upd p x' pS,upd d x' dS,rfl⟩
  have e1:(List.range x').map (fun j=>(ltr j,AV.raw (.ref (upd p x' pS j))))=(List.range x').map fun j=>(ltr j,AV.raw (.ref (p j))):=bh fun j hj=>by
   have:=aL.mp hj;rw [mX (by lia)]
  have e2:(List.range x').map (jJ (upd p x' pS) (upd d x' dS) (fun _=>3) fun _=>[])=(List.range x').map (jJ p d (fun _=>3) fun _=>[]):=bh fun j hj=>by
   have:=aL.mp hj;unfold jJ;rw [mX (by lia),mX (by lia)]
  rw [dz,bq,bq,e1,e2,<- aH];show (D,AO.eY _)::_=(D,AO.eY (iZ ((List.range x').map fun j=>(ltr j,AV.raw (.ref (p j)))) (ltr x') (.raw (.ref pS))))::_;rw [yy];show (D,AO.eY (_++[(ltr x',AV.raw (.ref (upd p x' pS x')))]))::(_++[jJ (upd p x' pS) (upd d x' dS) (fun _=>3) (fun _=>[]) x'])=_;unfold jJ;rw [iM,iM]
  rfl
 ·refine o2_3 hI fun p d rf2=>?_;clear hI;subst rf2;refine EX.cons ?_;refine E1.loc ok ?_;refine EV.qE ok (EL.nil ⟨by decide,fun aT=>?_⟩)
  refine G.jb (M':=fm p d (fun _=>3) (fun _=>[])++(ir D aT aN p [] (gD fun x=>[x])++(fH 311 cs++R))) (e7.last (e7.comm (A:=(aT,AO.list [])::(D,AO.eY (pdL p))::(aN,AO.eY (gD fun x=>[x]))::(fH 311 cs++R)) (B:=fm p d (fun _=>3) (fun _=>[])) (e7.at 0 rfl (e7.at 0 rfl (e7.at 0 rfl (e7.at 0 rfl (e7.at 0 rfl (e7.at 1 rfl (e7.refl _))))))))) ?_;refine EX.cons ?_;refine kG ok (l:=upto 0 4) (fun t S=>∃ k Lp cs1 tale,fD gR cs1/\mK (CA w mg mb Z) tie late t tale/\(∀ j,j<5->(Lp j).length<=1000) /\
   S=⟨uM late aTi aN D aT,fm p d k Lp++(ir D aT aN p tale (gD (fR tie late t))++(fH 311 cs1++R))⟩) (.name _ _) (PE.then (PE.jo (PE.gB rfl (g.non _ rfl) ((g.mb _ (by decide)).trans rfl)) (PE.int ok) (O.rN ok)) ⟨Iter.rng ok rfl,fun _=>3,fun _=>[],cs,[],hcs,⟨rfl,fun i hi=>by lia⟩,fun _ _=>by simp,rfl⟩) ?_ ?_
  ·intro t d7 a T hT hx hz;refine o4_8 hz fun k Lp cs1 tale hcs1 htale hLb rf7=>?_;clear hz;subst rf7;have ht4:t<4:=by
    have:=(aM.mp hx).1;exact this
   refine TG.loc ok ?_;refine xy g (late:=late) (tie:=tie) (gv t (by lia)) ht4 hTi hcs1 htl hLb (by rw [htale.1];lia) fun oC μ' k' L' cs2 dC hcs2 hLb2=>?_
   exact hT .next _ ⟨_,Le.pre,k',L',cs2,_,hcs2,htale.snoc dC,hLb2,rfl⟩
  ·intro d7 hz;refine o4_8 hz fun k Lp cs1 tale hcs1 htale hLb rf7=>?_;clear hz;subst rf7;refine G.freeze (a:=aT) (x := "tale") (l:=tale) rfl (M':=(aN,.eY (gD (fR tie late 4)))::(fH 311 cs1++R)) (e7.at 6 rfl (e7.at 6 rfl (e7.drop (e7.drop (e7.drop (e7.drop (e7.drop (e7.drop (e7.refl _))))))))) ?_
   refine EX.cons (E1.ret ((PE.name rfl).then ?_))
   exact ⟨tale,cs1,rfl,htale,hcs1,rfl⟩
end
end Mine
namespace Mine
section
variable {C:Cx} {n:Nat} {env:Env} {S S':St} {Y D:List Addr} {dZ s s':Shared} {c:Addr}
theorem Rel.zq (R:Rel C Y dZ D env S s) (hz:∀ p ∈ C.Z,p.1≠c):Rel C Y s ([c]++(fa env++fj S.M)) env S s :=
 ⟨R.bs,R.ev,R.fr,R.free,R.ob,R.nd,R.dis,R.hi,.refl ..,fun a h=>.inl (aa _ h),fun p hp=>⟨(R.zb p hp).1,(R.zb p hp).2.1,fun q=>(au.mp q).elim (fun q=>hz p hp (ao.mp q)) (R.zb p hp).2.2⟩⟩
theorem Rel.A8 (R:Rel C Y dZ D env S s) (hc:c ∈ D) (R':Rel C Y s ([c]++(fa env++fj S.M)) env S' s'):Rel C Y dZ D env S' s' :=
 ⟨R'.bs,R'.ev,R'.fr,R'.free,R'.ob,R'.nd,R'.dis,R'.hi,R.st.trans R'.st (fun b hb=>(au.mp hb).elim (fun q=>.inl (ao.mp q▸hc)) (R.own b)),fun b hb=>by
  rcases R'.own b hb with z | z
  ·rcases au.mp z with z | z
   ·exact .inl (ao.mp z▸hc)
   ·exact R.own b z
  ·exact (R.gg z).2.2.2,R.z⟩
noncomputable def TGX (C:Cx) (n:Nat) (env:Env) (c:Addr) (z:Prop) (S:St) (t:Expr) (a:AV) (P:St->Prop):Prop :=
 ∀ A Y s v Q,AOk n A->Rel C Y s ([c]++(fa env++fj S.M)) env S s->c ∈ Y->(z->s.heap.IsCell c none)->VR s.heap (Xo C Y env S) v a->(∀ s' S',P S'->Rel C Y s ([c]++(fa env++fj S.M)) env S' s'->Kp C Y env S s S' s'->Q () s')->wpAny (model C.prog C.w) A (assign t env v) Q No s
theorem TGX.name (ok:C.Ok) {x:Str} {p:Pos} {a:AV} {z:Prop} {P:St->Prop} (hk:env.kindOf x=some .cell) (hf:env.func=none) (hc:env.cells.lookup x=some c) (hoth:∀ y c',y≠x->env.cells.lookup y=some c'->c'≠c) (hz:z\/∃ b,S.μ.lookup x=some b)
  (h:P ⟨ins x a S.μ,S.M⟩):TGX C n env c z S (.Name x p) a P:=fun A Y s v Q ha R hcY h0 r q=>by
 have hcell:∃ ov,s.heap.IsCell c ov:=by
  rcases hz with hz | ⟨b,hb⟩
  ·exact ⟨_,h0 hz⟩
  ·refine o2_5 (R.fr.cel x b hb (.inl hk)) fun c' v' e1 e2 _=>?_;rw [hc] at e1;cases e1;exact ⟨_,e2⟩
 refine o1_2 hcell fun ov hcell=>?_;refine cD (wpAny_storeName_cell R.ev.kind hk hc hcell fun h' hn hs=>?_);have hcT:c ∉ C.T:=R.tn (aa _ (aa _ hcY));have st:fC C.T [c] s { s with heap:=h' }:=⟨.sameBut hs hcT,rfl,rfl,id⟩
 have hX:∀ b ∈ [c],b ∈ Xo C Y env S:=fun b hb=>fJ.mpr (.inr (.inr (ao.mp hb▸hcY)));have nw:∀ b ∈ fa env++fj S.M,b ∉ [c]:=fun b hb q=>R.dis b (ao.mp q▸hcY) hb;have K:∀ v av,VR s.heap (Xo C Y env S) v av->VR h' (Xo C Y env ⟨ins x a S.μ,S.M⟩) v av:=fun v av r=>r.stp st.heap hX R.hT;refine q _ _ h ⟨R.bs.stp ok st.heap fun b hb=>(R.hi b (aa _ (aa _ (ao.mp hb▸hcY)))).1,R.ev,⟨?_,fun y av e k=>?_,fun y c' k e=>?_,fun y av e=>?_⟩,R.free,
  fun p hp=>(R.ob p hp).stp st.heap hX R.hT fun b hb=>⟨nw b (aa _ (eU hp hb)),R.tn (aa _ (af _ (eU hp hb)))⟩,R.nd,R.dis,fun b hb=>⟨(R.hi b hb).1,(R.hi b hb).2.1,?_⟩,R.st.trans st fun b hb=>.inl (af _ hb),R.own,R.z⟩ K
 ·refine o1_3 R.fr.loc fun m hm z=>?_;refine ⟨m,hm.sameBut hs fun e=>R.dis c hcY (e▸af _ (jD env)),fun y av e k=>?_⟩;rw [fq] at e;by_cases e2:y=x
  ·subst e2;rw [hk] at k;cases k
  ·rw [aq e2] at e;refine o1_3 (z y av e k) fun v e3 r3=>?_;exact ⟨v,e3,K _ _ r3⟩
 ·rw [fq] at e;by_cases e2:y=x
  ·subst e2;rw [ay rfl] at e;cases e;exact ⟨c,v,hc,hn,K _ _ r⟩
  ·rw [aq e2] at e;refine o2_5 (R.fr.cel y av e k) fun c' v' e3 e4 r4=>?_;exact ⟨c',v',e3,e4.sameBut hs (hoth y c' e2 e3),K _ _ r4⟩
 ·exfalso;have:=k.2;rw [hf] at this;cases this
 ·rw [fq] at e;by_cases e2:y=x
  ·subst e2;exact .inr (.inl hk)
  ·rw [aq e2] at e;exact R.fr.kind y av e
 ·refine o1_2 ((R.hi b hb).2.2) fun o e=>?_;by_cases e2:b=c
  ·refine o1_3 hn fun o' e' _=>?_;clear hn;exact ⟨o',e2▸e'⟩
  ·exact ⟨o,(hs.2 b e2).trans e⟩
end
noncomputable def jn:Obj:={ cls:=.type "cell", data:=.cell none }
noncomputable def k7:Obj:={ cls:=.type "dict", data:=.dict #[] }
noncomputable def yP:Obj:={ cls:=.type "dict", data:=.freed }
theorem nB {h:Heap} {f o:Obj} {a:Addr} (q:(h.push f).get? a=some o) (hf:f.isFreed=true):h.get? a=some o:=by
 rcases Heap.get?_push_cases q with ⟨q1,q2⟩ | q1
 ·subst q2;have:=(Heap.get?_some_iff.mp q).2;rw [hf] at this;cases this
 ·exact q1
noncomputable def gW (x:Str) (scope:Scope) (env:Env) (L:Addr):Env:=compEnvC scope ((x,L+1)::closOf env scope.names []) L env
theorem i9 {M:Model} {A:Around} {E:Value->Shared->Prop} {s:Shared} {scope:Scope} {globals:Addr} {clos:List (Str×Addr)} {qual:Str} {outer:Env} {Q:Env->Shared->Prop}
  (hQ:Q { scope:=scope,locals:=s.heap.objs.size,globals:=globals,cells:=cellsFrom (s.heap.objs.size+1) scope.names clos,qual:=qual,func:=none,code:=outer.code,frame:=outer.frame,builtins:=outer.builtins } { s with heap:=pushCells (s.heap.push k7) scope.names }) :
  wpAny M A (newFunctionEnv scope globals clos [] qual none .none (some outer)) Q E s:=by
 simp only [newFunctionEnv,Option.isSome_some,if_true];refine ah (wpAny_alloc ?_);refine ah (wpAny_layCells _ (fun name kind cells=>by cases hkc:kind == NameKind.cell <;> simp [hkc]) _ _ _ _ ?_)
 refine ah ?_;rw [List.forIn_nil];refine ak (ak ?_);have e:(s.heap.push { cls:=.type "dict", data:=.dict #[] }).objs.size=s.heap.objs.size+1:=Heap.size_push ..
 rw [show ({ s with heap:=s.heap.push { cls:=.type "dict", data:=.dict #[] } }:Shared).heap.objs.size=s.heap.objs.size+1 from e]
 exact hQ
section
variable {C:Cx} (ok:C.Ok) {n:Nat} {env:Env} {S:St}
include ok
theorem yp {e target iter:Expr} {ifs:List Expr} {body:Sem Unit} {depth:Nat} {acc:Value} (cl:Clause C.prog C.w e target iter ifs body depth acc env) {l:List AV} {I:Addr} {fp wr:List Addr} {St:Nat->Heap->Prop} {A:Around} {Yc Dc:List Addr} {sb d8:Shared} {d7:Mine.St}
  {R:Result->Shared->Prop} (Inv:Nat->Mine.St->Prop) (ha:AOk n A) (d9:Rel C Yc sb Dc env d7 d8) {fc:List (Addr×AO)} {q8:List Addr} {jY:Heap} (F:wQ C A fc q8 jY l target I fp wr St) (up:∀ v av,VR jY q8 v av->VR d8.heap (Xo C Yc env d7) v av)
  (jj:∀ i S,Inv i S->∀ p ∈ fc,p ∈ S.M) (hst:St 0 d8.heap) (hwY:∀ b ∈ wr,b ∈ Yc) (hwD:∀ b ∈ wr,b ∈ Dc) (hfw:∀ x c,q9 env x->env.cells.lookup x=some c->c ∉ wr) {c:Addr} (hcY:c ∈ Yc) (hcD:c ∈ Dc) (hcw:c ∉ wr) (hcf:c ∉ fp) (hc0:d8.heap.IsCell c none)
  (hfp:∀ b ∈ fp,b ∉ C.T/\(b ∈ wr\/(b ∉ Dc/\jr sb.heap b))) (sG:Inv 0 d7)
  (turn:∀ i S x,l[i]? = some x->Inv i S->TGX C n env c (i=0) S target x fun eG=>CT C n env eG ifs fun b fk=>if b=true then EM C n env fk body (j5 (Inv (i+1))) else j5 (Inv (i+1)) fk)
  (q:∀ s' S' s'',Inv l.length S'->Rel C Yc sb Dc env S' s'->Kp C Yc env d7 d8 S' s'->fC C.T wr s' s''->R (.ok .next) s''):codeAny (model C.prog C.w) A (.compLoop e depth (.ref I) acc env) R d8:=by
 have step:∀ {S':Mine.St} {s':Shared} {h':Heap} {tk:Nat},Rel C Yc sb Dc env S' s'->(∀ b o,b ∉ wr->s'.heap.get? b=some o->h'.get? b=some o)->fC C.T wr s' { s' with heap:=h',toks:=tk }:=fun R hk=>⟨⟨fun a o e nw _=>hk a o nw e,fun a ha vs e tr=>⟨vs,by
  have:a ∉ wr:=fun q=>R.tn (aa _ (aa _ (hwY a q))) ha;exact hk a _ this e,tr,#[],by simp⟩⟩,rfl,rfl,id⟩
 refine o1_2 (⟨_,rfl⟩:∃ J:Nat->Shared->Prop,J=fun k s'=>∃ i S',k=l.length+1 - i/\i<=l.length/\Rel C Yc sb Dc env S' s'/\Kp C Yc env d7 d8 S' s'/\St i s'.heap/\Inv i S'/\(i=0->s'.heap.IsCell c none)) fun J hJ=>?_;have mk:∀ i S' s',i<=l.length->Rel C Yc sb Dc env S' s'->Kp C Yc env d7 d8 S' s'->St i s'.heap->Inv i S'->(i=0->s'.heap.IsCell c none)->J (l.length+1 - i) s':=fun i S' s' a b k d e f=>by
  rw [hJ];exact ⟨i,S',rfl,a,b,k,d,e,f⟩
 refine r8 cl J ?_ (l.length+1) (mk 0 d7 _ (bR _) d9 .refl hst sG fun _=>hc0);intro k s' jk;rw [hJ] at jk;refine o2_9 jk fun i S' rf2 hi R' K' hst' inv hcell=>?_;clear jk;subst rf2;by_cases hlt:i<l.length
 ·refine F.item i _ hlt hst' R' (jj i S' inv) (fun v av r=>K' _ _ (up _ _ r)) fun v a h' tk hla ra hst1 hk=>F.go (i+1) _ v _ hst1 ?_;refine o0_2 (R'.zg ok (step (tk:=tk) R' hk) hwY hwD (F.lw _ _ hst1) hfw) fun R3 K3=>?_;have hzc:∀ p ∈ C.Z,p.1≠c:=fun p hp e=>(R'.z p hp).2.2 (e▸hcD);refine turn i S' a hla inv A Yc _ v _ ha (R3.zq hzc) hcY (fun e=>?_) (K3 _ _ ra) fun gC gU gY gm gK=>?_
  ·refine o1_3 (hcell e) fun o ho hd=>?_;exact ⟨o,hk _ _ hcw ho,hd⟩
  refine gY A _ _ _ gC _ ha gm fun okb gr b wI jw gF mO eb=>?_;obtain rfl:okb=b:=eb;have again:∀ {nO i7},Rel C Yc { s' with heap:=h',toks:=tk } ([c]++(fa env++fj S'.M)) env i7 nO->Kp C Yc env S' { s' with heap:=h',toks:=tk } i7 nO->j5 (Inv (i+1)) i7->∃ m,m<l.length+1 - i/\J m nO:=fun oH ri z=>by
   refine o1_3 z fun Ak le h7=>?_;clear z;refine ⟨l.length+1 - (i+1),by lia,mk (i+1) Ak _ hlt ((R3.A8 hcD oH).le le) (((K'.trans K3).trans ri).le le) (F.frame _ _ _ hst1 fun b hb o e=>oH.st.heap.keep b o e (fun q=>?_) (hfp b hb).1) h7 fun e=>by lia⟩
   rcases au.mp q with q | q
   ·exact hcf (ao.mp q▸hb)
   rcases (hfp b hb).2 with z | ⟨z1,z2⟩
   ·exact R'.dis b (hwY b z) q
   ·exact (R'.own b q).elim z1 fun z=>z2.ne z rfl
  cases okb with
  | false =>
    rw [aq (by decide)] at jw
    exact again gF (gK.trans mO) jw
  | true =>
    rw [ay rfl] at jw;rw [ay rfl];exact jw A _ _ _ gr _ ha gF fun _ nO _ i7 zv oH ri _=>again oH ((gK.trans mO).trans ri) zv
 ·have hin:i=l.length:=by lia
  subst hin;exact F.done _ hst' R' (jj _ S' inv) fun h' tk hk=>q s' S' _ inv R' K' (step R' hk)
theorem yj {x:Str} {use:Option (Value->Sem Unit)} {Qc:Value->Shared->Prop} {e target iter:Expr} {ifs:List Expr} {body:Addr->Addr->Sem Unit} {scope:Scope} {newAcc:Sem Value} {ob0:Obj} {acc0:AO} {l:List AV} {fc:List (Addr×AO)} (μc:List (Str×AV)) (Inv:Addr->Addr->Nat->St->Prop)
  (hnew:∀ A s (Q:Value->Shared->Prop),Q (.ref s.heap.objs.size) { s with heap:=s.heap.push ob0 }->wpAny (model C.prog C.w) A newAcc Q No s) (hacc:∀ h X a,h.get? a=some ob0->OR C h X a acc0) (hmo:acc0.more=[]) (hob:ob0.isFreed=false)
  (cl:∀ D L,Clause C.prog C.w e target iter ifs (body D L) 0 (.ref D) (gW x scope env L))
  (hok:j0 scope env=true) (hpc:∀ h,pushCells h scope.names=h.push jn) (hcF:∀ k acc,cellsFrom k scope.names acc=(x,k)::acc) (hkind:scope.kind = .function) (hmore:∀ y ∈ scope.names,y.2 = .free->(y.1 == ("__classdict__" : Str))=false)
  {A:Around} {Y D:List Addr} {dZ ee d8:Shared} {d7:St} {I:Addr} {fp wr:List Addr} {St:Nat->Heap->Prop} (ha:AOk n A) (d9:Rel C Y dZ D env d7 ee) (gG:fC C.T [] ee d8) (F:wQ C A fc (Xo C (wr++Y) env d7) d8.heap l target I fp wr St) (hst:St 0 d8.heap)
  (hfp:∀ b ∈ fp,b ∉ fa env++fj d7.M/\b ∉ C.T/\jr d8.heap b) (hw:∀ b ∈ wr,ee.heap.get? b=none) (hcap:∀ L,Cap env (gW x scope env L) d7 μc)
  (sG:∀ D L,Inv D L 0 ⟨μc,(D,acc0)::d7.M⟩) (jj:∀ D L i S,Inv D L i S->∀ p ∈ fc,p ∈ S.M)
  (turn:∀ D L,(∀ y c,y≠x->(gW x scope env L).cells.lookup y=some c->c≠L+1)->∀ i S a,l[i]? = some a->Inv D L i S->TGX C n (gW x scope env L) (L+1) (i=0) S target a fun eG=>CT C n (gW x scope env L) eG ifs fun b fk=>if b=true then EM C n (gW x scope env L) fk (body D L) (j5 (Inv D L (i+1))) else j5 (Inv D L (i+1)) fk)
  (exit:∀ {L D':Addr} {Wx:List Addr} {s3 s':Shared} {S':Mine.St} {m:Str->Option Value},Inv D' L l.length S'->fC C.T [] ee s3->(∀ b ∈ Wx,ee.heap.get? b=none)->L ∈ Wx->Rel C ([L]++Y) s3 (Wx++(fa env++fj d7.M)) env ⟨d7.μ,S'.M⟩ s' ->
   (∀ v av,VR ee.heap (Xo C Y env d7) v av->VR s'.heap (Xo C ([L]++Y) env ⟨d7.μ,S'.M⟩) v av)->s'.heap.Ns L m->compPost (model C.prog C.w) A No use Qc (.ref D') L (.ok .next) s') :
  wpAny (model C.prog C.w) A newAcc (fun acc ez=>wpAny (model C.prog C.w) A (newFunctionEnv scope env.globals (closOf env scope.names []) [] env.qual none .none (some env)) (fun cenv gC =>
   codeAny (model C.prog C.w) A (.compStart e 0 (.ref I) acc { cenv with scope:=relabel scope env }) (compPost (model C.prog C.w) A No use Qc acc cenv.locals) gC) No ez) No d8:=by
 refine hnew A d8 _ (i9 ?_);rw [hpc,hcF];dsimp only;have D2:d8.heap.get? d8.heap.objs.size=none:=eH _;refine o0_2 (d9.Au ok gG hw (F.lw 0 _ hst)) fun eB eN=>?_;let ez:Shared:={ d8 with heap:=d8.heap.push ob0 }
 have eD:ez.heap.get? d8.heap.objs.size=some ob0:=aI _ hob;have hfoot:foot (d8.heap.objs.size,acc0)=[d8.heap.objs.size]:=by unfold foot;rw [hmo]
 refine o0_2 (eB.newObj ok (a:=d8.heap.objs.size) (o:=acc0) (s':=ez) (fun b hb=>by
  rw [hfoot] at hb;rw [ao.mp hb];exact ⟨D2,_,eD⟩) (by rw [hfoot];simp) (.alloc ..) (hacc _ _ _ eD)) fun wJ qd=>?_
 have sub:e7 ((d8.heap.objs.size,acc0)::d7.M) (d7.M++[(d8.heap.objs.size,acc0)]):=.of (R:=[]) (by rw [bf];exact aZ (l₁:=[_]))
 have eV:=wJ.jb sub;have lA:fC C.T [] ee ez:=gG.gP (.alloc ..);have wrLive:∀ b ∈ wr,jr ez.heap b:=fun b h=>by
  refine o1_2 (F.lw 0 _ hst b h) fun o e=>?_;exact ⟨o,aA _ e⟩
 have fpLive:∀ b ∈ fp,jr ez.heap b:=fun b h=>by
  refine o1_2 ((hfp b h).2.2) fun o e=>?_;exact ⟨o,aA _ e⟩
 have hst3:St 0 ez.heap:=F.frame _ _ _ hst fun b _ o e=>aA _ e;have up3:∀ v av,VR d8.heap (Xo C (wr++Y) env d7) v av->VR ez.heap (Xo C (wr++Y) env ⟨d7.μ,(d8.heap.objs.size,acc0)::d7.M⟩) v av:=fun v a r=>sub.vr (qd v a r);show codeAny (model C.prog C.w) A (.compStart e 0 (.ref I) (.ref d8.heap.objs.size) (gW x scope env ez.heap.objs.size)) (compPost (model C.prog C.w) A No use Qc (.ref d8.heap.objs.size) ez.heap.objs.size) { ez with heap:=(ez.heap.push k7).push jn }
 have L3:ez.heap.get? ez.heap.objs.size=none:=eH _;have c3:ez.heap.get? (ez.heap.objs.size+1)=none:=dH (Nat.le_succ _);have szd:∀ o,(ez.heap.push o).objs.size=ez.heap.objs.size+1:=fun o=>Heap.size_push ..;let sv:Shared:={ ez with heap:=(ez.heap.push yP).push jn }
 have ecv:sv.heap.get? (ez.heap.objs.size+1)=some jn:=by
  have:=aI (ez.heap.push yP) (o:=jn) rfl;rwa [szd] at this
 have ec1:((ez.heap.push k7).push jn).get? (ez.heap.objs.size+1)=some jn:=by
  have:=aI (ez.heap.push k7) (o:=jn) rfl;rwa [szd] at this
 have Lv:sv.heap.get? ez.heap.objs.size=none:=by
  cases q:sv.heap.get? ez.heap.objs.size with
  | none=>rfl
  | some o =>
    rcases Heap.get?_push_cases q with ⟨q1,_⟩ | q1
    ·rw [szd] at q1;exact absurd q1 (cz (Nat.lt_succ_self _))
    ·rw [nB q1 rfl] at L3;cases L3
 have keep4:∀ a o,sv.heap.get? a=some o->((ez.heap.push k7).push jn).get? a=some o:=fun a o q=>by
  rcases Heap.get?_push_cases q with ⟨q1,q2⟩ | q1
  ·rw [szd] at q1;subst q1;subst q2;exact ec1
  ·exact aA _ (aA _ (nB q1 rfl))
 have xv:fC C.T [] ez sv:=⟨.of_keeps fun a o q=>aA _ (aA _ q),rfl,rfl,id⟩;have um:fC C.T [] sv { ez with heap:=(ez.heap.push k7).push jn }:=⟨.of_keeps keep4,rfl,rfl,id⟩
 have ji:((ez.heap.push k7).push jn).Ns ez.heap.objs.size fun _=>none:=(Heap.Ns.new ez.heap (.type "dict")).keeps fun a o q=>aA _ q
 have cw:ez.heap.objs.size+1 ∉ wr:=fun h=>(wrLive _ h).ne c3 rfl;have hcT:ez.heap.objs.size+1 ∉ C.T:=fun h=>(eV.bs.iG h).ne c3 rfl;have hdead:∀ b ∈ (ez.heap.objs.size+1)::wr,ee.heap.get? b=none:=fun b hb=>by
  rcases aG.mp hb with e | h
  ·rw [e];exact lA.dead c3 hcT
  ·exact hw b h
 refine o0_2 (eV.Au ok (W:=[ez.heap.objs.size+1]) xv (fun b hb=>by rw [ao.mp hb];exact c3) (fun b hb=>by rw [ao.mp hb];exact ⟨_,ecv⟩)) fun Rv Kv=>?_
 have efa:fa (gW x scope env ez.heap.objs.size)=[ez.heap.objs.size]:=by unfold fa;simp [gW,compEnvC]
 have hf:∀ b ∈ fa (gW x scope env ez.heap.objs.size),sv.heap.get? b=none:=fun b hb=>by
  rw [efa] at hb;rw [ao.mp hb];exact Lv
 have inner:∀ {v av},VR sv.heap (Xo C ([ez.heap.objs.size+1]++(wr++Y)) env ⟨d7.μ,(d8.heap.objs.size,acc0)::d7.M⟩) v av->VR ((ez.heap.push k7).push jn) (Xo C (fa env++([ez.heap.objs.size+1]++(wr++Y))) (gW x scope env ez.heap.objs.size) ⟨μc,(d8.heap.objs.size,acc0)::d7.M⟩) v av:=fun r =>
  (r.sub (enterX hf)).stp um.heap (fun _ h=>nomatch h) fun a h=>af _ h
 have look:∀ y c',(gW x scope env ez.heap.objs.size).cells.lookup y=some c'->c'=ez.heap.objs.size+1\/(closOf env scope.names []).lookup y=some c':=fun y c' e=>by
  have e':((x,ez.heap.objs.size+1)::closOf env scope.names []).lookup y=some c':=e;rw [bz] at e';cases q:y == x with
  | true=>rw [q] at e';exact .inl (bE e').symm
  | false=>rw [q] at e';exact .inr e'
 have lentOk:∀ y c,(gW x scope env ez.heap.objs.size).cells.lookup y=some c->c ∈ fa env++([ez.heap.objs.size+1]++(wr++Y))\/C.Old c:=fun y c e=>by
  rcases look y c e with e | e
  ·exact .inl (aa _ (af _ (ao.mpr e)))
  ·refine o0_2 (gz hok e) fun e1 k=>?_;rcases iO k with k | k
   ·exact .inl (af _ (fB k e1))
   ·exact (eV.free y c k e1).imp (fun h=>aa _ (aa _ h)) id
 have gm:Rel C (fa env++([ez.heap.objs.size+1]++(wr++Y))) sv (fj ((d8.heap.objs.size,acc0)::d7.M)) (gW x scope env ez.heap.objs.size) ⟨μc,(d8.heap.objs.size,acc0)::d7.M⟩ { ez with heap:=(ez.heap.push k7).push jn }:=by
  refine Rv.enter (S:=⟨d7.μ,(d8.heap.objs.size,acc0)::d7.M⟩) ok um hf (fun b hb=>?_) (by rw [efa];simp) ⟨?_,d9.ev.glob,d9.ev.wV,fun y ky=>?_⟩ ⟨⟨_,ji,fun y av e k=>?_⟩,fun y av e k=>?_,fun y c k _=>?_,fun y av e=>?_⟩ (fun y c _ e=>lentOk y c e)
  ·rw [efa] at hb;rw [ao.mp hb];refine o3_5 ji fun o _ _ q _=>?_;clear ji;exact ⟨o,q⟩
  ·exact hkind
  ·refine o1_3 (aE.mp (mem_of_lookup ky)) fun p hp ep=>?_;obtain ⟨yn,yk⟩:=p;by_cases hc:(yk == NameKind.free && env.scope.kind == .function && env.kindOf yn == some .cell)=true
   ·simp only [hc,if_true] at ep;cases ep
   ·simp only [hc,cg,bu] at ep;cases ep;exact hmore (y,.free) hp rfl
  ·exfalso;have:=(hcap ez.heap.objs.size).all (y,av) (mem_of_lookup e);rw [k] at this;rcases this.2.2.1 with q | q <;> cases q
  ·refine o0_4 ((hcap ez.heap.objs.size).all (y,av) (mem_of_lookup e)) fun e1 e2 _ e4=>?_;refine o2_5 (Rv.fr.cel y av e1 e4) fun c w e5 e6 r6=>?_;refine ⟨c,w,e2.trans e5,?_,inner r6⟩;refine o1_3 e6 fun o ho hd=>?_;clear e6;exact ⟨o,keep4 _ _ ho,hd⟩
  ·exact absurd k.2 (by simp [gW,compEnvC])
  ·exact .inr ((hcap ez.heap.objs.size).all (y,av) (mem_of_lookup e)).2.2.1
 have zc:∀ p ∈ C.Z,p.1≠ez.heap.objs.size+1:=fun p hp e=>by
  have h:=(eV.zb p hp).1;rw [e,c3] at h;cases h
 have gF:=gm.vc (D':=((ez.heap.objs.size+1)::wr)++fj ((d8.heap.objs.size,acc0)::d7.M)) (fun a h=>aa _ h) fun p hp q=>by
  rcases au.mp q with q | q
  ·rcases aG.mp q with q | q
   ·exact zc p hp q
   ·exact (eB.z p hp).2.2 (af _ q)
  ·exact (gm.z p hp).2.2 q
 have up:∀ v av,VR ez.heap (Xo C (wr++Y) env ⟨d7.μ,(d8.heap.objs.size,acc0)::d7.M⟩) v av->VR ((ez.heap.push k7).push jn) (Xo C (fa env++([ez.heap.objs.size+1]++(wr++Y))) (gW x scope env ez.heap.objs.size) ⟨μc,(d8.heap.objs.size,acc0)::d7.M⟩) v av:=fun v a r=>inner (Kv v a r);have hst4:St 0 ((ez.heap.push k7).push jn):=F.frame _ _ _ hst3 fun b _ o e=>aA _ (aA _ e);have lentW:∀ y c,q9 (gW x scope env ez.heap.objs.size) y->(gW x scope env ez.heap.objs.size).cells.lookup y=some c->c ∉ wr:=fun y c _ e q=>by
  rcases look y c e with e | e
  ·exact cw (e▸q)
  ·refine o0_2 (gz hok e) fun e1 k=>?_;rcases iO k with k | k
   ·exact (d9.hi c (af _ (fB k e1))).2.2.ne (hw c q) rfl
   ·exact d9.mU hw y c k e1 q
 have hfresh:∀ y c,y≠x->(gW x scope env ez.heap.objs.size).cells.lookup y=some c->c≠ez.heap.objs.size+1:=fun y c hy e q=>by
  have e':((x,ez.heap.objs.size+1)::closOf env scope.names []).lookup y=some c:=e;rw [bz,aY.mpr hy] at e';refine o0_2 (gz hok e') fun e1 k=>?_;rcases iO k with k | k
  ·exact (eV.hi c (af _ (fB k e1))).2.2.ne (q▸c3) rfl
  ·rcases eV.free y c k e1 with h | h
   ·exact (eV.hi c (aa _ (aa _ h))).2.2.ne (q▸c3) rfl
   ·exact (eV.bs.live h).ne (q▸c3) rfl
 have feetM:∀ b,b ∈ fj ((d8.heap.objs.size,acc0)::d7.M)->b=d8.heap.objs.size\/b ∈ fj d7.M:=fun b z=>by
  have e1:fj ((d8.heap.objs.size,acc0)::d7.M)=foot (d8.heap.objs.size,acc0)++fj d7.M:=rfl;rw [e1,hfoot] at z;exact aG.mp z
 have loop:codeAny (model C.prog C.w) A (.compLoop e 0 (.ref I) (.ref d8.heap.objs.size) (gW x scope env ez.heap.objs.size)) (compPost (model C.prog C.w) A No use Qc (.ref d8.heap.objs.size) ez.heap.objs.size) { ez with heap:=(ez.heap.push k7).push jn }:=by
  refine yp ok (cl _ _) (Inv d8.heap.objs.size ez.heap.objs.size) ha gF F (fun v av r=>up v av (up3 v av r)) (jj _ _) hst4 (fun b h=>aa _ (aa _ (af _ h))) (fun b h=>af _ (ai _ h)) lentW
   (c:=ez.heap.objs.size+1) (aa _ (af _ (aj ..))) (af _ (aj ..)) cw (fun h=>(fpLive _ h).ne c3 rfl) ⟨_,ec1,rfl⟩ (fun b hb=>⟨(hfp b hb).2.1,?_⟩) (sG _ _) (turn _ _ hfresh) fun s' S' s'' inv R' K' st=>?_
  ·by_cases hb':b ∈ wr
   ·exact .inl hb'
   ·refine .inr ⟨fun q=>?_,?_⟩
    ·rcases au.mp q with z | z
     ·rcases aG.mp z with z | z
      ·exact (fpLive b hb).ne (z▸c3) rfl
      ·exact hb' z
     ·rcases feetM b z with e | z
      ·exact (hfp b hb).2.2.ne (e▸D2) rfl
      ·exact (hfp b hb).1 (aa _ z)
    ·refine o1_2 (fpLive b hb) fun o e=>?_;exact ⟨o,aA _ (aA _ e)⟩
  ·have Rv':=Rv.vc (D':=((ez.heap.objs.size+1)::wr)++(fa env++fj ((d8.heap.objs.size,acc0)::d7.M))) (fun a h=>by
    rcases au.mp h with h | h
    ·exact af _ (aG.mpr (.inl (ao.mp h)))
    ·exact aa _ h) fun p hp q=>by
    rcases au.mp q with q | q
    ·rcases aG.mp q with q | q
     ·exact zc p hp q
     ·exact (eB.z p hp).2.2 (af _ q)
    ·exact (eV.zb p hp).2.2 q
   refine o0_3 (Rv'.vn (S:=⟨d7.μ,(d8.heap.objs.size,acc0)::d7.M⟩) (V:=(ez.heap.objs.size+1)::wr) (Z:=[ez.heap.objs.size]) ok R' (fun a h=>by
     rcases aG.mp h with h | h
     ·exact af _ (ao.mpr h)
     ·exact aa _ (af _ h)) (fun a h=>af _ h)
    (fun y c k e q=>d9.mU hdead y c k e q) (fun a h=>by rw [efa];exact ⟨h,(ao.mp h).symm▸Lv⟩)) fun Ro Ko Vo=>?_
   refine o1_3 R'.fr.loc fun m hm _=>?_;have nwY:∀ a ∈ [ez.heap.objs.size]++Y,a ∉ wr:=fun a ha q=>by
    rcases au.mp ha with h | h
    ·have e:a=ez.heap.objs.size:=ao.mp h;subst e;exact (wrLive _ q).ne L3 rfl
    ·exact (d9.hi a (aa _ (aa _ h))).2.2.ne (hw a q) rfl
   have Ro':=Ro.vc (D':=(ez.heap.objs.size::d8.heap.objs.size::(ez.heap.objs.size+1)::wr)++(fa env++fj d7.M)) (fun a h=>by
    rcases au.mp h with h | h
    ·exact af _ (ai _ (ai _ h))
    ·rcases au.mp h with h | h
     ·exact aa _ (af _ h)
     ·rcases feetM a h with h | h
      ·exact af _ (ai _ (aG.mpr (.inl h)))
      ·exact aa _ (aa _ h)) fun p hp q=>by
    have hzb:=(eV.zb p hp).1;rcases au.mp q with q | q
    ·rcases aG.mp q with q | q
     ·rw [q,L3] at hzb;cases hzb
     rcases aG.mp q with q | q
     ·have h2:=(eB.z p hp).1;rw [q,D2] at h2;cases h2
     rcases aG.mp q with q | q
     ·exact zc p hp q
     ·exact (eB.z p hp).2.2 (af _ q)
    ·exact (eB.z p hp).2.2 (aa _ q)
   refine o0_2 (Rel.rE (V:=wr) (Y':=[ez.heap.objs.size]++Y) ok Ro' st (fun a h=>by simp [h]) (fun a h=>by simp [h]) (fun y c k e q=>d9.mU hw y c k e q)
    (fun a h=>by
     simp only [au,aG] at h ⊢;rcases h with h | h
     ·exact .inl h
     ·exact .inr (.inr (.inr h))) nwY (fun x c k e=>(d9.free x c k e).imp (aa _) id) (fun p hp=>aa _ (d9.z p hp).2.1)) fun Rx Vx=>?_
   have hLT:ez.heap.objs.size ∉ C.T:=Rx.tn (aa _ (aa _ (by simp)))
   have hDT:d8.heap.objs.size ∉ C.T:=fun h=>(eB.bs.iG h).ne D2 rfl;have hmc:s''.heap.Ns ez.heap.objs.size m:=hm.at' fun o e=>st.heap.keep _ o e (fun q=>(wrLive _ q).ne L3 rfl) hLT;have hW':∀ b ∈ ez.heap.objs.size::d8.heap.objs.size::(ez.heap.objs.size+1)::wr,ee.heap.get? b=none:=fun b hb=>by
    rcases aG.mp hb with e | h
    ·subst e;exact lA.dead L3 hLT
    rcases aG.mp h with e | h
    ·subst e;exact gG.dead D2 hDT
    ·exact hdead b h
   exact exit inv (lA.gP xv) hW' (aj ..) Rx (fun v av r=>Vx _ _ (Ko _ _ (Kv _ _ (sub.vr (qd _ _ (eN _ _ r)))))) hmc
 exact (cl _ _).start _ _ _ _ loop (F.self _ _ _ hst4 loop)
theorem EV.lcompX {x:Str} {px:Pos} {elt iter:Expr} {ifs:List Expr} {scope:Scope} {pos:Pos} {l:List AV} {fc:List (Addr×AO)} {μc:List (Str×AV)} {f:AV->Option AV} {P:AV->St->Prop}
  (hok:j0 scope env=true) (hpc:∀ h,pushCells h scope.names=h.push jn) (hcF:∀ k acc,cellsFrom k scope.names acc=(x,k)::acc) (hkind:scope.kind = .function) (hnames:∀ y ∈ scope.names,y.2 = .local->scope.names.lookup y.1=some .local) (hmore:∀ y ∈ scope.names,y.2 = .free->(y.1 == ("__classdict__" : Str))=false)
  (hkx:∀ L,(gW x scope env L).kindOf x=some .cell) (hfr:∀ p ∈ μc,p.1≠x)
  (h:EV C n env S iter fun a d7=>f6 C n env d7 a l fc (.Name x px)/\(∀ p ∈ fc,p ∈ d7.M)/\(∀ L,Cap env (gW x scope env L) d7 μc)/\(∀ D acc L,∀ a ∈ l,CT C n (gW x scope env L) ⟨ins x a μc,(D,.list acc)::d7.M⟩ ifs fun b eG=>match f a with
    | none=>b=false/\Le ⟨ins x a μc,(D,.list acc)::d7.M⟩ eG
    | some y=>b=true/\EV C n (gW x scope env L) eG elt fun c fk=>c=y/\Le ⟨ins x a μc,(D,.list acc)::d7.M⟩ fk)/\P (.lst (l.filterMap f)) d7)
  (hz:l.length<=1000) (hs:∀ x,foldedSetIterable iter env x=pure x:=by intro _;rfl):EV C n env S (.ListComp elt [⟨.Name x px,iter,ifs,0⟩] scope pos) P:=by
 refine EV.frozen ?_;intro A Y dZ D s Q ha R q;rw [eval_ListComp ..];refine wpAny_comprehension_free (use:=none) rfl hs (jv hok) hkind hnames (h A Y dZ D s _ ha R fun v ee a d7 p d9 eE r=>?_);refine o0_5 p fun fe hM hcap hturn hP=>?_;clear p;have mk:=mkL (C:=C);refine o1_2 (⟨_,rfl⟩:∃ μi:Nat->List (Str×AV),μi=fun i=>match i with | 0=>μc | i+1=>ins x ((l[i]?).getD .none) μc) fun μi hμi=>?_
 refine fe A Y dZ D ee v _ ha d9 r fun I fp wr St d8 gG F hst hfp hw=>yj ok (x:=x) μc (fun D _ i S=>S=⟨μi i,(D,.list ((l.take i).filterMap f))::d7.M⟩) mk.new mk.acc mk.more mk.ob (fun D L=>qX) hok hpc hcF hkind hmore ha d9 gG F hst hfp hw hcap (fun D L=>by rw [hμi];rfl) (fun D L i S e p hp=>e▸ai _ (hM p hp))
  (fun D L hfresh i S a hx e=>?_) fun {L D' Wx s3 s' S' m} inv lA hW' hL Rx V hmc=>⟨m,hmc,fun h'' hs''=>?_⟩
 ·subst e;have takes:(l.take (i+1)).filterMap f=(l.take i).filterMap f++(match f a with | Option.none=>[] | Option.some y=>[y]):=by
   rw [bM,hx,List.filterMap_append];cases hfa:f a <;> simp [hfa]
  have e1:ins x a (μi i)=ins x a μc:=by
   rw [hμi];cases i with
   | zero=>rfl
   | succ i=>exact qJ
  have e2:μi (i+1)=ins x a μc:=by rw [hμi];show ins x ((l[i]?).getD .none) μc=_;rw [hx];rfl
  refine TGX.name ok (hkx L) rfl (by show ((x,L+1)::_).lookup x=_;simp) hfresh ?_ ?_
  ·cases i with
   | zero=>exact .inl rfl
   | succ i=>exact .inr ⟨_,by rw [hμi];exact jf⟩
  show CT C n (gW x scope env L) ⟨ins x a (μi i),(D,.list ((l.take i).filterMap f))::d7.M⟩ ifs _;rw [e1];refine G.mono (hturn D _ L a (aV hx)) fun b fk fF=>?_;cases hfa:f a with
  | none =>
    rw [hfa] at fF;refine o0_2 fF fun rf0 le=>?_;clear fF;subst rf0;rw [aq (by decide)]
    refine ⟨_,le,?_⟩;rw [takes,hfa,bf,e2]
  | some y =>
    rw [hfa] at fF;obtain ⟨rfl,fF⟩:=fF;rw [ay rfl];refine EM.append (G.mono fF fun c gU gY=>?_) ok;refine o0_2 gY fun rf0 le=>?_;clear gY;subst rf0;refine ⟨_,by rw [<- le.1];rfl,?_,⟨ins x a μc,(D,.list ((l.take (i+1)).filterMap f))::d7.M⟩,⟨?_,le.2⟩,by rw [e2]⟩
    ·have e2:((l.take i).filterMap f).length<=i:=bC (List.length_filterMap_le ..) (by simp [Nat.min_le_left])
     have e3:=(aM.mp hx).1;unfold sizeLine;lia
    ·rw [takes,hfa,<- le.1];rfl
 ·subst inv;have hCT:L ∉ C.T:=Rx.tn (aa _ (aa _ (by simp)))
  have st2:fC C.T [L] s' { s' with heap:=h'' }:=⟨.sameBut hs'' hCT,rfl,rfl,id⟩
  refine o0_2 (Rel.zY (V:=[L]) (W:=Wx) ok d9 lA hW' (fun b hb=>by rw [ao.mp hb];exact hL) Rx st2) fun Rz Vz=>?_
  refine q _ _ _ _ ⟨D',_,d7.M,rfl,rfl,?_⟩ Rz (fun v av r=>Vz _ _ (V _ _ (eE _ _ r))) (.raw _);rw [bP];exact hP
end
end Mine
namespace Mine
noncomputable def Bg (w:World):{fd:FuncData // ∃ c d s,(KA w.params).lookup 329=some ⟨c,d,.func fd,s⟩}:=⟨_,_,_,_,rfl⟩
noncomputable def CC (w:World):{b:List Stmt // (Bg w).1.body = .stmts b}:=⟨_,rfl⟩
noncomputable def jg (w:World) (L:Addr):Env:=callEnvC (Bg w).1 L 329
noncomputable def qG (w:World):List Stmt:=(CC w).1
theorem O.CM {C:Cx} (ok:C.Ok) {n:Nat} {env:Env} {S:St} {a b:Int} (hb:b≠0) (hs:b.natAbs.log2<9000):P2 C n env S (binaryOp .FloorDiv) (.int a) (.int b) (.int (a.fdiv b)):=.of ok fun _ _ _ _ _ _ _ _ r r' _ _ q=>by
 refine VR.ff r fun _=>?_;refine VR.ff r' fun _=>?_;exact floordiv_int hb (q _ _ (.toks ..) (.int ..)) (.inl (PyProof.noPylong_of_log2 hs))
theorem oj (i k:Nat):((i:Int)).fmod (k:Int)=((i % k:Nat):Int):=by
 rw [Int.fmod_eq_emod_of_nonneg _ (by lia)];rfl
theorem sO (i k:Nat):((i:Int)).fdiv (k:Int)=((i / k:Nat):Int):=by
 rw [Int.fdiv_eq_ediv_of_nonneg _ (by lia)];rfl
noncomputable def fgN (c0 c1:Int) (n:Nat):Nat:=(((if n<5 then c0 else c1).fdiv (40 ^ (n % 5))).fmod 40).toNat
theorem sN (c0 c1:Int) (n:Nat):((if n<5 then c0 else c1).fdiv (40 ^ (n % 5))).fmod 40=(fgN c0 c1 n:Int)/\fgN c0 c1 n<40:=by
 have h1:=Int.fmod_nonneg_of_pos ((if n<5 then c0 else c1).fdiv (40 ^ (n % 5))) (b:=40) (by decide)
 have h2:=Int.fmod_lt_of_pos ((if n<5 then c0 else c1).fdiv (40 ^ (n % 5))) (b:=40) (by decide)
 unfold fgN;exact ⟨by lia,by lia⟩
theorem Cp:∀ n:Nat,n<5->((40:Int) ^ n).natAbs.log2<9000/\(40:Int) ^ n≠0:=by decide
noncomputable def prs:List (Nat×Nat):=[(0,1),(0,2),(0,3),(0,4),(1,2),(1,3),(1,4),(2,3),(2,4),(3,4)]
noncomputable def prA (n:Nat):Nat:=(prs.getD n (0,0)).1
noncomputable def prB (n:Nat):Nat:=(prs.getD n (0,0)).2
noncomputable def pk (n:Nat):Str:=lets [prA n,prB n]
noncomputable def kp (n:Nat):Str:=lets [prB n,prA n]
noncomputable def prI (x y:Nat):Nat:=if x<y then prs.idxOf (x,y) else prs.idxOf (y,x)
noncomputable def prV:List AV:=(List.range 10).map fun n=>.str (pk n)
theorem AY {n:Nat} (h:n<10):prV[n]? = some (.str (pk n)):=by unfold prV;rw [aQ,cR h];rfl
theorem zA:∀ n,n<10->prA n<5/\prB n<5/\prA n<prB n:=by decide
noncomputable def wU:List AV:=[.raw (.ref 269),.raw (.ref 276),.raw (.ref 283),.raw (.ref 290),.raw (.ref 297)]
noncomputable def uw:List AV:=CX.map .str
theorem zP {j:Nat} (h:j<5):wU[j]? = some (.raw (.ref (x7 j))):=by
 have:j=0\/j=1\/j=2\/j=3\/j=4:=by lia
 rcases this with rfl | rfl | rfl | rfl | rfl <;> rfl
theorem ze {j:Nat} (h:j<8):uw[j]? = some (.str (jH j))/\(jH j).length<=2:=by
 have:j=0\/j=1\/j=2\/j=3\/j=4\/j=5\/j=6\/j=7:=by lia
 rcases this with rfl | rfl | rfl | rfl | rfl | rfl | rfl | rfl <;> exact ⟨rfl,by decide⟩
noncomputable def uA (φ:Nat->Nat) (n:Nat):Str:=ja (φ n / 5) (φ n % 5)
noncomputable def prD (f:Nat->AV) (k:Nat):List (Str×AV):=(List.range k).flatMap fun n=>[(pk n,f n),(kp n,f n)]
theorem rS (f:Nat->AV) (k:Nat):prD f (k+1)=prD f k++[(pk k,f k),(kp k,f k)]:=by unfold prD;rw [dz,c8];simp
theorem kE {K:Type} [DecidableEq K] {l:List (K×AV)} {x:K} {v:AV} (h:x ∉ l.map (·.1)):iZ l x v=l++[(x,v)]:=by
 unfold iZ;rw [aq];intro q;refine o1_3 (cO.mp q) fun p hp e=>?_;exact h (aE.mpr ⟨p,hp,cG e⟩)
theorem rU (f:Nat->AV) (k:Nat):(prD f k).map (·.1)=(List.range k).flatMap fun n=>[pk n,kp n]:=by
 unfold prD;rw [List.map_flatMap];rfl
theorem qC (f:Nat->AV):∀ k,(prD f k).length=2 * k
 | 0=>rfl
 | k+1=>by rw [rS,bl,qC f k];simp;lia
theorem tN:∀ k,k<10->pk k ∉ (List.range k).flatMap (fun n=>[pk n,kp n])/\kp k ∉ ((List.range k).flatMap (fun n=>[pk n,kp n]))++[pk k]:=by decide +kernel
theorem rT (f:Nat->AV) {k:Nat} (h:k<10):iZ (prD f k) (pk k) (f k)=prD f k++[(pk k,f k)]/\iZ (prD f k++[(pk k,f k)]) (kp k) (f k)=prD f (k+1):=by
 refine o0_2 (tN k h) fun h1 h2=>?_;refine ⟨kE (by rw [rU];exact h1),?_⟩
 rw [kE (by rw [bq,rU];exact h2),rS,aH];rfl
theorem o8:∀ x,x<5->∀ y,y<5->x≠y->prI x y<10/\(ltr x++ltr y=pk (prI x y)\/ltr x++ltr y=kp (prI x y)):=by decide +kernel
theorem uS:∀ x,x<5->∀ y,y<5->∀ n,n<10->ltr x++ltr y=pk n->n=prI x y:=by decide +kernel
theorem uR:∀ x,x<5->∀ y,y<5->∀ n,n<10->ltr x++ltr y=kp n->n=prI x y:=by decide +kernel
theorem nW (f:Nat->AV) {x y:Nat} (hx:x<5) (hy:y<5) (hxy:x≠y):ie (prD f 10) (ltr x++ltr y)=some (f (prI x y)):=by
 refine o0_2 (o8 x hx y hy hxy) fun h1 h2=>?_;have hm:∃ p ∈ prD f 10,p.1=ltr x++ltr y:=by
  rcases h2 with e | e
  ·exact ⟨(pk (prI x y),f (prI x y)),bK.mpr ⟨_,aL.mpr h1,by simp⟩,e.symm⟩
  ·exact ⟨(kp (prI x y),f (prI x y)),bK.mpr ⟨_,aL.mpr h1,by simp⟩,e.symm⟩
 unfold ie;cases hf:(prD f 10).find? fun kv=>kv.1=ltr x++ltr y with
 | none =>
   refine o1_3 hm fun p hp e=>?_;clear hm;have:=List.find?_eq_none.mp hf p hp;simp [e] at this
 | some p =>
   have h4:=List.mem_of_find?_eq_some hf;have h5:p.1=ltr x++ltr y:=by simpa using List.find?_some hf
   refine o1_3 (bK.mp h4) fun n hn h6=>?_;have hn:=aL.mp hn;simp only [aG,List.not_mem_nil,or_false] at h6;rcases h6 with rfl | rfl
   ·rw [uS x hx y hy n hn h5.symm];rfl
   ·rw [uR x hx y hy n hn h5.symm];rfl
theorem yG (f:Nat->AV):∀ {n:Nat},n<10->ie (prD f 10) (pk n)=some (f n):=fun {n} h=>by
 refine o0_3 (zA n h) fun h1 h2 h3=>?_;have e:pk n=ltr (prA n)++ltr (prB n):=by
  have:∀ n,n<10->pk n=ltr (prA n)++ltr (prB n):=by decide +kernel
  exact this n h
 have e2:prI (prA n) (prB n)=n:=by
  have:∀ n,n<10->prI (prA n) (prB n)=n:=by decide +kernel
  exact this n h
 rw [e,nW f h1 h2 (by lia),e2]
theorem AP:∀ n,n<10->(⟨((slicePicked (pk n) none none (some (-1,0))).filterMap ((pk n).cps[·]?)).toArray⟩:Str)=kp n:=by decide +kernel
section
variable {C:Cx} (ok:C.Ok) {n:Nat} {env:Env} {S:St}
include ok
theorem PE.C7 {o st:Expr} {x y:Str} {ps pos:Pos} (ho:PE C n env S o (.str x)) (hst:PE C n env S st (.int (-1))) (hz:x.length<=sizeLine) (hy:(⟨((slicePicked x none none (some (-1,0))).filterMap (x.cps[·]?)).toArray⟩:Str)=y) (hyz:y.length<=sizeLine)
  (hs:∀ o' i',subscripted (.Slice none none (some st) ps) false o' i'=operate [o',i'] (getItem o' i'):=by intros;rfl) :
  PE C n env S (.Subscript o (.Slice none none (some st) ps) pos) (.str y):=fun A Y dZ D s Q hA R q=>Subscript_ (ho A Y dZ D s _ hA R fun v ee BQ d7 jx d9 eE fy=>by
 refine o0_2 jx fun rf0 rf1=>?_;clear jx;subst rf0;subst rf1;refine VR.fO fy fun t=>?_;refine dU ?_;rw [c7];refine ak (ak ?_);rw [dD];refine hst A Y dZ D ee _ hA d9 fun v2 d8 BP eG fh eB eN fz=>?_;refine o0_2 fh fun rf0 rf1=>?_;clear fh;subst rf0;subst rf1;refine VR.ff fz fun u=>?_;refine tail_any (dG _ x t) PySem.F.slot_str_getitem.lookup (wpAny_getItem_str_slice (l:=none) (u:=none) (st:=some (-1,u)) ⟨_,aI _ rfl,rfl,rfl⟩ rfl ?_) (hs _ _);have e:(⟨((slicePicked x none none (some (-1,u))).filterMap (x.cps[·]?)).toArray⟩:Str)=y:=hy;unfold sliceMade;rw [aq (fun h=>absurd (show ((-1:Int) == 1)=true from (b8 _ _▸h).1) (by decide)),e]
 exact ⟨hyz,q _ _ _ eG ⟨rfl,rfl⟩ ((eB.go ok (.alloc ..)).go ok (.toks ..)) ((eE.trans eN).trans (Kp.go eB ((fC.alloc ..).gP (.toks ..)))) (.str ..)⟩)
end
end Mine
namespace Mine
noncomputable abbrev n7 (sv:AV) (a aTi aW:Addr):List (Str×AV):=[("script", sv),("cells", .raw (.ref a)),("hands", .tup wU),("texts", .tup uw),("pairs", .tup prV),("ties", .raw (.ref aTi)),("worth", .raw (.ref aW))]
section
variable {w:World} {mg mb:Str->Option Value} {Z:Frag} (g:GA w mg mb)
include g
theorem CB {n:Nat} {L:Addr} {xs:List Int} {M0:List (Addr×AO)} {P:AF->St->Prop} (k:∀ a c0 c1,EX (CA w mg mb Z) n (jg w L) ⟨[("script", .lst (xs.map .int)),("cells", .raw (.ref a))],(a,.list [.int c0,.int c1])::M0⟩ ((qG w).drop 2) P) :
  EX (CA w mg mb Z) n (jg w L) ⟨[("script", .lst (xs.map .int))],M0⟩ (qG w) P:=by
 have ok:=okA (Z:=Z) g;refine EX.cons ?_;refine E1.loc ok ?_;refine EV.qE ok (PL.then (PL.cons (PE.int ok) (PL.cons (PE.int ok) PL.nil)) ⟨by decide,fun a=>?_⟩)
 refine G.jb (M':=(a,.list [.int 66928680,.int 66307744])::M0) (e7.last (e7.refl _)) ?_;refine EX.cons ?_;refine uf ok (l:=xs.map .int) (fun i S=>∃ c0 c1:Int,S=⟨[("script", .lst (xs.map .int)),("cells", .raw (.ref a))],(a,.list [.int c0,.int c1])::M0⟩) (.inl rfl) (.inl rfl) (PE.gB rfl (g.non _ rfl) ((g.mb _ (by decide)).trans rfl)) ?_ ?_ ?_
 ·exact (PE.name rfl).then ⟨rfl,66928680,66307744,rfl⟩
 ·intro i d7 b hb hz;refine o2_3 hz fun c0 c1 rf2=>?_;clear hz;subst rf2;rw [aQ] at hb;refine o1_3 (aS.mp hb) fun x hx rf2=>?_;subst rf2;refine EX.cons ?_;have e2:((i:Int)).fmod 2=((i % 2:Nat):Int):=oj i 2;have i2:i % 2=0\/i % 2=1:=by lia
  rcases i2 with e | e
  ·refine wR ok (i:=0) (a:=a) (l:=[.int c0,.int c1]) (k:=((0:Nat):Int)) (old:=.int c0) (x:=.int x) (new:=.int (c0+x)) (PE.name rfl) (PE.cast (PE.bin (PE.name rfl) (PE.int ok) (O.fmod ok (by decide))) (congrArg AV.int (e2.trans (by rw [e])))) rfl (by decide) rfl (by decide) (PE.name rfl) (O.iadd ok) ?_
   exact EX.nil ⟨_,Le.pre (ν:=[("k", .int i),("x", .int x)]),c0+x,c1,rfl⟩
  ·refine wR ok (i:=0) (a:=a) (l:=[.int c0,.int c1]) (k:=((1:Nat):Int)) (old:=.int c1) (x:=.int x) (new:=.int (c1+x)) (PE.name rfl) (PE.cast (PE.bin (PE.name rfl) (PE.int ok) (O.fmod ok (by decide))) (congrArg AV.int (e2.trans (by rw [e])))) rfl (by decide) rfl (by decide) (PE.name rfl) (O.iadd ok) ?_
   exact EX.nil ⟨_,Le.pre (ν:=[("k", .int i),("x", .int x)]),c0,c1+x,rfl⟩
 ·intro d7 hz;refine o2_3 hz fun c0 c1 rf2=>?_;clear hz;subst rf2;exact k a c0 c1
theorem Cz {n:Nat} {L:Addr} {sv:AV} {a:Addr} {M0:List (Addr×AO)} {P:AF->St->Prop} (k:∀ aTi aW,EX (CA w mg mb Z) n (jg w L) ⟨n7 sv a aTi aW,(aTi,.eY [])::(aW,.eY [])::M0⟩ ((qG w).drop 7) P) :
  EX (CA w mg mb Z) n (jg w L) ⟨[("script", sv),("cells", .raw (.ref a))],M0⟩ ((qG w).drop 2) P:=by
 have ok:=okA (Z:=Z) g;refine EX.cons ?_;refine E1.loc ok ?_;refine PE.then (PE.tuple ok (PL.cons (PE.glob rfl (g.glo _ _ rfl)) (PL.cons (PE.glob rfl (g.glo _ _ rfl)) (PL.cons (PE.glob rfl (g.glo _ _ rfl)) (PL.cons (PE.glob rfl (g.glo _ _ rfl)) (PL.cons (PE.glob rfl (g.glo _ _ rfl)) PL.nil))))) (by simp only [bg,bO];decide)) ?_
 refine EX.cons ?_;refine E1.loc ok ?_;refine PE.then (PE.tuple ok (PL.cons (PE.str ok) (PL.cons (PE.str ok) (PL.cons (PE.str ok) (PL.cons (PE.str ok) (PL.cons (PE.str ok) (PL.cons (PE.str ok) (PL.cons (PE.str ok) (PL.cons (PE.str ok) PL.nil)))))))) (by simp only [bg,bO];decide)) ?_
 refine EX.cons ?_;refine E1.loc ok ?_;refine PE.then (PE.tuple ok (PL.cons (PE.str ok) (PL.cons (PE.str ok) (PL.cons (PE.str ok) (PL.cons (PE.str ok) (PL.cons (PE.str ok) (PL.cons (PE.str ok) (PL.cons (PE.str ok) (PL.cons (PE.str ok) (PL.cons (PE.str ok) (PL.cons (PE.str ok) PL.nil)))))))))) (by simp only [bg,bO];decide)) ?_
 refine EX.cons ?_;refine E1.cell ok ?_;refine EV.yg ok (sK _) fun aTi=>?_;refine EX.cons ?_;refine E1.cell ok ?_;refine EV.yg ok (sK _) fun aW=>?_;refine G.jb (M':=(aTi,.eY [])::(aW,.eY [])::M0) (e7.last (e7.last (M:=(aW,.eY [])::M0) (p:=(aTi,.eY [])) (e7.refl _))) ?_;exact k aTi aW
theorem Cy {n:Nat} {L:Addr} {sv:AV} {a aTi aW:Addr} {c0 c1:Int} {M0:List (Addr×AO)} {P:AF->St->Prop}
  (k:EX (CA w mg mb Z) (n+2) (jg w L) ⟨n7 sv a aTi aW,(aTi,.eY (prD (fun n=>.str (uA (fgN c0 c1) n)) 10))::(aW,.eY (prD (fun n=>.int ((uA (fgN c0 c1) n).length:Nat)) 10))::(a,.list [.int c0,.int c1])::M0⟩ ((qG w).drop 8) P) :
  EX (CA w mg mb Z) (n+2) (jg w L) ⟨n7 sv a aTi aW,(aTi,.eY [])::(aW,.eY [])::(a,.list [.int c0,.int c1])::M0⟩ ((qG w).drop 7) P:=by
 have ok:=okA (Z:=Z) g;have sl:sizeLine=16777216:=by decide
 generalize hT:(fun n=>AV.str (uA (fgN c0 c1) n))=fT at k;generalize hW:(fun n=>AV.int ((uA (fgN c0 c1) n).length:Nat))=fW at k;refine EX.cons ?_;refine kG ok (l:=upto 0 10) (fun i S=>S=⟨n7 sv a aTi aW,(aTi,.eY (prD fT i))::(aW,.eY (prD fW i))::(a,.list [.int c0,.int c1])::M0⟩) (.name _ _) (PE.then (PE.jo (PE.gB rfl (g.non _ rfl) ((g.mb _ (by decide)).trans rfl)) (PE.int ok) (O.rN ok)) ⟨Iter.rng ok rfl,rfl⟩) ?_ ?_
 ·rintro i d7 b T hT2 hb rfl;refine o0_2 (by
   unfold upto at hb;rw [aQ] at hb;refine o1_3 (aS.mp hb) fun j hj rf2=>?_;subst rf2;refine o1_2 (aM.mp hj) fun h1 h2=>?_;simp at h1 h2;subst h2;exact ⟨congrArg AV.int (by simp),by lia⟩:b = .int (i:Nat)/\i<10) fun hbv hi=>?_
  subst hbv;refine o0_2 (sN c0 c1 i) fun e1 e2=>?_;refine o0_2 (Cp (i % 5) (by lia)) fun l1 l2=>?_
  generalize hφ:fgN c0 c1 i=φ at *;have h5:φ % 5<5:=by lia
  have h8:φ / 5<8:=by lia
  refine o0_2 (ze h8) fun t1 t2=>?_;refine o0_2 (rI (φ / 5) h8 (φ % 5) h5) fun s1 s2=>?_;have hfT:fT i = .str (ja (φ / 5) (φ % 5)):=by rw [<- hT,<- hφ];rfl
  have hfW:fW i = .int ((ja (φ / 5) (φ % 5)).length:Nat):=by rw [<- hW,<- hφ];rfl
  have ep:((i % 5:Nat):Int).toNat=i % 5:=bL _;refine TG.loc ok ?_;refine EX.cons ?_;refine E1.loc ok ?_;refine PE.then (PE.cast (PE.bin (PE.bin (PE.sub (PE.name rfl) (PE.cast (PE.bin (PE.name rfl) (PE.int ok) (O.fdiv ok (by decide) (by decide))) (congrArg AV.int (sO i 5))) (O.ju ok (k:=((i / 5:Nat):Int)) (c:=.int (if i<5 then c0 else c1)) (ai _ (ai _ (aj ..))) (by lia) ?_ (by lia))) (PE.bin (PE.int ok) (PE.cast (PE.bin (PE.name rfl) (PE.int ok) (O.fmod ok (by decide))) (congrArg AV.int (oj i 5))) (O.pow ok (by lia) (by lia) (by decide))) (O.CM ok ?_ ?_)) (PE.int ok) (O.fmod ok (by decide))) (show _=AV.int (φ:Nat) from congrArg AV.int (by rw [ep];exact e1))) ?_
  ·rw [bL];by_cases h:i<5
   ·rw [ay h,show i / 5=0 by lia];rfl
   ·rw [aq h,show i / 5=1 by lia];rfl
  ·rw [ep];exact l2
  ·rw [ep];exact l1
  have six:∀ {j m:Nat},j<m->seqIndex? (j:Int) m=some j:=fun {j m} h=>by rw [seqIndex_of (by lia) (by lia)];simp
  have etx:∀ {S:St} {p1 p2 p3 p4 p5:Pos} {kk:Nat},S.μ.lookup ("texts" : Str)=some (AV.tup uw)->S.μ.lookup ("figure" : Str)=some (AV.int (φ:Nat))->PE (CA w mg mb Z) (n+2) (jg w L) S (.Subscript (.Name "texts" p1) (.BinOp (.Name "figure" p2) .FloorDiv (.Constant (.int 5) kk p3) p4) p5) (.str (jH (φ / 5))):=by
   intro S p1 p2 p3 p4 p5 kk h1 h2;exact PE.sub (PE.name h1) (PE.cast (PE.bin (PE.name h2) (PE.int ok) (O.fdiv ok (by decide) (by decide))) (congrArg AV.int (sO φ 5))) (O.nS ok (j:=φ / 5) (six (by exact h8)) t1 (by lia) (by lia))
  have efg:∀ {S:St} {p2 p3 p4:Pos} {kk:Nat},S.μ.lookup ("figure" : Str)=some (AV.int (φ:Nat))->PE (CA w mg mb Z) (n+2) (jg w L) S (.BinOp (.Name "figure" p2) .Mod (.Constant (.int 5) kk p3) p4) (.int (φ % 5:Nat)):=by
   intro S p2 p3 p4 kk h2;exact PE.cast (PE.bin (PE.name h2) (PE.int ok) (O.fmod ok (by decide))) (congrArg AV.int (oj φ 5))
  refine EX.cons ?_;refine E1.loc ok ?_;refine PE.then (PE.CK g (n:=n+1) (way:=φ % 5) (x:=jH (φ / 5)) h5 (by lia) (PE.sub (PE.name rfl) (efg rfl) (O.nS ok (j:=φ % 5) (six (by exact h5)) (zP h5) (by lia) (by lia))) (etx rfl rfl)) ?_
  refine EX.cons ?_;refine E1.ite (ET.cmp ((PE.name rfl).then ?_))
  refine EV.j3 (PE.glob rfl (g.glo _ _ rfl)) (show (CA w mg mb Z).K.lookup 302=some _ from rfl) rfl (PL.then (PL.cons (etx rfl rfl) (PL.cons (efg rfl) PL.nil)) (((tB g (n:=n+1) h8 h5).fn _ _).mono fun av S' e=>?_))
  obtain ⟨μ1,M1⟩:=S';refine o0_3 e fun e3 rf1 zz=>?_;refine o1_2 zz fun pp e4=>?_;clear e;subst rf1;obtain rfl:μ1=_:=e3;obtain rfl:M1=_:=e4;refine (O.nes ok).mono (eq2 ?_);refine G1.mono T1.bool (eq2 ?_);rw [show ((esc (φ % 5) (jH (φ / 5))) != ja (φ / 5) (φ % 5))=false from bne_self_eq_false ..];rw [aq (by decide)]
  refine G.jb (M':=(aTi,.eY (prD fT i))::(aW,.eY (prD fW i))::(a,.list [.int c0,.int c1])::M0) (e7.last (e7.drop (e7.refl _))) ?_;refine EX.nil ?_;refine o0_2 (rT fT hi) fun d1 d2=>?_;refine o0_2 (rT fW hi) fun w1 w2=>?_;have hpl:(pk i).length=2/\(kp i).length=2:=⟨rfl,rfl⟩;refine EX.cons ?_;refine ig ok (l:=[.str (pk i),.str (kp i)]) (fc:=[]) (fun j S=>S=⟨n7 sv a aTi aW++([("n", .int (i:Nat)),("figure", .int (φ:Nat)),("tie", .str (ja (φ / 5) (φ % 5)))]:List (Str×AV)),
   (aTi,.eY (if j=0 then prD fT i else if j=1 then prD fT i++[(pk i,fT i)] else prD fT (i+1)))::(aW,.eY (if j=0 then prD fW i else if j=1 then prD fW i++[(pk i,fW i)] else prD fW (i+1)))::(a,.list [.int c0,.int c1])::M0⟩) ?_ (fun _ _ _ _ h=>nomatch h) ?_ ?_
  ·have ep:∀ {S:St} {p1 p2 p3:Pos},S.μ.lookup ("pairs" : Str)=some (AV.tup prV)->S.μ.lookup ("n" : Str)=some (AV.int (i:Nat))->PE (CA w mg mb Z) (n+2) (jg w L) S (.Subscript (.Name "pairs" p1) (.Name "n" p2) p3) (.str (pk i)):=by
    intro S p1 p2 p3 h1 h2;exact PE.sub (PE.name h1) (PE.name h2) (O.nS ok (j:=i) (six (by exact hi)) (AY hi) (by lia) (by lia))
   refine PE.then (PE.tuple ok (PL.cons (ep rfl rfl) (PL.cons (PE.C7 ok (ep rfl rfl) (PE.neg ok (PE.int ok)) (by rw [hpl.1];decide) (AP i hi) (by rw [hpl.2];decide)) PL.nil)) (by simp only [bg,bO];decide)) ⟨f6.of (.name _ _) (Iter.tup ok),?_⟩
   rw [ay rfl,ay rfl]
   rfl
  ·rintro j eG x T3 hT3 hx rfl;have hj2:j=0/\x = .str (pk i)\/j=1/\x = .str (kp i):=two_at hx;have hz1:=qC fT i;have hz2:=qC fW i;rcases hj2 with ⟨rfl,rfl⟩ | ⟨rfl,rfl⟩
   ·refine TG.loc ok ?_;refine EX.cons ?_;refine jt ok (sK _) (PE.then (PE.name rfl) ⟨0,aTi,prD fT i,pk i,rfl,by lia,PE.name rfl,PE.name rfl,?_⟩)
    refine EX.cons ?_;refine jt ok (sK _) (PE.then (PE.i6 (PE.gB rfl (g.non _ rfl) ((g.mb _ (by decide)).trans rfl)) (PL.cons (PE.name rfl) PL.nil) (O.len_str ok (by rw [sl];lia))) ⟨1,aW,prD fW i,pk i,rfl,by lia,PE.name rfl,PE.name rfl,?_⟩)
    refine EX.nil (hT3 .next _ ⟨_,Le.pre (μ:=n7 sv a aTi aW++([("n", .int (i:Nat)),("figure", .int (φ:Nat)),("tie", .str (ja (φ / 5) (φ % 5)))]:List (Str×AV))) (ν:=[("pair", .str (pk i))]),?_⟩)
    refine congrArg (St.mk _) ?_;show (aTi,AO.eY (iZ (prD fT i) (pk i) (.str (ja (φ / 5) (φ % 5)))))::(aW,AO.eY (iZ (prD fW i) (pk i) (.int ((ja (φ / 5) (φ % 5)).length:Nat))))::(a,AO.list [.int c0,.int c1])::M0=_;rw [<- hfT,<- hfW,d1,w1]
    rfl
   ·refine TG.loc ok ?_;refine EX.cons ?_;refine jt ok (sK _) (PE.then (PE.name rfl) ⟨0,aTi,prD fT i++[(pk i,fT i)],kp i,rfl,by rw [bl];simp;lia,PE.name rfl,PE.name rfl,?_⟩)
    refine EX.cons ?_;refine jt ok (sK _) (PE.then (PE.i6 (PE.gB rfl (g.non _ rfl) ((g.mb _ (by decide)).trans rfl)) (PL.cons (PE.name rfl) PL.nil) (O.len_str ok (by rw [sl];lia))) ⟨1,aW,prD fW i++[(pk i,fW i)],kp i,rfl,by rw [bl];simp;lia,PE.name rfl,PE.name rfl,?_⟩)
    refine EX.nil (hT3 .next _ ⟨_,Le.pre (μ:=n7 sv a aTi aW++([("n", .int (i:Nat)),("figure", .int (φ:Nat)),("tie", .str (ja (φ / 5) (φ % 5)))]:List (Str×AV))) (ν:=[("pair", .str (kp i))]),?_⟩)
    refine congrArg (St.mk _) ?_;show (aTi,AO.eY (iZ (prD fT i++[(pk i,fT i)]) (kp i) (.str (ja (φ / 5) (φ % 5)))))::(aW,AO.eY (iZ (prD fW i++[(pk i,fW i)]) (kp i) (.int ((ja (φ / 5) (φ % 5)).length:Nat))))::(a,AO.list [.int c0,.int c1])::M0=_;rw [<- hfT,<- hfW,d2,w2]
    rfl
  ·rintro eG rfl;refine EX.nil (hT2 .next _ ⟨_,Le.pre (μ:=n7 sv a aTi aW) (ν:=[("n", .int (i:Nat)),("figure", .int (φ:Nat)),("tie", .str (ja (φ / 5) (φ % 5)))]),?_⟩)
   rfl
 ·rintro d7 rfl;exact k
end
end Mine
namespace Mine
noncomputable def mkN (n:Nat):Nat:=maskOf [prA n,prB n]
theorem xR:∀ n,n<10->mkN n<32:=by decide
noncomputable def pkI:AV->Nat
 | .str x=>prs.idxOf (x.cps.getD 0 0 - 97,x.cps.getD 1 0 - 97)
 | _=>0
theorem kM:∀ n,n<10->pkI (.str (pk n))=n:=by decide +kernel
noncomputable def wh (a:AV):Str×AV:=(pk (pkI a),.int (mkN (pkI a):Nat))
noncomputable def oB:List (Str×AV):=(List.range 10).map fun n=>(pk n,.int (mkN n:Nat))
theorem oE {n:Nat} (h:n<10):wh (.str (pk n))=(pk n,.int (mkN n:Nat)):=by unfold wh;rw [kM n h]
theorem qB {x:AV} (h:x ∈ prV):∃ n,n<10/\x = .str (pk n):=by
 refine o1_3 (aE.mp h) fun n hn rf2=>?_;subst rf2;exact ⟨n,aL.mp hn,rfl⟩
theorem yu:dfold wh prV=oB:=by
 rw [mz]
 ·unfold prV oB;rw [br];exact bh fun n hn=>oE (aL.mp hn)
 ·have:(prV.map fun x=>(wh x).1)=(List.range 10).map pk:=by
   unfold prV;rw [br];exact bh fun n hn=>by rw [Function.comp,oE (aL.mp hn)]
  rw [this];decide +kernel
theorem jq {n:Nat} (h:n<10):ie oB (pk n)=some (.int (mkN n:Nat)):=by
 have:n=0\/n=1\/n=2\/n=3\/n=4\/n=5\/n=6\/n=7\/n=8\/n=9:=by lia
 rcases this with rfl | rfl | rfl | rfl | rfl | rfl | rfl | rfl | rfl | rfl <;> rfl
noncomputable def fS (s m:Nat):Bool:=!(0 == (s &&& m) || m == (s &&& m))
theorem w7:∀ s,s<32->∀ m,m<32->(!((0:Int) == Builtin.bitAnd (s:Nat) (m:Nat) || ((m:Nat):Int) == Builtin.bitAnd (s:Nat) (m:Nat)))=fS s m:=by decide +kernel
noncomputable def yi (wN:Nat->Nat) (s:Nat) (a:AV):Option AV:=if fS s (mkN (pkI a))=true then some (.int (wN (pkI a):Nat)) else none
noncomputable def nF (wN:Nat->Nat) (s:Nat):Nat:=(((List.range 10).filter fun n=>fS s (mkN n)).map wN).sum
theorem v8 (wN:Nat->Nat) (s:Nat):prV.filterMap (yi wN s)=((((List.range 10).filter fun n=>fS s (mkN n)).map fun n=>((wN n:Nat):Int))).map AV.int:=by
 have:∀ l:List Nat,(∀ n ∈ l,n<10)->(l.map fun n=>AV.str (pk n)).filterMap (yi wN s)=((l.filter fun n=>fS s (mkN n)).map fun n=>((wN n:Nat):Int)).map AV.int:=by
  intro l;induction l with
  | nil=>intro _;rfl
  | cons n l ih =>
    intro h;have hn:=h n (aj ..);have ih:=ih fun m hm=>h m (ai _ hm);rw [aU];by_cases q:fS s (mkN n)=true
    ·rw [cj (b:=.int (wN n:Nat)) (by unfold yi;rw [kM n hn,ay q]),ih,bW (p:=fun n=>fS s (mkN n)) q];rfl
    ·rw [dM (by unfold yi;rw [kM n hn,aq q]),ih,bX (p:=fun n=>fS s (mkN n)) q]
 exact this _ fun n hn=>aL.mp hn
theorem Aa (wN:Nat->Nat) (s:Nat):(((List.range 10).filter fun n=>fS s (mkN n)).map fun n=>((wN n:Nat):Int)).sum=(nF wN s:Nat):=by
 unfold nF;generalize (List.range 10).filter (fun n=>fS s (mkN n))=l;induction l with
 | nil=>rfl
 | cons a l ih=>simp only [aU,bD,cJ,ih]
noncomputable def sdN (j:Nat):Nat:=1+2 * j
noncomputable def i0 (wN:Nat->Nat) (k:Nat):List (Int×AV):=(List.range k).map fun j=>((sdN j:Nat),.int (nF wN (sdN j):Nat))
theorem tW (wN:Nat->Nat) (k:Nat):iZ (i0 wN k) ((sdN k:Nat):Int) (.int (nF wN (sdN k):Nat))=i0 wN (k+1):=by
 rw [kE]
 ·unfold i0;rw [dz,bq];rfl
 ·intro q;refine o1_3 (aE.mp q) fun p hp e=>?_;refine o1_3 (aE.mp hp) fun j hj rf2=>?_;subst rf2;have:=aL.mp hj;unfold sdN at e;have e:((1+2 * j:Nat):Int)=((1+2 * k:Nat):Int):=e;lia
theorem v7 {wN:Nat->Nat} {j:Nat} (h:j<15):ie (i0 wN 15) ((sdN j:Nat):Int)=some (.int (nF wN (sdN j):Nat)):=by
 unfold ie i0;have:∀ l:List Nat,j ∈ l->((l.map fun j=>(((sdN j:Nat):Int),AV.int (nF wN (sdN j):Nat))).find? fun kv=>kv.1=((sdN j:Nat):Int)).map (·.2)=some (.int (nF wN (sdN j):Nat)):=by
  intro l;induction l with
  | nil=>intro h;simp at h
  | cons a l ih =>
    intro h;rw [aU,bN];by_cases e:a=j
    ·subst e;simp
    ·have:decide ((((sdN a:Nat):Int),AV.int (nF wN (sdN a):Nat)).1=((sdN j:Nat):Int))=false:=by
      rw [dO];unfold sdN;dsimp only;lia
     rw [this];exact ih ((aG.mp h).resolve_left fun q=>e q.symm)
 exact this _ (aL.mpr h)
noncomputable abbrev pJ (sv:AV) (a aTi aW aB:Addr) (oQ:Obj):List (Str×AV):=[("script", sv),("cells", .raw (.ref a)),("hands", .tup wU),("texts", .tup uw),("pairs", .tup prV),("ties", .raw (.ref aTi)),("worth", .raw (.ref aW)),("both", .raw (.ref aB)),("cuts", .ob oQ [])]
noncomputable abbrev sd (sv:AV) (a aTi aW aB aC:Addr):List (Str×AV):=[("script", sv),("cells", .raw (.ref a)),("hands", .tup wU),("texts", .tup uw),("pairs", .tup prV),("ties", .raw (.ref aTi)),("worth", .raw (.ref aW)),("both", .raw (.ref aB)),("cuts", .raw (.ref aC))]
section
variable {w:World} {mg mb:Str->Option Value} {Z:Frag} (g:GA w mg mb)
include g
theorem PE.mask {n:Nat} {env:Env} {S:St} {e:Expr} {p pos:Pos} {l:List Nat} {a:AV} (ha:a = .str (lets l)\/a = .lst (l.map ltV)) (hl:∀ j ∈ l,j<5) (hz:l.length<=1000) (hk:env.kindOf "_law_mask" = some .globalImplicit) (h:PE (CA w mg mb Z) (n+1) env S e a)
  (he:starEach [e] env=(false,eval e env)::starEach [] env:=by rfl):PE (CA w mg mb Z) (n+1) env S (.Call (.Name "_law_mask" p) [e] [] pos) (.int (maskOf l:Nat)) :=
 PE.j3 (PE.glob hk (g.glo _ _ rfl)) (show (CA w mg mb Z).K.lookup 319=some _ from rfl) rfl (PL.cons h PL.nil he) (zI g ha hl hz).fn he
theorem Cv {n:Nat} {L:Addr} {sv:AV} {a aTi aW:Addr} {M0:List (Addr×AO)} {P:AF->St->Prop}
  (k:∀ aB aC,EX (CA w mg mb Z) (n+1) (jg w L) ⟨sd sv a aTi aW aB aC,(aC,.pQ [])::(aB,.eY oB)::M0⟩ ((qG w).drop 10) P) :
  EX (CA w mg mb Z) (n+1) (jg w L) ⟨n7 sv a aTi aW,M0⟩ ((qG w).drop 8) P:=by
 have ok:=okA (Z:=Z) g;refine EX.cons ?_;refine E1.cell ok ?_;refine EV.BE (sK _) ok (l:=prV) (fc:=[]) (μc:=[]) (f:=wh) ⟨rfl,by decide,rfl,by decide,by decide⟩ (PE.then (PE.name rfl) ⟨f6.of (.name _ _) (Iter.tup ok),fun p hp=>(nomatch hp),fun L'=>Cap.nil,fun D acc L' x hx=>?_,fun aB=>?_⟩) (by decide)
 ·refine o1_3 (qB hx) fun n hn rf2=>?_;subst rf2;rw [oE hn];refine TG.loc ok ?_;refine PE.then (PE.name rfl) ⟨rfl,PE.then (PE.mask g (l:=[prA n,prB n]) (.inl rfl) (fun j hj=>?_) (by simp) rfl (PE.name rfl)) ⟨rfl,Le.pre (ν:=[("pair", .str (pk n))])⟩⟩
  have:=zA n hn;simp at hj;rcases hj with rfl | rfl <;> lia
 rw [yu];refine EX.cons ?_;refine E1.cell ok ?_;refine EV.yg ok (iK _) fun aC=>?_;refine G.jb (M':=(aC,.pQ [])::(aB,.eY oB)::M0) (e7.last (e7.refl _)) ?_;exact k aB aC
theorem PT.zh {n:Nat} {env:Env} {S:St} {e1 e2 e3:Expr} {p1 p2:Pos} {k1 k2:Nat} {pz pt:Pos} {s m:Nat} (hs:s<32) (hm:m<32) (h1:PE (CA w mg mb Z) n env S e1 (.int (s:Nat))) (h2:PE (CA w mg mb Z) n env S e2 (.int (m:Nat))) (h3:PE (CA w mg mb Z) n env S e3 (.int (m:Nat)))
  (he:starEach [.Constant (.int 0) k1 pz,e3] env=(false,eval (.Constant (.int 0) k1 pz) env)::starEach [e3] env:=by rfl) (he2:starEach [e3] env=(false,eval e3 env)::starEach [] env:=by rfl) :
  PT (CA w mg mb Z) n env S (.Compare (.BinOp e1 .BitAnd e2 p1) [.NotIn] [.Tuple [.Constant (.int 0) k1 pz,e3] k2 pt] p2) (fS s m):=by
 have ok:=okA (Z:=Z) g;refine PT.cast (PT.cmp (PE.bin h1 h2 (O.and ok)) (PE.tuple ok (PL.cons (PE.int ok) (PL.cons h3 PL.nil he2) he) (by simp only [bg,bO];decide)) (O.A6 ok)) (w7 s hs m hm)
theorem Bf {n:Nat} {L:Addr} {sv:AV} {a aTi aW aB aC:Addr} {wN:Nat->Nat} {M0:List (Addr×AO)} {P:AF->St->Prop} (hB:(aB,AO.eY oB) ∈ M0) (hW:(aW,AO.eY (prD (fun n=>.int (wN n:Nat)) 10)) ∈ M0)
  (k:∀ oQ,DOb (CA w mg mb Z) (iK _) oQ (i0 wN 15)->EX (CA w mg mb Z) n (jg w L) ⟨pJ sv a aTi aW aB oQ,M0⟩ ((qG w).drop 11) P) :
  EX (CA w mg mb Z) n (jg w L) ⟨sd sv a aTi aW aB aC,(aC,.pQ [])::M0⟩ ((qG w).drop 10) P:=by
 have ok:=okA (Z:=Z) g;refine EX.cons ?_;refine ig ok (l:=jI 1 2 15) (fc:=[]) (fun i S=>S=⟨sd sv a aTi aW aB aC,(aC,.pQ (i0 wN i))::M0⟩) ?_ (fun _ _ _ _ h=>nomatch h) ?_ ?_
 ·refine PE.then (PE.wg (PE.gB rfl (g.non _ rfl) ((g.mb _ (by decide)).trans rfl)) (PL.cons (PE.int ok) (PL.cons (PE.int ok) (PL.cons (PE.int ok) PL.nil))) (O.AU ok (by decide) (by decide))) ⟨f6.of (.name _ _) (Iter.C8 ok (n':=15) (by decide) (by decide)),rfl⟩
 ·rintro i d7 x T hT hx rfl;refine o0_2 (by
   unfold jI at hx;rw [aQ] at hx;refine o1_3 (aS.mp hx) fun j hj rf2=>?_;subst rf2;refine o1_2 (aM.mp hj) fun h1 h2=>?_;simp at h1 h2;subst h2;exact ⟨h1,congrArg AV.int (by unfold sdN;lia)⟩:i<15/\x = .int (sdN i:Nat)) fun hi rf1=>?_
  subst rf1;have hs:sdN i<32:=by unfold sdN;lia
  refine TG.cell ok ?_;refine EX.cons ?_;refine jt ok (iK _) ?_;refine PE.then (PE.cast (PE.i6 (PE.gB rfl (g.non _ rfl) ((g.mb _ (by decide)).trans rfl)) (PL.cons (a:=.lst ((((List.range 10).filter fun n=>fS (sdN i) (mkN n)).map fun n=>((wN n:Nat):Int)).map AV.int)) ?_ PL.nil) (O.qt ok)) (congrArg AV.int (Aa wN (sdN i)))) ⟨0,aC,i0 wN i,((sdN i:Nat):Int),rfl,by simp [i0];lia,PE.name rfl,PE.name rfl,?_⟩
  ·refine EV.tM ok (l:=prV) (fc:=[]) (μc:=[("both", .raw (.ref aB)),("side", .int (sdN i:Nat)),("worth", .raw (.ref aW))]) (f:=yi wN (sdN i)) ⟨rfl,by decide,rfl,by decide,by decide⟩ (PE.then (PE.name rfl) ⟨f6.of (.name _ _) (Iter.tup ok),fun p hp=>(nomatch hp),fun L'=>?_,fun D acc L' x hx=>?_,?_⟩) (by decide)
   ·refine Cap.cons rfl ?_ (.inl ?_) (.inl rfl) ?_
    ·rfl
    ·rfl
    refine Cap.cons rfl ?_ (.inl ?_) (.inl rfl) ?_
    ·rfl
    ·rfl
    refine Cap.cons rfl ?_ (.inl ?_) (.inl rfl) Cap.nil
    ·rfl
    ·rfl
   ·refine o1_3 (qB hx) fun n hn rf2=>?_;subst rf2;cases ht:fS (sdN i) (mkN n) with
    | true =>
      rw [show yi wN (sdN i) (.str (pk n))=some (.int (wN n:Nat)) by unfold yi;rw [kM n hn,ay ht]]
      refine Step.some ?_;refine TG.loc ok ?_;refine CT.one ?_;refine PT.then (PT.zh g hs (xR n hn) (PE.name rfl) (PE.sub (PE.name rfl) (PE.name rfl) (O.k6 ok (sK _) (x:=pk n) (ai _ (ai _ hB)) (jq hn) fun t u h=>rfl)) (PE.sub (PE.name rfl) (PE.name rfl) (O.k6 ok (sK _) (x:=pk n) (ai _ (ai _ hB)) (jq hn) fun t u h=>rfl))) ⟨ht,?_⟩
      exact PE.then (PE.sub (PE.name rfl) (PE.name rfl) (O.k6 ok (sK _) (x:=pk n) (ai _ (ai _ hW)) (yG _ hn) fun t u h=>rfl)) ⟨rfl,Le.pre (ν:=[("pair", .str (pk n))])⟩
    | false =>
      rw [show yi wN (sdN i) (.str (pk n))=none by unfold yi;rw [kM n hn,aq (by rw [ht];decide)]]
      refine Step.none ?_;refine TG.loc ok ?_;refine CT.one ?_;exact PT.then (PT.zh g hs (xR n hn) (PE.name rfl) (PE.sub (PE.name rfl) (PE.name rfl) (O.k6 ok (sK _) (x:=pk n) (ai _ (ai _ hB)) (jq hn) fun t u h=>rfl)) (PE.sub (PE.name rfl) (PE.name rfl) (O.k6 ok (sK _) (x:=pk n) (ai _ (ai _ hB)) (jq hn) fun t u h=>rfl))) ⟨ht,Le.pre (ν:=[("pair", .str (pk n))])⟩
   ·rw [v8];exact ⟨rfl,rfl⟩
  ·refine EX.nil (hT .next _ ⟨_,Le.pre (μ:=sd sv a aTi aW aB aC) (ν:=[("side", .int (sdN i:Nat))]),?_⟩)
   rw [<- tW]
   rfl
 ·rintro d7 rfl;exact G.vO (iK (CA w mg mb Z)) (.inl ⟨_,rfl⟩) (x := "cuts") (a:=aC) (l:=i0 wN 15) rfl (M':=M0) (e7.refl _) (fun p hp=>by refine o1_3 (aE.mp hp) fun j _ rf2=>?_;subst rf2;trivial) fun oQ dQ=>k oQ dQ
end
end Mine
namespace Mine
noncomputable def zM (w:World):List Stmt:=bodyOf ((qG w).getD 11 (.Pass default))
noncomputable def nN (w:World):List Stmt:=bodyOf ((zM w).getD 5 (.Pass default))
noncomputable abbrev jA (sv:AV) (a aTi aW aB:Addr) (oQ:Obj) (late:Bool) (aN:Addr) (tl:List AV) (aF aD:Addr) (oC:Obj) (o:List Nat) (told:Nat) (gH:Bool):List (Str×AV) :=
 [("script", sv),("cells", .raw (.ref a)),("hands", .tup wU),("texts", .tup uw),("pairs", .tup prV),("ties", .raw (.ref aTi)),("worth", .raw (.ref aW)),("both", .raw (.ref aB)),("cuts", .ob oQ []),
   ("late", .bool late),("names", .raw (.ref aN)),("tale", .lst tl),("found", .raw (.ref aF)),("due", .raw (.ref aD)),("crowds", .ob oC []),("order", .lst (o.map ltV)),("told", .int (told:Nat)),("white", .bool gH)]
noncomputable def B6:AV->Nat
 | .str x=>(x.cps.toList.map fun c=>2 ^ (c - 97)).sum
 | _=>0
theorem pA (l:List Nat):B6 (.str (lets l))=maskOf l:=by
 unfold B6 lets maskOf;dsimp only;rw [br];congr 1;exact bh fun x _=>by simp
theorem sQ {cw:Cw} (hn:(cw.map (·.1)).Nodup) {c:Nat×List Nat} (hc:c ∈ cw):e9 cw c.1=c.2:=by
 induction cw with
 | nil=>cases hc
 | cons d cw ih =>
   unfold e9;rw [bN];simp only [aU,bV] at hn;by_cases e:d.1=c.1
   ·rw [bU e];rcases aG.mp hc with rfl | h
    ·rfl
    ·exact absurd (e▸aE.mpr ⟨c,h,rfl⟩) hn.1
   ·rw [bB e];exact ih hn.2 ((aG.mp hc).resolve_left fun q=>e (q▸rfl))
section
variable {w:World} {mg mb:Str->Option Value} {Z:Frag} (g:GA w mg mb)
include g
theorem AD {n:Nat} {L:Addr} {sv:AV} {a aTi aW aB aN aF aD:Addr} {oQ oC:Obj} {late gH:Bool} {tl:List AV} {told:Nat} {P0:Pth} {tie:Nat->Nat->Str} {wl:List (Str×AV)} {cs:jN} {M0:List (Addr×AO)} {P:AF->St->Prop} {t:Nat}
  (K:POk t P0) (hcs:fD lK cs) (hW:(aW,AO.eY wl) ∈ M0) (dC:DOb (CA w mg mb Z) (sK _) oC (cwL (g5 P0))) (hw:∀ x y,x<5->y<5->x≠y->ie wl (ltr x++ltr y)=some (.int (nL tie x y:Nat)))
  (q:∀ cs',fD lK cs'->EX (CA w mg mb Z) (n+4) (jg w L) ⟨jA sv a aTi aW aB oQ late aN tl aF aD oC (eZ tie late P0) told gH,fH 321 cs'++M0⟩ ((nN w).drop 1) P) :
  EX (CA w mg mb Z) (n+4) (jg w L) ⟨jA sv a aTi aW aB oQ late aN tl aF aD oC (eZ tie late P0) told gH,fH 321 cs++M0⟩ (nN w) P:=by
 have ok:=okA (Z:=Z) g;refine EX.cons ?_;refine E1.ite (ET.cmp ((PE.name rfl).then ?_))
 have hcl:=K.r9;have hin:∀ c ∈ g5 P0,∀ x ∈ c.2,x<5/\gj P0 x=c.1:=fun c hc x hx=>by
  rw [<- sQ fU hc] at hx;exact gb.mp hx
 refine EV.j3 (PE.glob rfl (g.glo _ _ rfl)) (show (CA w mg mb Z).K.lookup 324=some _ from rfl) rfl (PL.then (PL.cons (PE.name rfl) (PL.cons (PE.name rfl) (PL.cons (PE.name rfl) PL.nil))) (((xM g (n:=n) (R:=M0) (cs:=cs) (aW:=aW) (wl:=wl) (wt:=nL tie) (cw:=g5 P0) (late:=late) hcs hW dC fU (by lia) (fun c hc c' hc' hne x hx y hy=>?_) (fun c hc=>?_)).fn _ _).mono fun av S' e=>?_))
 ·refine o0_2 (hin c hc x hx) fun h1 h2=>?_;refine o0_2 (hin c' hc' y hy) fun h3 h4=>?_;exact hw x y h1 h3 fun e=>hne (by rw [<- h2,<- h4,e])
 ·rw [<- sQ fU hc];exact mE
 obtain ⟨μ1,M1⟩:=S';refine o0_3 e fun e1 rf1 zz=>?_;refine o1_3 zz fun cs' hcs' e3=>?_;clear e;subst rf1;obtain rfl:μ1=_:=e1;obtain rfl:M1=_:=e3;have es:∀ l:List Nat,l.map ltV=(l.map ltr).map AV.str:=fun l=>by rw [br];rfl
 show V2 _ _ _ _ _ (.lst ((eZ tie late P0).map ltV)) (.lst ((eZ tie late P0).map ltV)) _;rw [es];refine (O.u9 ok).mono (eq2 ?_);refine G1.mono T1.bool (eq2 ?_);rw [aq (by decide)]
 exact EX.nil (q cs' hcs')
theorem AB {n:Nat} {L:Addr} {sv:AV} {a aTi aW aB aN aF aD:Addr} {oQ oC:Obj} {late gH:Bool} {tl:List AV} {o oa:List Nat} {told pv lv:Nat} {cw:Cw} {M0:List (Addr×AO)} {P:AF->St->Prop}
  (dC:DOb (CA w mg mb Z) (sK _) oC (cwL cw)) (hz:cw.length<=5) (h5:∀ c ∈ cw,c.2.length<=5/\∀ x ∈ c.2,x<5) (ho:o=oa++[pv,lv]) (hp:pv<5) (hl:lv<5) (hoz:o.length<=5)
  (q:EX (CA w mg mb Z) (n+1) (jg w L) ⟨jA sv a aTi aW aB oQ late aN tl aF aD oC o told gH++([("whole", .lst ((cw.map fun c=>maskOf c.2).map fun m:Nat=>.int (m:Nat))),("ends", .int (maskOf [pv,lv]:Nat))]:List (Str×AV)),M0⟩ ((nN w).drop 3) P) :
  EX (CA w mg mb Z) (n+1) (jg w L) ⟨jA sv a aTi aW aB oQ late aN tl aF aD oC o told gH,M0⟩ ((nN w).drop 1) P:=by
 have ok:=okA (Z:=Z) g;refine EX.cons ?_;refine E1.cell ok ?_;refine EV.tM ok (l:=(cwL cw).map (·.2)) (fc:=[]) (μc:=[]) (f:=fun a=>some (.int (B6 a:Nat))) ⟨rfl,by decide,rfl,by decide,by decide⟩ ?_ (by simp [cwL];lia)
 refine EV.values ok (sK _) (.inl ⟨_,rfl⟩) dC (PE.name rfl) fun av=>⟨f6.of (.name _ _) (Iter.A4 ok (sK _) dC),fun p hp=>(nomatch hp),fun L'=>Cap.nil,fun D acc L' x hx=>?_,?_⟩
 ·refine o1_3 (aE.mp hx) fun kv hkv rf2=>?_;subst rf2;refine o1_3 (aE.mp hkv) fun c hc rf2=>?_;subst rf2;refine o0_2 (h5 c hc) fun h1 h2=>?_;refine Step.some ?_;refine TG.loc ok ?_;refine CT.nil ⟨rfl,?_⟩;dsimp only;rw [pA];exact PE.then (PE.mask g (l:=c.2) (.inl rfl) h2 (by lia) rfl (PE.name rfl)) ⟨rfl,Le.pre (ν:=[("crowd", .str (lets c.2))])⟩
 ·have e:(((cwL cw).map (·.2)).filterMap fun a=>some (AV.int (B6 a:Nat)))=(cw.map fun c=>maskOf c.2).map fun m:Nat=>AV.int (m:Nat):=by
   rw [List.filterMap_eq_map'];unfold cwL;rw [br,br,br];exact bh fun c _=>by simp only [Function.comp];rw [pA]
  rw [e];refine EX.cons ?_;refine E1.cell ok ?_;have eo:o.map ltV=oa.map ltV++[ltV pv,ltV lv]:=by rw [ho,bq];rfl
  refine PE.then (PE.mask g (l:=[pv,lv]) (.inr rfl) (fun j hj=>?_) (by simp) rfl (PE.cast (PE.zK ok (m:=2) (PE.name rfl) (show PE _ _ _ _ _ (.int (-((2:Nat):Int))) from PE.neg ok (PE.int ok)) (by decide) (by rw [az];lia)) (congrArg AV.lst ?_))) q
  ·simp at hj;rcases hj with rfl | rfl <;> assumption
  ·rw [eo];have e2:(oa.map ltV++[ltV pv,ltV lv]).length - 2=(oa.map ltV).length:=by simp
   rw [e2,List.drop_left];rfl
end
end Mine
namespace Mine
noncomputable def ug (E:Nat) (ws:List Nat) (s:Nat):Bool:=fS s E && (ws.filter fun m=>fS s m).isEmpty
noncomputable def CH:AV->Nat
 | .int i=>i.toNat
 | _=>0
noncomputable def pI (wN:Nat->Nat) (E:Nat) (ws:List Nat) (a:AV):Option AV:=if ug E ws (CH a)=true then some (.int (nF wN (CH a):Nat)) else none
noncomputable def rC (s:Nat) (a:AV):Option AV:=if fS s (CH a)=true then some a else none
theorem lC (s:Nat):∀ ws:List Nat,(ws.map fun m:Nat=>AV.int (m:Nat)).filterMap (rC s)=(ws.filter fun m=>fS s m).map fun m:Nat=>AV.int (m:Nat)
 | []=>rfl
 | m::ws=>by
   have ih:=lC s ws;have e:rC s (.int (m:Nat))=if fS s m=true then some (.int (m:Nat)) else none:=rfl
   rw [aU];by_cases q:fS s m=true
   ·rw [cj (b:=.int (m:Nat)) (by rw [e,ay q]),ih,bW (p:=fun m=>fS s m) q];rfl
   ·rw [dM (by rw [e,aq q]),ih,bX (p:=fun m=>fS s m) q]
noncomputable def kP (wN:Nat->Nat) (E:Nat) (ws:List Nat):List Int:=(((List.range 15).map sdN).filter (ug E ws)).map fun s=>((nF wN s:Nat):Int)
theorem qF (wN:Nat->Nat) (E:Nat) (ws:List Nat):((List.range 15).map fun j=>AV.int (sdN j:Nat)).filterMap (pI wN E ws)=(kP wN E ws).map AV.int:=by
 unfold kP;have e0:((List.range 15).map fun j=>AV.int (sdN j:Nat))=((List.range 15).map sdN).map fun s:Nat=>AV.int (s:Nat):=by rw [br];rfl
 rw [e0];generalize (List.range 15).map sdN=l;induction l with
 | nil=>rfl
 | cons s l ih =>
   have e:pI wN E ws (.int (s:Nat))=if ug E ws s=true then some (.int (nF wN s:Nat)) else none:=rfl
   rw [aU];by_cases q:ug E ws s=true
   ·rw [cj (b:=.int (nF wN s:Nat)) (by rw [e,ay q]),ih,bW (p:=ug E ws) q];rfl
   ·rw [dM (by rw [e,aq q]),ih,bX (p:=ug E ws) q]
theorem O.zX {C:Cx} (ok:C.Ok) {n:Nat} {env:Env} {S:St} {α:Type} {l:List α} {f:α->AV}:P2 C n env S (compareOp .Eq) (.lst (l.map f)) (.lst []) (.bool l.isEmpty):=by
 have:=O.eq_nil ok (n:=n) (env:=env) (S:=S) (l:=l.map f);rw [List.isEmpty_map] at this;exact this
section
variable {w:World} {mg mb:Str->Option Value} {Z:Frag} (g:GA w mg mb)
include g
theorem AA {n:Nat} {L:Addr} {sv:AV} {a aTi aW aB aN aF aD:Addr} {oQ oC:Obj} {late gH:Bool} {tl:List AV} {o:List Nat} {told v E:Nat} {ws:List Nat} {wN:Nat->Nat} {M0:List (Addr×AO)} {P:AF->St->Prop}
  (dQ:DOb (CA w mg mb Z) (iK _) oQ (i0 wN 15)) (hE:E<32) (hws:∀ m ∈ ws,m<32) (hwz:ws.length<=5) (hv:((v:Nat):Int) ∈ kP wN E ws) (hm:∀ x ∈ kP wN E ws,((v:Nat):Int)<=x)
  (q:EX (CA w mg mb Z) (n+1) (jg w L) ⟨jA sv a aTi aW aB oQ late aN tl aF aD oC o told gH++([("whole", .lst (ws.map fun m:Nat=>.int (m:Nat))),("ends", .int (E:Nat)),("least", .int (v:Nat))]:List (Str×AV)),M0⟩ ((nN w).drop 4) P) :
  EX (CA w mg mb Z) (n+1) (jg w L) ⟨jA sv a aTi aW aB oQ late aN tl aF aD oC o told gH++([("whole", .lst (ws.map fun m:Nat=>.int (m:Nat))),("ends", .int (E:Nat))]:List (Str×AV)),M0⟩ ((nN w).drop 3) P:=by
 have ok:=okA (Z:=Z) g;refine EX.cons ?_;refine E1.loc ok ?_;refine EV.i6 (PE.gB rfl (g.non _ rfl) ((g.mb _ (by decide)).trans rfl)) (EL.cons ?_)
 refine EV.lcompX ok (x := "side") (l:=(i0 wN 15).map fun p=>(iK (CA w mg mb Z)).av p.1) (fc:=[]) (μc:=[("cuts", .ob oQ []),("ends", .int (E:Nat)),("whole", .lst (ws.map fun m:Nat=>.int (m:Nat)))]) (f:=pI wN E ws) rfl (fun _=>rfl) (fun _ _=>rfl) rfl (by decide) (by decide) (fun _=>rfl) (by intro p hp;simp at hp;rcases hp with rfl | rfl | rfl <;> (dsimp only;decide)) ?_ (by simp [i0])
 refine PE.then (PE.name rfl) ⟨f6.of (.name _ _) (Iter.A5 ok (iK _) dQ fun h=>?_),fun p hp=>(nomatch hp),fun L'=>?_,fun D acc L' x hx=>?_,?_⟩
 ·refine o1_2 (Value.isInt_shape h) fun t rf1=>?_;subst rf1;exact .int _ _
 ·refine Cap.cons rfl ?_ (.inl ?_) (.inl rfl) ?_
  ·rfl
  ·rfl
  refine Cap.cons rfl ?_ (.inl ?_) (.inl rfl) ?_
  ·rfl
  ·rfl
  refine Cap.cons rfl ?_ (.inl ?_) (.inl rfl) Cap.nil
  ·rfl
  ·rfl
 ·refine o1_3 (aE.mp hx) fun kv hkv rf2=>?_;subst rf2;refine o1_3 (aE.mp hkv) fun j hj rf2=>?_;subst rf2;have hj:=aL.mp hj;have hs:sdN j<32:=by unfold sdN;lia
  generalize hsd:sdN j=s at *;have hgq:ie (i0 wN 15) ((s:Nat):Int)=some (.int (nF wN s:Nat)):=hsd▸v7 hj;have ef:pI wN E ws (.int (s:Nat))=if ug E ws s=true then some (.int (nF wN s:Nat)) else none:=rfl
  show CT _ _ _ ⟨[("cuts", .ob oQ []),("ends", .int (E:Nat)),("whole", .lst (ws.map fun m:Nat=>.int (m:Nat))),("side", .int (s:Nat))],(D,.list acc)::M0⟩ _ _
  refine CT.one ?_;refine PT.then (b:=ug E ws s) (PT.BU (PT.zh g hs hE (PE.name rfl) (PE.name rfl) (PE.name rfl)) fun _=>PT.cmp (a:=.lst ((ws.filter fun m=>fS s m).map fun m:Nat=>.int (m:Nat))) ?_ (PE.list ok PL.nil (by simp only [bO];decide)) ?_) ?_
  ·refine EV.tM ok (l:=ws.map fun m:Nat=>.int (m:Nat)) (fc:=[]) (μc:=[("side", .int (s:Nat))]) (f:=rC s) ⟨rfl,by decide,rfl,by decide,by decide⟩ ?_ (by rw [az];lia)
   refine PE.then (PE.name rfl) ⟨f6.of (.name _ _) (Iter.lst ok),fun p hp=>(nomatch hp),fun L2=>?_,fun D2 acc2 L2 x2 hx2=>?_,?_⟩
   ·refine Cap.cons rfl ?_ (.inl ?_) (.inl ?_) Cap.nil
    ·rfl
    ·rfl
    ·rfl
   ·refine o1_3 (aE.mp hx2) fun m hm2 rf2=>?_;subst rf2;have e:rC s (.int (m:Nat))=if fS s m=true then some (.int (m:Nat)) else none:=rfl
    rw [e];cases ht:fS s m with
    | true =>
      rw [ay rfl];refine Step.some ?_;refine TG.loc ok ?_;refine CT.one ?_;refine PT.then (PT.zh g hs (hws m hm2) (PE.name rfl) (PE.name rfl) (PE.name rfl)) ⟨ht,?_⟩
      exact PE.then (PE.name rfl) ⟨rfl,Le.pre (ν:=[("crowd", .int (m:Nat))])⟩
    | false =>
      rw [aq (by decide)]
      refine Step.none ?_;refine TG.loc ok ?_;refine CT.one ?_;exact PT.then (PT.zh g hs (hws m hm2) (PE.name rfl) (PE.name rfl) (PE.name rfl)) ⟨ht,Le.pre (ν:=[("crowd", .int (m:Nat))])⟩
   ·exact ⟨congrArg AV.lst (lC s ws),rfl⟩
  ·exact O.zX ok
  ·show match pI wN E ws (.int (s:Nat)) with | none=>_ | some y=>_
   rw [ef];cases hf:ug E ws s with
   | false =>
     rw [aq (by decide)]
     exact ⟨rfl,Le.refl _⟩
   | true =>
     rw [ay rfl];refine ⟨rfl,?_⟩;exact PE.then (PE.sub (PE.name rfl) (PE.name rfl) (O.nZ (iK _) dQ hgq (fun t u h=>rfl) ok)) ⟨rfl,Le.refl _⟩
 ·refine EL.nil ?_;have e1:(i0 wN 15).map (fun p=>(iK (CA w mg mb Z)).av p.1)=(List.range 15).map fun j=>AV.int (sdN j:Nat):=by unfold i0;rw [br];rfl
  rw [e1,qF];refine (O.zH ok hv hm).mono (eq2 ?_);exact q
end
end Mine
namespace Mine
noncomputable def iD (x:Str):Bool:=!(("" : Str) == x || ("\t" : Str) == x)
noncomputable def lF (T:Nat->Str) (s:Nat) (a:AV):Option AV:=if (fS s (mkN (pkI a)) && iD (T (pkI a)))=true then some a else none
noncomputable def m8 (T:Nat->Str) (s:Nat):Bool:=((List.range 10).filter fun n=>fS s (mkN n) && iD (T n)).isEmpty
theorem oX (T:Nat->Str) (s:Nat):(prV.filterMap (lF T s)).isEmpty=m8 T s:=by
 have:∀ l:List Nat,(∀ n ∈ l,n<10)->((l.map fun n=>AV.str (pk n)).filterMap (lF T s))=(l.filter fun n=>fS s (mkN n) && iD (T n)).map fun n=>AV.str (pk n):=by
  intro l;induction l with
  | nil=>intro _;rfl
  | cons n l ih =>
    intro h;have hn:=h n (aj ..);have ih:=ih fun m hm=>h m (ai _ hm);rw [aU];by_cases q:(fS s (mkN n) && iD (T n))=true
    ·rw [cj (b:=.str (pk n)) (by unfold lF;rw [kM n hn,ay q]),ih,bW (p:=fun n=>fS s (mkN n) && iD (T n)) q];rfl
    ·rw [dM (by unfold lF;rw [kM n hn,aq q]),ih,bX (p:=fun n=>fS s (mkN n) && iD (T n)) q]
 unfold prV m8;rw [this _ fun n hn=>aL.mp hn,List.isEmpty_map]
noncomputable abbrev rZ (ws:List Nat) (E v s:Nat) (sol:AV):List (Str×AV):=[("whole", .lst (ws.map fun m:Nat=>.int (m:Nat))),("ends", .int (E:Nat)),("least", .int (v:Nat)),("side", .int (s:Nat)),("solid", sol)]
section
variable {w:World} {mg mb:Str->Option Value} {Z:Frag} (g:GA w mg mb)
include g
theorem Az {n:Nat} {L:Addr} {sv:AV} {a aTi aW aB aN aF aD:Addr} {oQ oC:Obj} {late gH:Bool} {tl:List AV} {o oa cl:List Nat} {told v E lv:Nat} {ws:List Nat} {T:Nat->Str} {cw:Cw} {M0:List (Addr×AO)} {P:AF->St->Prop}
  (dC:DOb (CA w mg mb Z) (sK _) oC (cwL cw)) (ho:o=oa++[lv]) (hoz:o.length<=5) (acl:ie (cwL cw) (ltr lv)=some (.str (lets cl))) (hcl:∀ x ∈ cl,x<5) (hclz:cl.length<=5) (hB:(aB,AO.eY oB) ∈ M0) (hT:(aTi,AO.eY (prD (fun n=>.str (T n)) 10)) ∈ M0)
  (hs:maskOf cl<32) (h1:told=v) (h2:gH=m8 T (maskOf cl))
  (q:∀ sol,EX (CA w mg mb Z) (n+1) (jg w L) ⟨jA sv a aTi aW aB oQ late aN tl aF aD oC o told gH++rZ ws E v (maskOf cl) sol,M0⟩ ((nN w).drop 7) P) :
  EX (CA w mg mb Z) (n+1) (jg w L) ⟨jA sv a aTi aW aB oQ late aN tl aF aD oC o told gH++([("whole", .lst (ws.map fun m:Nat=>.int (m:Nat))),("ends", .int (E:Nat)),("least", .int (v:Nat))]:List (Str×AV)),M0⟩ ((nN w).drop 4) P:=by
 have ok:=okA (Z:=Z) g;have eo:o.map ltV=oa.map ltV++[ltV lv]:=by rw [ho,bq];rfl
 refine EX.cons ?_;refine E1.cell ok ?_;refine PE.then (PE.mask g (l:=cl) (.inl rfl) hcl (by lia) rfl (PE.sub (PE.name rfl) (PE.sub (PE.name rfl) (show PE _ _ _ _ _ (.int (-((1:Nat):Int))) from PE.neg ok (PE.int ok)) (O.jQ ok (m:=1) (bF _) (by rw [eo];simp) (by rw [eo];exact kr) (by decide))) (O.nZ (sK _) dC acl (fun t u h=>rfl) ok))) ?_
 generalize hsd:maskOf cl=s at *;refine EX.xU ok (l:=prV) (fc:=[]) (μc:=[("both", .raw (.ref aB)),("side", .int (s:Nat)),("ties", .raw (.ref aTi))]) (f:=lF T s) ⟨rfl,by decide,rfl,by decide,by decide⟩ ?_ (by decide)
 refine PE.then (PE.name rfl) ⟨f6.of (.name _ _) (Iter.tup ok),fun p hp=>(nomatch hp),fun L'=>?_,fun D acc L' x hx=>?_,?_⟩
 ·refine Cap.cons rfl ?_ (.inl ?_) (.inl rfl) ?_
  ·rfl
  ·rfl
  refine Cap.cons rfl ?_ (.inl ?_) (.inl rfl) ?_
  ·rfl
  ·rfl
  refine Cap.cons rfl ?_ (.inl ?_) (.inl rfl) Cap.nil
  ·rfl
  ·rfl
 ·refine o1_3 (qB hx) fun m hm rf2=>?_;subst rf2;have e:lF T s (.str (pk m))=if (fS s (mkN m) && iD (T m))=true then some (.str (pk m)) else none:=by unfold lF;rw [kM m hm]
  rw [e];have hgB:=jq hm;have hgT:=yG (fun n=>.str (T n)) hm;cases ht:(fS s (mkN m) && iD (T m)) with
  | true =>
    rw [ay rfl];refine Step.some ?_;refine TG.loc ok ?_;refine CT.one ?_;refine PT.then (PT.BU (PT.zh g hs (xR m hm) (PE.name rfl) (PE.sub (PE.name rfl) (PE.name rfl) (O.k6 ok (sK _) (x:=pk m) (ai _ hB) hgB fun t u h=>rfl)) (PE.sub (PE.name rfl) (PE.name rfl) (O.k6 ok (sK _) (x:=pk m) (ai _ hB) hgB fun t u h=>rfl))) fun _=>PT.cmp (PE.sub (PE.name rfl) (PE.name rfl) (O.k6 ok (sK _) (x:=pk m) (ai _ hT) hgT fun t u h=>rfl)) (PE.tuple ok (PL.cons (PE.str ok) (PL.cons (PE.str ok) PL.nil)) (by simp only [bg,bO];decide)) (O.uZ ok)) ⟨ht,?_⟩
    exact PE.then (PE.name rfl) ⟨rfl,Le.pre (ν:=[("pair", .str (pk m))])⟩
  | false =>
    rw [aq (by decide)]
    refine Step.none ?_;refine TG.loc ok ?_;refine CT.one ?_;refine PT.then (PT.BU (PT.zh g hs (xR m hm) (PE.name rfl) (PE.sub (PE.name rfl) (PE.name rfl) (O.k6 ok (sK _) (x:=pk m) (ai _ hB) hgB fun t u h=>rfl)) (PE.sub (PE.name rfl) (PE.name rfl) (O.k6 ok (sK _) (x:=pk m) (ai _ hB) hgB fun t u h=>rfl))) fun _=>PT.cmp (PE.sub (PE.name rfl) (PE.name rfl) (O.k6 ok (sK _) (x:=pk m) (ai _ hT) hgT fun t u h=>rfl)) (PE.tuple ok (PL.cons (PE.str ok) (PL.cons (PE.str ok) PL.nil)) (by simp only [bg,bO];decide)) (O.uZ ok)) ⟨ht,?_⟩
    exact Le.pre (ν:=[("pair", .str (pk m))])
 ·refine EX.cons ?_;refine E1.ite (PT.then (b:=false) (PT.cast (PT.or2 (PT.cmp (PE.name rfl) (PE.name rfl) (O.ne ok)) fun _=>PT.cmp (PE.name rfl) (PE.cmp (PE.name rfl) (PE.list ok PL.nil (by simp only [bO];decide)) (O.eq_nil ok)) (O.jX ok)) ?_) ?_)
  ·rw [oX,h1,h2];simp
  rw [aq (by decide)]
  exact EX.nil (q _)
end
end Mine
namespace Mine
theorem nc (x:Str):slt x x=false:=by unfold slt;simp [List.lt_irrefl]
theorem lG {x y z:Str} (h1:slt x y=true) (h2:slt y z=true):slt x z=true:=by
 unfold slt at *;simp only [cF] at *;exact List.lt_trans h1 h2
theorem oY {x y:Str} (h:slt x y=true):slt y x=false:=by
 cases e:slt y x with
 | false=>rfl
 | true=>have:=lG h e;rw [nc] at this;cases this
theorem uH {x y:Str} (h:slt x y=false) (hne:x≠y):slt y x=true:=by
 unfold slt at *;simp only [cF,dO] at *;rcases Std.Trichotomous.rel_or_eq_or_rel_swap (r:=fun a b:List Nat=>a<b) (a:=x.cps.toList) (b:=y.cps.toList) with h' | h' | h'
 ·exact absurd h' h
 ·exact absurd (Str.ext' h') hne
 ·exact h'
noncomputable def iU (l:List Str):Prop:=l.Pairwise fun a b=>slt a b=true
theorem nu {x:Str}:∀ {l:List Str},iU l->∃ k,k<=l.length/\(∀ i c,l[i]? = some c->slt x c=decide (k<=i))/\insLt slt x l=l.take k++x::l.drop k
 | [],_=>⟨0,bF _,fun i c h=>by simp at h,rfl⟩
 | r::rs,h=>by
   refine o0_2 (bT.mp h) fun h1 h2=>?_;have e0:insLt slt x (r::rs)=if slt x r=true then x::r::rs else r::insLt slt x rs:=rfl
   rw [e0];cases q:slt x r with
   | true =>
     refine ⟨0,bR _,fun i c hc=>?_,by rw [ay rfl];rfl⟩
     have:slt x c=true:=by
      cases i with
      | zero=>simp at hc;subst hc;exact q
      | succ i=>exact lG q (h1 c (aV (by simpa using hc)))
     rw [this];simp
   | false =>
     refine o1_4 (nu (x:=x) h2) fun k hk hp e=>?_;refine ⟨k+1,by simp;lia,fun i c hc=>?_,by rw [aq (by decide),e];rfl⟩
     cases i with
     | zero=>simp at hc;subst hc;rw [q];simp
     | succ i=>rw [hp i c (by simpa using hc)];simp
theorem l7 (x:Str):∀ l:List Str,(insLt slt x l).Perm (x::l)
 | []=>.refl _
 | r::rs=>by
   have e0:insLt slt x (r::rs)=if slt x r=true then x::r::rs else r::insLt slt x rs:=rfl
   rw [e0];split
   ·exact .refl _
   ·exact ((l7 x rs).cons r).trans (.swap ..)
theorem l6 {x:Str}:∀ {l:List Str},iU l->x ∉ l->iU (insLt slt x l)
 | [],_,_=>List.pairwise_singleton ..
 | r::rs,h,hx=>by
   refine o0_2 (bT.mp h) fun h1 h2=>?_;have e0:insLt slt x (r::rs)=if slt x r=true then x::r::rs else r::insLt slt x rs:=rfl
   rw [e0];have hxr:x≠r:=fun e=>hx (e▸aj ..);cases q:slt x r with
   | true =>
     rw [ay rfl];exact bT.mpr ⟨fun b hb=>by
      rcases aG.mp hb with rfl | hb
      ·exact q
      ·exact lG q (h1 b hb),h⟩
   | false =>
     rw [aq (by decide)]
     exact bT.mpr ⟨fun b hb=>by
      rcases aG.mp ((l7 x rs).mem_iff.mp hb) with rfl | hb
      ·exact uH q hxr
      ·exact h1 b hb,l6 h2 fun z=>hx (ai _ z)⟩
theorem iU.at_ {l:List Str} (h:iU l) {k:Nat} {x:Str} (hx:l[k]? = some x):∀ i c,l[i]? = some c->slt c x=decide (i<k)/\slt x c=decide (k+1<=i):=fun i c hc=>by
 have hp:=List.pairwise_iff_getElem.mp h;refine o1_2 (aM.mp hx) fun h1 rf1=>?_;subst rf1;refine o1_2 (aM.mp hc) fun h2 rf1=>?_;subst rf1;rcases Nat.lt_trichotomy i k with q | q | q
 ·have:=hp i k h2 h1 q;rw [this,oY this];simp;lia
 ·subst q;rw [nc];simp
 ·have:=hp k i h1 h2 q;rw [this,oY this];simp;lia
theorem tw (l:List Str) (x:Str):gI slt (l++[x])=insLt slt x (gI slt l):=by
 unfold gI;rw [dW];rfl
theorem kI:∀ {l:List Str},l.Nodup->iU (gI slt l):=fun {l}=>by
 have:∀ (l acc:List Str),iU acc->(acc++l).Nodup->iU (l.foldl (fun acc x=>insLt slt x acc) acc):=by
  intro l;induction l with
  | nil=>intro acc h _;exact h
  | cons a l ih =>
    intro acc h hn;have hp:=l7 a acc;refine ih _ (l6 h fun z=>?_) ?_
    ·exact (aJ.mp hn).2.2 a z a (aj ..) rfl
    ·have:(acc++a::l).Perm (insLt slt a acc++l):=by
      refine List.Perm.trans ?_ (hp.symm.append_right l);exact List.perm_middle
     exact this.nodup_iff.mp hn
 exact fun hn=>this l [] List.Pairwise.nil (by simpa using hn)
end Mine
namespace Mine
noncomputable def uh (v:Nat) (cl:List Nat):Str:=t9 (Str.ofString (toString (1000+(v:Int)))) (lets cl)
theorem pF {v:Nat} (h:v<=200):(1000+(v:Int)).natAbs.log2<1920:=by
 have:(1000+(v:Int)).natAbs=1000+v:=by lia
 rw [this];have h2:(1000+v).log2<=1000+v:=Nat.log2_le_self _;by_cases q:v=0
 ·subst q;decide
 ·exact Nat.lt_of_lt_of_le (Nat.log2_lt (by lia) |>.mpr (by have:(2:Nat) ^ 11=2048:=rfl;lia:1000+v<2 ^ 11)) (by decide)
theorem qD:∀ v:Nat,v<201->(Str.ofString (toString (1000+(v:Int)))).length=4/\(Str.ofString (toString (1000+(v:Int)))).cps.toList.all (fun c=>c != 125)=true:=by decide +kernel
theorem zG {v:Nat} (h:v<=200):(Str.ofString (toString (1000+(v:Int)))).length<=10:=by rw [(qD v (by lia)).1];decide
section
variable {w:World} {mg mb:Str->Option Value} {Z:Frag} (g:GA w mg mb)
include g
theorem PE.Ce {n:Nat} {env:Env} {S:St} {e1 e2:Expr} {p pos:Pos} {x y:Str} (hk:env.kindOf "QName" = some .globalImplicit) (hx:x.length<=100000) (hy:y.length<=100000) (h0:0<y.length) (h1:PE (CA w mg mb Z) (n+2) env S e1 (.str x)) (h2:PE (CA w mg mb Z) (n+2) env S e2 (.str y))
  (he:starEach [e1,e2] env=(false,eval e1 env)::starEach [e2] env:=by rfl) (he2:starEach [e2] env=(false,eval e2 env)::starEach [] env:=by rfl) (hplain:(backTo pos (starEach [e2] env)).any (·.1)=false:=by rfl) :
  PE (CA w mg mb Z) (n+2) env S (.Call (.Name "QName" p) [e1,e2] [] pos) (.qn 251 (t9 x y)) :=
 EV.Ac (PE.glob hk (g.glo _ _ rfl)) rfl ((PL.cons h1 (PL.cons h2 PL.nil he2) he).then (((xH g hx hy h0 (n:=n) (M:=S.M)).fn env S.μ).mono fun a S' e=>⟨e.2.1,back_eq e.1 e.2.2⟩)) he hplain
theorem Ay {n:Nat} {L:Addr} {sv:AV} {a aTi aW aB aN aF aD:Addr} {oQ oC:Obj} {late gH:Bool} {tl:List AV} {o oa cl:List Nat} {told E lv s:Nat} {sol:AV} {ws:List Nat} {cw:Cw} {found:List Str} {due:List AV} {M0:List (Addr×AO)} {P:AF->St->Prop}
  (dC:DOb (CA w mg mb Z) (sK _) oC (cwL cw)) (ho:o=oa++[lv]) (hoz:o.length<=5) (acl:ie (cwL cw) (ltr lv)=some (.str (lets cl))) (hclz:cl.length<=5) (hc0:cl≠[]) (ht:told<=200) (hfz:found.length<=10) (hdz:due.length<=10) (hfs:iU found)
  (q:P .next ⟨jA sv a aTi aW aB oQ late aN tl aF aD oC o told gH++rZ ws E told s sol,(aF,.list ((insLt slt (uh told cl) found).map fun x=>.qn 251 x))::(aD,.list (due++[.str (uh told cl)]))::M0⟩) :
  EX (CA w mg mb Z) (n+3) (jg w L) ⟨jA sv a aTi aW aB oQ late aN tl aF aD oC o told gH++rZ ws E told s sol,(aF,.list (found.map fun x=>.qn 251 x))::(aD,.list due)::M0⟩ ((nN w).drop 7) P:=by
 have ok:=okA (Z:=Z) g;have sl:sizeLine=16777216:=by decide
 have eo:o.map ltV=oa.map ltV++[ltV lv]:=by rw [ho,bq];rfl
 have hn:=zG ht;have hlz:(lets cl).length=cl.length:=by
  show (List.map _ _).toArray.size=_;rw [aK,az]
 have hl0:0<cl.length:=by
  cases cl with
  | nil=>exact absurd rfl hc0
  | cons=>simp
 have ecr:∀ {S:St} {p1 p2 p3 p4 p5 p6:Pos} {c:Nat},S.μ.lookup ("order" : Str)=some (AV.lst (o.map ltV))->S.μ.lookup ("crowds" : Str)=some (AV.ob oC [])->PE (CA w mg mb Z) (n+3) (jg w L) S (.Subscript (.Name "crowds" p5) (.Subscript (.Name "order" p1) (.UnaryOp .USub (.Constant (.int 1) c p2) p3) p4) p6) (.str (lets cl)):=by
  intro S p1 p2 p3 p4 p5 p6 c hS hC;exact PE.sub (PE.name hC) (PE.sub (PE.name hS) (show PE _ _ _ _ _ (.int (-((1:Nat):Int))) from PE.neg ok (PE.int ok)) (O.jQ ok (m:=1) (bF _) (by rw [eo];simp) (by rw [eo];exact kr) (by decide))) (O.nZ (sK _) dC acl (fun t u h=>rfl) ok)
 refine EX.cons (E1.expr (EV.mF F.slot_list_append cZ F.type_list_append ((PE.name rfl).then ⟨aD,rfl,lU (l:=due) (ai _ (aj ..)),PL.then (PL.cons (a:=.str (uh told cl)) ?_ PL.nil) (O.append ok (i:=1) rfl (by rw [sl];lia) ?_)⟩)))
 ·refine PE.bin (PE.bin (PE.bin (PE.str ok) (PE.jo (PE.gB rfl (g.non _ rfl) ((g.mb _ (by decide)).trans rfl)) (PE.bin (PE.int ok) (PE.name rfl) (O.add ok)) (O.str_int ok (pF ht))) (O.adds ok ?_)) (PE.str ok) (O.adds ok ?_)) (ecr rfl rfl) (O.adds ok ?_)
  ·rw [sl];have:("{" : Str).length=1:=by decide
   lia
  ·rw [cU,sl];have h1:("{" : Str).length=1:=by decide
   have h2:("}" : Str).length=1:=by decide
   lia
  ·rw [cU,cU,sl];have h1:("{" : Str).length=1:=by decide
   have h2:("}" : Str).length=1:=by decide
   lia
 refine EX.cons ?_;refine E1.ite (ET.cmp ?_);refine o1_4 (nu (x:=uh told cl) hfs) fun kk hkk hpl eIns=>?_;refine EV.j3 (PE.glob rfl (g.glo _ _ rfl)) (show (CA w mg mb Z).K.lookup 124=some _ from rfl) rfl (PL.then (PL.cons (PE.name rfl) (PL.cons (PE.Ce g (n:=n+1) rfl (by lia) (by lia) (by lia) (PE.jo (PE.gB rfl (g.non _ rfl) ((g.mb _ (by decide)).trans rfl)) (PE.bin (PE.int ok) (PE.name rfl) (O.add ok)) (O.str_int ok (pF ht))) (ecr rfl rfl)) PL.nil)) ?_)
 refine (zO g (n:=n) (i:=0) (r:=aF) (l:=found.map fun x=>.qn 251 x) (xv:=.qn 251 (uh told cl)) (k:=kk) (p:=fun c=>match c with | .qn _ y=>slt (uh told cl) y | _=>false) rfl (by rw [az];lia) (by rw [az];exact hkk) (fun c hc env μ=>?_) (fun i c hc=>?_) _ _).mono fun av S' e=>?_
 ·refine o1_3 (aE.mp hc) fun y hy rf2=>?_;subst rf2;exact O.De g
 ·rw [aQ] at hc;refine o1_3 (aS.mp hc) fun y hy rf2=>?_;subst rf2;exact hpl i y hy
 obtain ⟨μ1,M1⟩:=S';refine o0_3 e fun e1 rf1 e3=>?_;clear e;subst rf1;obtain rfl:μ1=_:=e1;obtain rfl:M1=_:=e3;refine PE.then PE.nul ?_
 refine (O.iI ok rfl).mono (eq2 ?_);refine G1.mono T1.bool (eq2 ?_);rw [aq (by decide)]
 have eI:O.n8 (found.map fun x=>AV.qn 251 x) kk (.qn 251 (uh told cl))=(insLt slt (uh told cl) found).map fun x=>AV.qn 251 x:=by
  rw [eIns];unfold O.n8;simp [List.map_take,List.map_drop]
 rw [<- eI] at q;exact EX.nil (EX.nil q)
end
end Mine
namespace Mine
noncomputable def qnT:AV->Option AV
 | .qn _ y=>some (.str y)
 | _=>none
theorem rP:∀ l:List Str,(l.map fun x=>AV.qn 251 x).filterMap qnT=l.map .str
 | []=>rfl
 | x::l=>by rw [aU,cj (f:=qnT) (b:=.str x) rfl,rP l];rfl
noncomputable abbrev nk (sv:AV) (a aTi aW aB:Addr) (oQ:Obj) (late:Bool) (aN:Addr) (tl:List AV) (aF:Addr) (due:AV):List (Str×AV) :=
 [("script", sv),("cells", .raw (.ref a)),("hands", .tup wU),("texts", .tup uw),("pairs", .tup prV),("ties", .raw (.ref aTi)),("worth", .raw (.ref aW)),("both", .raw (.ref aB)),("cuts", .ob oQ []),
   ("late", .bool late),("names", .raw (.ref aN)),("tale", .lst tl),("found", .raw (.ref aF)),("due", due)]
section
variable {w:World} {mg mb:Str->Option Value} {Z:Frag} (g:GA w mg mb)
include g
theorem Bh {n:Nat} {L:Addr} {sv:AV} {a aTi aW aB aN aF aD:Addr} {oQ:Obj} {late:Bool} {tl:List AV} {ds:List Str} {M0:List (Addr×AO)} {P:AF->St->Prop} (hds:ds.length=4) (hn:ds.Nodup)
  (q:EX (CA w mg mb Z) (n+2) (jg w L) ⟨nk sv a aTi aW aB oQ late aN tl aF (.lst (ds.map .str)),(aF,.list ((gI slt ds).map fun x=>.qn 251 x))::M0⟩ [] P) :
  EX (CA w mg mb Z) (n+2) (jg w L) ⟨nk sv a aTi aW aB oQ late aN tl aF (.raw (.ref aD)),(aF,.list ((gI slt ds).map fun x=>.qn 251 x))::(aD,.list (ds.map .str))::M0⟩ ((zM w).drop 6) P:=by
 have ok:=okA (Z:=Z) g;have sl:sizeLine=16777216:=by decide
 have hfl:(gI slt ds).length=4:=by rw [(gQ _ _).length_eq,hds]
 have hfs:=kI hn;generalize hf:gI slt ds=fs at *;refine G.freeze (a:=aD) (l:=ds.map .str) (x := "due") rfl (M':=(aF,.list (fs.map fun x=>.qn 251 x))::M0) (e7.at 1 rfl (e7.refl _)) ?_
 refine EX.cons ?_;refine E1.ite (PT.then (b:=false) (PT.cmp (a:=.lst (fs.map .str)) (b:=.lst (fs.map .str)) ?_ ?_ (O.u9 ok)) ?_)
 ·refine EV.tM ok (l:=fs.map fun x=>.qn 251 x) (fc:=[(aF,.list (fs.map fun x=>.qn 251 x))]) (μc:=[]) (f:=qnT) ⟨rfl,by decide,rfl,by decide,by decide⟩ ?_ (by rw [az];lia)
  refine PE.then (PE.name rfl) ⟨f6.zJ (aj ..),fun p hp=>?_,fun L'=>Cap.nil,fun D acc L' x hx=>?_,?_⟩
  ·rw [ao.mp hp];exact aj ..
  ·refine o1_3 (aE.mp hx) fun y hy rf2=>?_;subst rf2;refine Step.some ?_;refine TG.loc ok ?_;refine CT.nil ⟨rfl,?_⟩;exact PE.then (PE.text g (PE.name rfl)) ⟨rfl,Le.pre (ν:=[("one", .qn 251 y)])⟩
  ·exact ⟨congrArg AV.lst (rP fs),rfl⟩
 ·refine PE.cast (PE.i6 (PE.gB rfl (g.non _ rfl) ((g.mb _ (by decide)).trans rfl)) (PL.cons (PE.name rfl) PL.nil) (O.sorted_strs ok (l:=ds) (by lia) (by lia))) ?_
  rw [<- hf];rfl
 rw [aq (by decide)]
 refine EX.nil ?_;refine EX.cons ?_;refine kG ok (l:=upto 0 4) (fun i S=>S=⟨nk sv a aTi aW aB oQ late aN tl aF (.lst (ds.map .str)),(aF,.list (fs.map fun x=>.qn 251 x))::M0⟩) (.name _ _) (PE.then (PE.jo (PE.gB rfl (g.non _ rfl) ((g.mb _ (by decide)).trans rfl)) (PE.int ok) (O.rN ok)) ⟨Iter.rng ok rfl,rfl⟩) ?_ ?_
 ·rintro i d7 b T hT hb rfl;refine o0_2 (by
   unfold upto at hb;rw [aQ] at hb;refine o1_3 (aS.mp hb) fun j hj rf2=>?_;subst rf2;refine o1_2 (aM.mp hj) fun h1 h2=>?_;simp at h1 h2;subst h2;exact ⟨congrArg AV.int (by simp),by lia⟩:b = .int (i:Nat)/\i<4) fun hbv hi=>?_
  subst hbv;refine o1_2 (⟨_,aX (by lia)⟩:∃ x,fs[i]? = some x) fun x hx=>?_
  have hat:=hfs.at_ hx;have hxm:(fs.map fun x=>AV.qn 251 x)[((i:Nat):Int).toNat]? = some (.qn 251 x):=by rw [bL,aQ,hx];rfl
  refine TG.loc ok ?_;refine EX.cons ?_;have etx:∀ {S:St} {p1 p2 p3 p4:Pos},S.μ.lookup ("found" : Str)=some (AV.raw (.ref aF))->S.μ.lookup ("k" : Str)=some (AV.int (i:Nat))->(aF,AO.list (fs.map fun x=>.qn 251 x)) ∈ S.M->PE (CA w mg mb Z) (n+2) (jg w L) S (.Attribute (.Subscript (.Name "found" p1) (.Name "k" p2) p3) "text" p4) (.str x):=by
   intro S p1 p2 p3 p4 h1 h2 h3;exact PE.text g (PE.sub (PE.name h1) (PE.name h2) (O.ju ok h3 (by lia) hxm (by lia)))
  have hL:=Af g (Z:=Z) (n:=n) (M:=(aF,.list (fs.map fun x=>.qn 251 x))::M0) (r:=aF) (l:=fs.map fun x=>.qn 251 x) (xv:=.str x) (k:=i) (p:=fun c=>match c with | .qn _ y=>slt y x | _=>false) (args:=[.raw (.ref aF),.str x]) (.inl rfl) (aj ..) (by rw [az];lia) (by rw [az];lia)
   (fun c hc env μ=>by refine o1_3 (aE.mp hc) fun y hy rf2=>?_;subst rf2;exact O.Dd g) (fun j c hc=>by
    rw [aQ] at hc;refine o1_3 (aS.mp hc) fun y hy rf2=>?_;subst rf2;exact (hat j y hy).1)
  have hR:=wo g (Z:=Z) (n:=n) (M:=(aF,.list (fs.map fun x=>.qn 251 x))::M0) (r:=aF) (l:=fs.map fun x=>.qn 251 x) (xv:=.str x) (k:=i+1) (p:=fun c=>match c with | .qn _ y=>slt x y | _=>false) (args:=[.raw (.ref aF),.str x]) (.inl rfl) (aj ..) (by rw [az];lia) (by rw [az];lia)
   (fun c hc env μ=>by refine o1_3 (aE.mp hc) fun y hy rf2=>?_;subst rf2;exact O.C9 g) (fun j c hc=>by
    rw [aQ] at hc;refine o1_3 (aS.mp hc) fun y hy rf2=>?_;subst rf2;exact (hat j y hy).2)
  refine E1.ite (PT.then (b:=false) (PT.cast (PT.or2 (PT.cmp (PE.j3 (PE.glob rfl (g.glo _ _ rfl)) (show (CA w mg mb Z).K.lookup 151=some _ from rfl) rfl (PL.cons (PE.name rfl) (PL.cons (etx rfl rfl (aj ..)) PL.nil)) hL) (PE.name rfl) (O.ne ok)) fun _=>PT.cmp (PE.j3 (PE.glob rfl (g.glo _ _ rfl)) (show (CA w mg mb Z).K.lookup 133=some _ from rfl) rfl (PL.cons (PE.name rfl) (PL.cons (etx rfl rfl (aj ..)) PL.nil)) hR) (PE.bin (PE.name rfl) (PE.int ok) (O.add ok)) (O.ne ok)) ?_) ?_)
  ·have:((i+1:Nat):Int)=(i:Int)+1:=rfl;rw [this];simp
  rw [aq (by decide)]
  exact EX.nil (EX.nil (hT .next _ ⟨_,Le.pre (μ:=nk sv a aTi aW aB oQ late aN tl aF (.lst (ds.map .str))) (ν:=[("k", .int (i:Nat))]),rfl⟩))
 ·rintro d7 rfl;exact q
end
end Mine
namespace Mine
noncomputable def Dh (w:World):List Stmt:=bodyOf ((qG w).getD 12 (.Pass default))
theorem jW (cl:List Nat) (x:Nat):Txt.contains (lets cl) (ltr x)=decide (x ∈ cl):=by
 have e:Txt.contains (lets cl) (ltr x)=decide (97+x ∈ (lets cl).cps.toList):=StrLaws.found_one _ _;rw [e];exact dK.mpr ⟨fun h=>by
  refine o1_3 (aE.mp (show 97+x ∈ cl.map fun j=>97+j from h)) fun y hy e=>?_;have:x=y:=by lia
  exact this▸hy,fun h=>show 97+x ∈ cl.map fun j=>97+j from aE.mpr ⟨x,h,rfl⟩⟩
theorem uu {x:Str} (h:rj x):(Txt.upper x).length=x.length:=by
 have:=congrArg List.length (oO h);rw [az,bG,bG] at this;exact this
theorem m9 {x:Str} (h:x.length<=1000):Builtin.Str.tooLong x.length=false:=by
 have sl:sizeLine=16777216:=by decide
 unfold Builtin.Str.tooLong;exact bB (by lia)
noncomputable abbrev ya (sv:AV) (a aTi aW aB:Addr) (oQ:Obj) (aN:Addr) (tl:List AV):List (Str×AV) :=
 [("script", sv),("cells", .raw (.ref a)),("hands", .tup wU),("texts", .tup uw),("pairs", .tup prV),("ties", .raw (.ref aTi)),("worth", .raw (.ref aW)),("both", .raw (.ref aB)),("cuts", .ob oQ []),("names", .raw (.ref aN)),("tale", .lst tl)]
noncomputable abbrev sM (sv:AV) (a aTi aW aB:Addr) (oQ:Obj) (aN:Addr) (tl:List AV) (oC:Obj) (o:List Nat) (told gH:AV):List (Str×AV) :=
 [("script", sv),("cells", .raw (.ref a)),("hands", .tup wU),("texts", .tup uw),("pairs", .tup prV),("ties", .raw (.ref aTi)),("worth", .raw (.ref aW)),("both", .raw (.ref aB)),("cuts", .ob oQ []),("names", .raw (.ref aN)),("tale", .lst tl),("crowds", .ob oC []),("order", .lst (o.map ltV)),("told", told),("white", gH)]
structure CV (Pf:Pth) (cl:List Nat) (lv:Nat) (ql:List Nat):Prop where
 last:Pf lv=lv::ql
 lt:lv<5
 great:∀ x,x<5->f9 (Txt.upper (dn (Pf x))) (great lv ql)=(decide (x ∈ cl) && decide (x≠lv))
 bare:∀ x,x<5->x ∈ cl->f9 (Txt.upper (dn (Pf x))) (dn (Pf lv))=decide (x=lv)
section
variable {w:World} {mg mb:Str->Option Value} {Z:Frag} (g:GA w mg mb)
include g
theorem PE.f9 {n:Nat} {env:Env} {S:St} {e1 e2:Expr} {p pos:Pos} {x y:Str} (hk:env.kindOf "domain_match" = some .globalImplicit) (hx:iz (Txt.lower x)) (hy:iz (Txt.slice (Txt.lower y) (some 1) none)) (zx:(Txt.lower x).length<=1000) (zy:(Txt.lower y).length<=1000)
  (h1:PE (CA w mg mb Z) (n+2) env S e1 (.str x)) (h2:PE (CA w mg mb Z) (n+2) env S e2 (.str y)) (he:starEach [e1,e2] env=(false,eval e1 env)::starEach [e2] env:=by rfl) (he2:starEach [e2] env=(false,eval e2 env)::starEach [] env:=by rfl) :
  PE (CA w mg mb Z) (n+2) env S (.Call (.Name "domain_match" p) [e1,e2] [] pos) (.bool (f9 x y)) :=
 PE.j3 (PE.glob hk (g.glo _ _ rfl)) (show (CA w mg mb Z).K.lookup 170=some _ from rfl) rfl (PL.cons h1 (PL.cons h2 PL.nil he2) he) (vW g hx hy zx zy) he
theorem x9 {n:Nat} {L:Addr} {sv:AV} {a aTi aW aB aN:Addr} {oQ oC:Obj} {tl:List AV} {o oa cl ql:List Nat} {lv:Nat} {told gH:AV} {cw:Cw} {Pf:Pth} {M0:List (Addr×AO)} {P:AF->St->Prop}
  (dC:DOb (CA w mg mb Z) (sK _) oC (cwL cw)) (ho:o=oa++[lv]) (hoz:o.length<=5) (acl:ie (cwL cw) (ltr lv)=some (.str (lets cl))) (F:CV Pf cl lv ql) (hh:∀ x,x<5->gV (Pf x)/\(Pf x).length<=5)
  (q:∀ μ',P .next ⟨sM sv a aTi aW aB oQ aN tl oC o told gH++μ',(aN,.eY (gD Pf))::M0⟩) :
  EX (CA w mg mb Z) (n+2) (jg w L) ⟨sM sv a aTi aW aB oQ aN tl oC o told gH,(aN,.eY (gD Pf))::M0⟩ (Dh w) P:=by
 have ok:=okA (Z:=Z) g;have sl:sizeLine=16777216:=by decide
 have eo:o.map ltV=oa.map ltV++[ltV lv]:=by rw [ho,bq];rfl
 obtain ⟨hl,hlt,hgr,hba⟩:=F;refine o0_2 (hh lv hlt) fun hHl hzl=>?_;have hq:gV ql:=fun x hx=>hHl x (by rw [hl];exact ai _ hx)
 have hqz:ql.length<=4:=by rw [hl] at hzl;simp at hzl;exact hzl
 have hnl:ie (gD Pf) (ltr lv)=some (.str (dn (lv::ql))):=by rw [jV hlt,hl]
 have hz1:=iX (lv::ql);have hz2:=qT ql;have hup:(Txt.upper (ltr lv)).length=1:=by rw [yL lv hlt];rfl
 refine EX.cons ?_;refine E1.loc ok ?_;refine PE.then (PE.sub (PE.name rfl) (show PE _ _ _ _ _ (.int (-((1:Nat):Int))) from PE.neg ok (PE.int ok)) (O.jQ ok (m:=1) (c:=ltV lv) (bF _) (by rw [eo];simp) (by rw [eo];exact kr) (by decide))) ?_
 refine EX.cons ?_;refine E1.loc ok ?_;refine PE.then (PE.cast (b:=.str (great lv ql)) (PE.bin (PE.bin (PE.str ok) (PE.upper ok (PE.name rfl) (m9 (by lia))) (O.adds ok ?_)) (sZ ok (PE.sub (PE.name rfl) (PE.name rfl) (O.k6 ok (sK _) (x:=ltr lv) (aj ..) hnl fun t u h=>rfl)) (PE.int ok) (by rw [hz1,sl];simp;lia)) (O.adds ok ?_)) ?_) ?_
 ·rw [hup,sl];decide
 ·rw [cU,hup,jT,hz2,sl];have:("." : Str).length=1:=by decide
  lia
 ·rw [jT];rfl
 refine EX.cons ?_;refine kG ok (l:=chars "abcde") (fun i S=>S=⟨sM sv a aTi aW aB oQ aN tl oC o told gH++([("last", .str (ltr lv)),("great", .str (great lv ql))]:List (Str×AV)),(aN,.eY (gD Pf))::M0⟩) (.name _ _) (PE.then (PE.str ok) ⟨Iter.str ok,rfl⟩) ?_ ?_
 ·rintro x d7 b T hT hx rfl;rw [qa,aQ] at hx;refine o1_3 (aS.mp hx) fun x' hx' rf2=>?_;subst rf2;have hx5:x<5/\x'=x:=by
   refine o1_2 (aM.mp hx') fun h1 h2=>?_;simp at h1 h2;lia
  refine o0_2 hx5 fun hx5 rf1=>?_;subst rf1;refine o0_2 (hh x' hx5) fun hHx hzx=>?_;have hg:=hgr x' hx5;have hb:=hba x' hx5;have fx:=iT hHx;have zx:=iX (Pf x');have lgr:=pR hlt hq;have zgr:(Txt.lower (great lv ql)).length<=1000:=by
   rw [lgr,cU,hz1];have:("." : Str).length=1:=by decide
   simp;lia
  have sgr:Txt.slice (Txt.lower (great lv ql)) (some 1) none=dn (lv::ql):=by
   rw [lgr];have e:("." ++ dn (lv::ql):Str).cps.toList=46::dnL (lv::ql):=by rw [cps_append];rfl
   exact uJ e
  have hHlq:gV (lv::ql):=hl▸hHl;have fl:=iT hHlq;have sdn:Txt.slice (Txt.lower (dn (lv::ql))) (some 1) none=ddn ql:=by rw [iF fl,jT]
  have eup:∀ {S:St} {p1 p2 p3 p4 p5:Pos},S.μ.lookup ("names" : Str)=some (AV.raw (.ref aN))->S.μ.lookup ("letter" : Str)=some (ltV x')->(aN,AO.eY (gD Pf)) ∈ S.M->(p4.endLine == p5.line)=true->PE (CA w mg mb Z) (n+2) (jg w L) S (.Call (.Attribute (.Subscript (.Name "names" p1) (.Name "letter" p2) p3) "upper" p4) [] [] p5) (.str (Txt.upper (dn (Pf x')))):=by
   intro S p1 p2 p3 p4 p5 h1 h2 h3 h4;exact PE.upper ok (PE.sub (PE.name h1) (PE.name h2) (O.k6 ok (sK _) (x:=ltr x') h3 (jV hx5) fun t u h=>rfl)) (m9 (by rw [uu fx];lia)) rfl h4
  have elt:(ltr x' != ltr lv)=decide (x'≠lv):=by
   by_cases e:x'=lv
   ·subst e;simp
   ·rw [bU e];simp;exact fun q=>e (je q)
  have eel:(ltr x' == ltr lv)=decide (x'=lv):=by
   by_cases e:x'=lv
   ·subst e;simp
   ·rw [bB e];simp;exact fun q=>e (je q)
  have ecr:∀ {S:St} {p1 p2 p3:Pos},S.μ.lookup ("crowds" : Str)=some (AV.ob oC [])->S.μ.lookup ("last" : Str)=some (AV.str (ltr lv))->PE (CA w mg mb Z) (n+2) (jg w L) S (.Subscript (.Name "crowds" p1) (.Name "last" p2) p3) (.str (lets cl)):=by
   intro S p1 p2 p3 h1 h2;exact PE.sub (PE.name h1) (PE.name h2) (O.nZ (sK _) dC acl (fun t u h=>rfl) ok)
  refine TG.loc ok ?_;refine EX.cons ?_;refine E1.loc ok ?_;refine PE.then (PE.cast (b:=.bool (decide (x' ∈ cl) && decide (x'≠lv))) (PE.BL (PE.cmp (PE.name rfl) (ecr rfl rfl) (O.ins ok)) fun _=>PE.cmp (PE.name rfl) (PE.name rfl) (O.nes ok)) (by rw [jW,elt])) ?_
  refine EX.cons ?_;refine E1.ite (PT.then (b:=false) (PT.cast (PT.cmp (PE.f9 g (n:=n) rfl (by rw [gw fx];exact gS fx) (by rw [sgr];exact gS fl) (by rw [gw fx];lia) zgr (eup rfl rfl (aj ..) rfl) (PE.name rfl)) (PE.name rfl) (O.jX ok)) (by rw [hg];simp)) ?_)
  rw [aq (by decide)]
  refine EX.nil ?_;refine EX.cons ?_;have hlast:∀ {S:St} {p1 p2 p3:Pos},S.μ.lookup ("names" : Str)=some (AV.raw (.ref aN))->S.μ.lookup ("last" : Str)=some (AV.str (ltr lv))->(aN,AO.eY (gD Pf)) ∈ S.M->PE (CA w mg mb Z) (n+2) (jg w L) S (.Subscript (.Name "names" p1) (.Name "last" p2) p3) (.str (dn (lv::ql))):=by
   intro S p1 p2 p3 h1 h2 h3;exact PE.sub (PE.name h1) (PE.name h2) (O.k6 ok (sK _) (x:=ltr lv) h3 hnl fun t u h=>rfl)
  refine E1.ite (PT.then (b:=false) (PT.cast (PT.BU (a:=decide (x' ∈ cl)) (b:=if x' ∈ cl then false else (f9 (Txt.upper (dn (Pf x'))) (dn (lv::ql)) != decide (x'=lv))) (PT.cast (PT.cmp (PE.name rfl) (ecr rfl rfl) (O.ins ok)) (jW cl x')) fun hin=>PT.cast (PT.cmp (PE.f9 g (n:=n) rfl (by rw [gw fx];exact gS fx) (by rw [sdn];exact gS (sP hq)) (by rw [gw fx];lia) (by rw [iF fl,hz1];simp;lia) (eup rfl rfl (aj ..) rfl) (hlast rfl rfl (aj ..))) (PE.cmp (PE.name rfl) (PE.name rfl) (O.eqs ok)) (O.jX ok)) ?_) ?_) ?_)
  ·have hin:=cG hin;rw [ay hin,eel,<- hl,hb hin];simp
  ·by_cases h:x' ∈ cl
   ·simp [h]
   ·simp [h]
  rw [aq (by decide)]
  exact EX.nil (EX.nil (hT .next _ ⟨_,Le.pre (μ:=sM sv a aTi aW aB oQ aN tl oC o told gH++([("last", .str (ltr lv)),("great", .str (great lv ql))]:List (Str×AV))) (ν:=[("letter", ltV x'),("lower", .bool (decide (x' ∈ cl) && decide (x'≠lv)))]),rfl⟩))
 ·rintro d7 rfl;exact EX.nil (q [("last", .str (ltr lv)),("great", .str (great lv ql))])
end
end Mine
namespace Mine
noncomputable def eF (T:Nat->Str) (x y:Nat):Str:=T (prI x y)
noncomputable def wNT (T:Nat->Str) (n:Nat):Nat:=(T n).length
section
variable (T:Nat->Str) (late:Bool) (P0:Pth)
noncomputable def lvT:Nat:=fX (eZ (eF T) late P0)
noncomputable def clT:List Nat:=e9 (g5 P0) (fX (eZ (eF T) late P0))
noncomputable def plT:Pcs:=oF (eF T) (e9 (g5 P0)) (eZ (eF T) late P0).dropLast (fX (eZ (eF T) late P0))
noncomputable def zZ:Str:=uh (eO (plT T late P0)) (clT T late P0)
structure BW:Prop where
 least:((eO (plT T late P0):Nat):Int) ∈ kP (wNT T) (maskOf [iy (eZ (eF T) late P0),fX (eZ (eF T) late P0)]) ((g5 P0).map fun c=>maskOf c.2) /\
  ∀ x ∈ kP (wNT T) (maskOf [iy (eZ (eF T) late P0),fX (eZ (eF T) late P0)]) ((g5 P0).map fun c=>maskOf c.2),((eO (plT T late P0):Nat):Int)<=x
 gH:iE 0 (plT T late P0)=m8 T (maskOf (clT T late P0))
 small:eO (plT T late P0)<=200
end
theorem ko:∀ {l:List Nat},l.Nodup->(∀ x ∈ l,x<5)->maskOf l<32:=fun {l} hn h=>by
 have h1:∀ (l:List Nat),l.Nodup->(∀ x ∈ l,x<5)->maskOf l<=maskOf (List.range 5):=by
  intro l hn h;have hp:(l++(List.range 5).filter fun x=>!decide (x ∈ l)).Perm (List.range 5):=by
   refine (List.perm_ext_iff_of_nodup ?_ List.nodup_range).mpr fun a=>?_
   ·exact aJ.mpr ⟨hn,List.nodup_range.filter _,fun a ha b hb e=>by
     subst e;simp at hb;exact hb.2 ha⟩
   ·simp only [au,cH,aL];constructor
    ·rintro (q | q)
     ·exact h a q
     ·exact q.1
    ·intro q;by_cases z:a ∈ l
     ·exact .inl z
     ·exact .inr ⟨q,by simp [z]⟩
  have e:maskOf (List.range 5)=maskOf (l++(List.range 5).filter fun x=>!decide (x ∈ l)):=by
   unfold maskOf;exact ((hp.map fun j=>2 ^ j).sum_nat).symm
  rw [e];unfold maskOf;rw [bq,cS];exact Nat.le_add_right ..
 exact Nat.lt_of_le_of_lt (h1 l hn h) (by decide)
theorem A7:dfold (fun a=>match a with | .str x=>(x,AV.str (x ++ ".local")) | _=>("", AV.none)) (chars "abcde")=gD fun x=>[x]:=by
 rw [qa,mz]
 ·unfold gD;rw [br];refine bh fun x hx=>?_;show (ltr x,AV.str (ltr x ++ ".local"))=(ltr x,AV.str (dn [x]))
  have:ltr x ++ ".local" = dn [x]:=by
   apply Str.ext';rw [cps_append];rfl
  rw [this]
 ·rw [br];decide
noncomputable def gE (T:Nat->Str) (late:Bool) (k:Nat):List Str:=(List.range k).map fun i=>zZ T late (fR (eF T) late i)
theorem nC (T:Nat->Str) (late:Bool) (k:Nat):gE T late (k+1)=gE T late k++[zZ T late (fR (eF T) late k)]:=by unfold gE;rw [dz,bq];rfl
noncomputable abbrev iS (aB aTi aW a:Addr) (T:Nat->Str) (cl:List AV):List (Addr×AO):=[(aB,.eY oB),(aTi,.eY (prD (fun n=>.str (T n)) 10)),(aW,.eY (prD (fun n=>.int (wNT T n:Nat)) 10)),(a,.list cl)]
noncomputable abbrev Dg (sv:AV) (a aTi aW aB:Addr) (oQ:Obj) (late:Bool) (aN:Addr) (tl:List AV):List (Str×AV) :=
 [("script", sv),("cells", .raw (.ref a)),("hands", .tup wU),("texts", .tup uw),("pairs", .tup prV),("ties", .raw (.ref aTi)),("worth", .raw (.ref aW)),("both", .raw (.ref aB)),("cuts", .ob oQ []),("late", .bool late),("names", .raw (.ref aN)),("tale", .lst tl)]
section
variable {w:World} {mg mb:Str->Option Value} {Z:Frag} (g:GA w mg mb)
include g
theorem se {n:Nat} {L:Addr} {sv:AV} {a aTi aW aB:Addr} {oQ:Obj} {late:Bool} {T:Nat->Str} {cv:List AV} {c1 c2:jN} {P:AF->St->Prop}
  (dQ:DOb (CA w mg mb Z) (iK _) oQ (i0 (wNT T) 15)) (hT:∀ n,n<10->(T n).length<=11) (h1:fD gR c1) (h2:fD lK c2) (HP:∀ i,i<4->BW T late (fR (eF T) late i)) (HN:(gE T late 4).Nodup)
  (q:∀ aN tl μ' c1' c2',mK (CA w mg mb Z) (eF T) late 4 tl->fD gR c1'->fD lK c2' ->
   EX (CA w mg mb Z) (n+6) (jg w L) ⟨Dg sv a aTi aW aB oQ late aN tl++μ',
    (aN,.eY (gD (fR (eF T) late 4)))::(iS aB aTi aW a T cv++(fH 311 c1'++fH 321 c2'))⟩ [] P) :
  EX (CA w mg mb Z) (n+6) (jg w L) ⟨pJ sv a aTi aW aB oQ++([("late", .bool late)]:List (Str×AV)),iS aB aTi aW a T cv++(fH 311 c1++fH 321 c2)⟩ (zM w) P:=by
 have ok:=okA (Z:=Z) g;have sl:sizeLine=16777216:=by decide
 refine EX.cons ?_;refine rt (sK _) ok (l:=chars "abcde") (fc:=[]) (μc:=[]) (f:=fun a=>match a with | .str x=>(x,AV.str (x ++ ".local")) | _=>("", AV.none)) ⟨rfl,by decide,rfl,by decide,by decide⟩ (PE.then (PE.str ok) ⟨f6.of (.name _ _) (Iter.str ok),fun p hp=>(nomatch hp),fun L'=>Cap.nil,fun D acc L' x hx=>?_,fun aN=>?_⟩) (by decide)
 ·rw [qa] at hx;refine o1_3 (aE.mp hx) fun j hj rf2=>?_;subst rf2;refine TG.loc ok ?_;refine PE.then (PE.name rfl) ⟨rfl,PE.then (PE.bin (PE.name rfl) (PE.str ok) (O.adds ok ?_)) ⟨rfl,Le.pre (ν:=[("letter", ltV j)])⟩⟩
  rw [sl];have e1:(ltr j).length=1:=rfl;have e2:(".local" : Str).length=6:=by decide
  lia
 rw [A7];refine EX.cons ?_;refine E1.loc ok ?_;refine G.jb (M':=(aN,.eY (gD fun x=>[x]))::(fH 311 c1++(iS aB aTi aW a T cv++fH 321 c2))) (e7.at 0 rfl (e7.mid (fH 311 c1) (iS aB aTi aW a T cv) (e7.refl _))) ?_;refine EV.j3 (PE.glob rfl (g.glo _ _ rfl)) (show (CA w mg mb Z).K.lookup 314=some _ from rfl) rfl (PL.then (PL.cons (PE.name rfl) (PL.cons (PE.name rfl) (PL.cons (PE.name rfl) PL.nil))) (((AL g (n:=n) (late:=late) (aTi:=aTi) (aN:=aN) (tl:=prD (fun n=>.str (T n)) 10) (tie:=eF T) (cs:=c1) (R:=iS aB aTi aW a T cv++fH 321 c2) (af _ (ai _ (aj ..))) h1 (fun x y hx hy hxy=>⟨nW _ hx hy hxy,hT _ (o8 x hx y hy hxy).1⟩)).on fun av M1 zz=>?_)))
 refine o2_6 zz fun tl c1' rf3 htl h1' e3=>?_;clear zz;subst rf3;subst e3;refine EX.cons (E1.ite ((PT.cmp (PE.name rfl) PE.nul (O.fY ok rfl)).then ?_))
 rw [aq (by decide)]
 refine EX.nil ?_;refine EX.cons ?_;refine E1.loc ok ?_;refine EV.qE ok (EL.nil ⟨by decide,fun aF=>?_⟩)
 refine EX.cons ?_;refine E1.loc ok ?_;refine EV.qE ok (EL.nil ⟨by decide,fun aD=>?_⟩)
 refine G.jb (M':=(aF,.list [])::(aD,.list [])::(fH 321 c2++((aN,.eY (gD (fR (eF T) late 4)))::(iS aB aTi aW a T cv++fH 311 c1')))) ?hsub ?_
 case hsub =>
  refine e7.last (e7.last (M:=(aD,.list [])::(aN,.eY (gD (fR (eF T) late 4)))::(fH 311 c1'++(iS aB aTi aW a T cv++fH 321 c2))) (p:=(aF,.list [])) (e7.at 0 rfl (e7.at 0 rfl (.of (R:=[]) ?_))));rw [bf];refine aZ.trans (List.Perm.cons _ ?_);rw [<- aH];exact List.Perm.append_right _ aZ
 have hRM:∀ {x},x ∈ iS aB aTi aW a T cv->∀ {y:Addr×AO},x ∈ y::(iS aB aTi aW a T cv++fH 311 c1'):=fun h _=>ai _ (af _ h);generalize hR6:(aN,AO.eY (gD (fR (eF T) late 4)))::(iS aB aTi aW a T cv++fH 311 c1')=R6 at *;have mB:(aB,AO.eY oB) ∈ R6:=by rw [<- hR6];exact hRM (aj ..)
 have mT:(aTi,AO.eY (prD (fun n=>.str (T n)) 10)) ∈ R6:=by rw [<- hR6];exact hRM (ai _ (aj ..))
 have mW:(aW,AO.eY (prD (fun n=>.int (wNT T n:Nat)) 10)) ∈ R6:=by rw [<- hR6];exact hRM (ai _ (ai _ (aj ..)))
 refine EX.cons ?_;refine ig ok (l:=tl) (fc:=[]) (fun i S=>∃ c2',fD lK c2'/\S=⟨nk sv a aTi aW aB oQ late aN tl aF (.raw (.ref aD)),(aF,.list ((gI slt (gE T late i)).map fun x=>.qn 251 x))::(aD,.list ((gE T late i).map .str))::(fH 321 c2'++R6)⟩) ?_ (fun _ _ _ _ h=>nomatch h) ?_ ?_
 ·exact PE.then (PE.name rfl) ⟨f6.of (.tuple _ _ _) (Iter.lst ok),c2,h2,rfl⟩
 ·intro i d7 x T2 hT2 hx hz;refine o1_3 hz fun c3 h3 rf2=>?_;clear hz;subst rf2;have hi4:i<4:=by
   have:=(aM.mp hx).1;rw [htl.1] at this;exact this
  refine o1_3 (htl.2 i hi4) fun oC dC hx'=>?_;rw [hx] at hx';obtain rfl:=bE hx';have K:=gv (tie:=eF T) (late:=late) i (by lia)
  have F:=HP i hi4;have hdn:(gE T late (i+1)).Nodup:=by
   have:(gE T late 4).take (i+1)=gE T late (i+1):=by
    unfold gE;rw [<- List.map_take,List.take_range];congr 2;lia
   rw [<- this];exact HN.sublist (List.take_sublist ..)
  rw [nC] at hdn;have hdn':=(aJ.mp hdn).1;have hdl:(gE T late i).length=i:=by simp [gE]
  have esnoc:=tw (gE T late i) (zZ T late (fR (eF T) late i));have edue:=nC T late i;generalize fR (eF T) late i=P0 at *;refine o1_2 (K.split (tie:=eF T) (late:=late) hi4) fun oa ho=>?_;refine o0_3 (K.ends (tie:=eF T) (late:=late) hi4) fun he1 he2 he3=>?_;have hol:(eZ (eF T) late P0).length=5 - i:=by rw [(K.gq (tie:=eF T) (late:=late)).length_eq,K.cnt]
  have hcl:=K.r9;have ho2:eZ (eF T) late P0=(oa++[iy (eZ (eF T) late P0)])++[fX (eZ (eF T) late P0)]:=by
   conv=>lhs;rw [ho]
   simp
  have hc5:∀ x ∈ clT T late P0,x<5:=fun x hx=>(gb.mp hx).1;have hcn:(clT T late P0).Nodup:=by unfold clT;rw [kU];exact List.nodup_range.filter _
  have hc0:clT T late P0≠[]:=fun e=>by
   have:fX (eZ (eF T) late P0) ∈ clT T late P0:=gb.mpr ⟨K.lt he2,(K.self he2).2⟩;rw [e] at this;cases this
  have hcw:∀ c ∈ g5 P0,c.2.length<=5/\(∀ x ∈ c.2,x<5)/\c.2.Nodup:=fun c hc=>by
   have e:=sQ fU hc;rw [<- e];exact ⟨mE,fun x hx=>(gb.mp hx).1,by rw [kU];exact List.nodup_range.filter _⟩
  refine TG.four ok rfl rfl rfl rfl ?_;refine G.jb (M':=fH 321 c3++((aF,.list ((gI slt (gE T late i)).map fun x=>.qn 251 x))::(aD,.list ((gE T late i).map .str))::R6)) (e7.mid (fH 321 c3) [(aF,.list ((gI slt (gE T late i)).map fun x=>.qn 251 x)),(aD,.list ((gE T late i).map .str))] (e7.refl _)) ?_;refine AD g (n:=n+2) (tie:=eF T) (wl:=prD (fun n=>.int (wNT T n:Nat)) 10) (told:=eO (plT T late P0)) (gH:=iE 0 (plT T late P0)) K h3 (ai _ (ai _ mW)) dC (fun x y hx hy hxy=>nW _ hx hy hxy) fun c4 h4=>?_;refine G.jb (M':=(aF,.list ((gI slt (gE T late i)).map fun x=>.qn 251 x))::(aD,.list ((gE T late i).map .str))::(fH 321 c4++R6)) (e7.mid [(aF,.list ((gI slt (gE T late i)).map fun x=>.qn 251 x)),(aD,.list ((gE T late i).map .str))] (fH 321 c4) (e7.refl _)) ?_;refine AB g (n:=n+5) dC (by lia) (fun c hc=>⟨(hcw c hc).1,(hcw c hc).2.1⟩) ho (K.lt he1) (K.lt he2) (by lia) ?_
  have hE:maskOf [iy (eZ (eF T) late P0),fX (eZ (eF T) late P0)]<32:=ko (by simp;exact he3) fun x hx=>by
   simp at hx;rcases hx with rfl | rfl
   ·exact K.lt he1
   ·exact K.lt he2
  have hws:∀ m ∈ (g5 P0).map fun c=>maskOf c.2,m<32:=fun m hm=>by
   refine o1_3 (aE.mp hm) fun c hc rf2=>?_;subst rf2;exact ko (hcw c hc).2.2 (hcw c hc).2.1
  have hwz:((g5 P0).map fun c=>maskOf c.2).length<=5:=by rw [az];lia
  have hle:=F.least;have hwh:=F.gH;have hsm:=F.small;have hcs5:=ko hcn hc5;generalize maskOf [iy (eZ (eF T) late P0),fX (eZ (eF T) late P0)]=E at *;generalize ((g5 P0).map fun c=>maskOf c.2)=ws at *;refine AA g (n:=n+5) (v:=eO (plT T late P0)) (E:=E) (ws:=ws) (wN:=wNT T) dQ hE hws hwz hle.1 hle.2 ?_;refine Az g (n:=n+5) (T:=T) (cl:=clT T late P0) dC ho2 (by lia) (mD he2) hc5 mE (ai _ (ai _ (aa _ mB))) (ai _ (ai _ (aa _ mT))) hcs5 rfl hwh fun sol=>?_
  refine Ay g (n:=n+3) (cl:=clT T late P0) (found:=gI slt (gE T late i)) dC ho2 (by lia) (mD he2) mE hc0 hsm (by rw [(gQ _ _).length_eq];lia) (by rw [az];lia) (kI hdn') ?_
  refine hT2 .next _ ⟨_,Le.pre (μ:=nk sv a aTi aW aB oQ late aN tl aF (.raw (.ref aD))) (ν:=([("crowds", .ob oC []),("order", .lst ((eZ (eF T) late P0).map ltV)),("told", .int (eO (plT T late P0):Nat)),("white", .bool (iE 0 (plT T late P0)))]:List (Str×AV))++rZ ws E (eO (plT T late P0)) (maskOf (clT T late P0)) sol),c4,h4,?_⟩
  rw [edue,esnoc,bq]
  rfl
 ·intro d7 hz;refine o1_3 hz fun c3 h3 rf2=>?_;clear hz;subst rf2;rw [htl.1];refine Bh g (n:=n+4) (ds:=gE T late 4) (by simp [gE]) HN ?_
  refine G.jb (M':=(aN,.eY (gD (fR (eF T) late 4)))::(iS aB aTi aW a T cv++(fH 311 c1'++fH 321 c3))) (e7.drop (.of (R:=[]) ?_)) ?_
  ·rw [bf,<- hR6];have e:(aN,AO.eY (gD (fR (eF T) late 4)))::(iS aB aTi aW a T cv++(fH 311 c1'++fH 321 c3))=((aN,AO.eY (gD (fR (eF T) late 4)))::(iS aB aTi aW a T cv++fH 311 c1'))++fH 321 c3:=rfl;rw [e];exact aZ
  ·exact (q aN tl [("found", .raw (.ref aF)),("due", .lst ((gE T late 4).map .str))] c1' c3 htl h1' h3)
end
end Mine
namespace Mine
structure wK (T:Nat->Str):Prop where
 turn:∀ late i,i<4->BW T late (fR (eF T) late i)
 due:∀ late,(gE T late 4).Nodup
 fin:∀ i,i<4->∃ ql,CV (fR (eF T) true 4) (clT T true (fR (eF T) true i)) (lvT T true (fR (eF T) true i)) ql
theorem Bb {A B D:List (Str×AV)} {k x:Str} {v av:AV} (hk:(A++B).lookup k=none) (h:(A++B).lookup x=some av):((A++(k,v)::B)++D).lookup x=some av:=by
 rw [cN];have:(A++(k,v)::B).lookup x=some av:=by
  rw [cN] at h ⊢;rw [bz];cases e:x == k with
  | true =>
    rw [cI.mp e,<- cN,hk] at h;cases h
  | false=>exact h
 rw [this];rfl
section
variable {w:World} {mg mb:Str->Option Value} {Z:Frag} (g:GA w mg mb)
include g
theorem Be {n:Nat} {L:Addr} {sv:AV} {a aTi aW aB:Addr} {oQ:Obj} {T:Nat->Str} {cv:List AV} {c1 c2:jN} {P:AF->St->Prop}
  (dQ:DOb (CA w mg mb Z) (iK _) oQ (i0 (wNT T) 15)) (hT:∀ n,n<10->(T n).length<=11) (h1:fD gR c1) (h2:fD lK c2) (PF:wK T)
  (q:∀ S' c3 c4,(∀ p ∈ fH 311 c3++fH 321 c4,p ∈ S'.M)->P (.ret (.bool true)) S') :
  EX (CA w mg mb Z) (n+6) (jg w L) ⟨pJ sv a aTi aW aB oQ,iS aB aTi aW a T cv++(fH 311 c1++fH 321 c2)⟩ ((qG w).drop 11) P:=by
 have ok:=okA (Z:=Z) g;refine EX.cons ?_;refine ig ok (l:=[.bool false,.bool true]) (fc:=[]) (fun i S=>∃ c1' c2',fD gR c1'/\fD lK c2'/\if i<2 then S=⟨pJ sv a aTi aW aB oQ,iS aB aTi aW a T cv++(fH 311 c1'++fH 321 c2')⟩ else
  ∃ aN tl,mK (CA w mg mb Z) (eF T) true 4 tl/\S=⟨ya sv a aTi aW aB oQ aN tl,(aN,.eY (gD (fR (eF T) true 4)))::(iS aB aTi aW a T cv++(fH 311 c1'++fH 321 c2'))⟩) ?_ (fun _ _ _ _ h=>nomatch h) ?_ ?_
 ·refine PE.then (PE.tuple ok (PL.cons PE.bool (PL.cons PE.bool PL.nil)) (by simp only [bg,bO];decide)) ⟨f6.of (.name _ _) (Iter.tup ok),c1,c2,h1,h2,?_⟩
  rw [ay (by decide)]
 ·intro i d7 x T2 hT2 hx hz;refine o2_5 hz fun c3 c4 h3 h4 hS=>?_;clear hz;have hi2:i=0/\x = .bool false\/i=1/\x = .bool true:=two_at hx;rcases hi2 with ⟨rfl,rfl⟩ | ⟨rfl,rfl⟩
  ·rw [ay (by decide)] at hS
   subst hS;refine TG.loc ok ?_;refine se g (late:=false) dQ hT h3 h4 (PF.turn false) (PF.due false) fun aN tl μ' c5 c6 htl h5 h6=>?_;refine G.jb (M':=iS aB aTi aW a T cv++(fH 311 c5++fH 321 c6)) (e7.drop (e7.refl _)) ?_;refine EX.nil (hT2 .next _ ⟨_,Le.pre (μ:=pJ sv a aTi aW aB oQ) (ν:=([("late", .bool false),("names", .raw (.ref aN)),("tale", .lst tl)]:List (Str×AV))++μ'),c5,c6,h5,h6,?_⟩)
   rw [ay (by decide)]
  ·rw [ay (by decide)] at hS
   subst hS;refine TG.loc ok ?_;refine se g (late:=true) dQ hT h3 h4 (PF.turn true) (PF.due true) fun aN tl μ' c5 c6 htl h5 h6=>?_;refine EX.nil (hT2 .next _ ⟨⟨ya sv a aTi aW aB oQ aN tl,(aN,.eY (gD (fR (eF T) true 4)))::(iS aB aTi aW a T cv++(fH 311 c5++fH 321 c6))⟩,⟨rfl,?_⟩,c5,c6,h5,h6,?_⟩)
   ·exact fun y av h=>Bb (A:=[("script", sv),("cells", .raw (.ref a)),("hands", .tup wU),("texts", .tup uw),("pairs", .tup prV),("ties", .raw (.ref aTi)),("worth", .raw (.ref aW)),("both", .raw (.ref aB)),("cuts", .ob oQ [])]) (B:=[("names", .raw (.ref aN)),("tale", .lst tl)]) (k := "late") (v:=.bool true) (D:=μ') rfl h
   ·rw [aq (by decide)]
    exact ⟨aN,tl,htl,rfl⟩
 ·intro d7 hz;refine o2_5 hz fun c3 c4 h3 h4 hS=>?_;clear hz;rw [aq (by decide)] at hS
  refine o2_4 hS fun aN tl htl rf3=>?_;clear hS;subst rf3;have K4:=gv (tie:=eF T) (late:=true) 4 (bF _);refine EX.cons ?_;refine ig ok (l:=tl) (fc:=[]) (fun i S=>S=⟨ya sv a aTi aW aB oQ aN tl,(aN,.eY (gD (fR (eF T) true 4)))::(iS aB aTi aW a T cv++(fH 311 c3++fH 321 c4))⟩) ?_ (fun _ _ _ _ h=>nomatch h) ?_ ?_
  ·exact PE.then (PE.name rfl) ⟨f6.of (.tuple _ _ _) (Iter.lst ok),rfl⟩
  ·rintro i d7 x T2 hT2 hx rfl;have hi4:i<4:=by
    have:=(aM.mp hx).1;rw [htl.1] at this;exact this
   refine o1_3 (htl.2 i hi4) fun oC dC hx'=>?_;rw [hx] at hx';obtain rfl:=bE hx';have K:=gv (tie:=eF T) (late:=true) i (by lia)
   refine o1_2 (PF.fin i hi4) fun ql F=>?_;generalize fR (eF T) true i=P0 at *;refine o1_2 (K.split (tie:=eF T) (late:=true) hi4) fun oa ho=>?_;refine o0_3 (K.ends (tie:=eF T) (late:=true) hi4) fun he1 he2 he3=>?_;have hol:(eZ (eF T) true P0).length=5 - i:=by rw [(K.gq (tie:=eF T) (late:=true)).length_eq,K.cnt]
   have ho2:eZ (eF T) true P0=(oa++[iy (eZ (eF T) true P0)])++[fX (eZ (eF T) true P0)]:=by
    conv=>lhs;rw [ho]
    simp
   refine TG.four ok rfl rfl rfl rfl ?_;refine x9 g (n:=n+4) (cl:=clT T true P0) (lv:=lvT T true P0) dC ho2 (by lia) (mD he2) F (fun x hx=>⟨K4.n9 x hx,K4.len x hx⟩) fun μ'=>?_
   exact hT2 .next _ ⟨_,Le.pre (μ:=ya sv a aTi aW aB oQ aN tl) (ν:=([("crowds", .ob oC []),("order", .lst ((eZ (eF T) true P0).map ltV)),("told", _),("white", _)]:List (Str×AV))++μ'),rfl⟩
  ·rintro d7 rfl;exact EX.cons (E1.ret (PE.bool.then (q _ c3 c4 fun p hp=>ai _ (aa _ hp))))
theorem Bd {n:Nat} {L:Addr} {xs:List Int} {P:AF->St->Prop} (PF:∀ c0 c1,wK fun n=>uA (fgN c0 c1) n) (q:∀ S' c3 c4,(∀ p ∈ fH 311 c3++fH 321 c4,p ∈ S'.M)->P (.ret (.bool true)) S') :
  EX (CA w mg mb Z) (n+6) (jg w L) ⟨[("script", .lst (xs.map .int))],fH 311 []++fH 321 []⟩ (qG w) P:=by
 refine CB g fun a c0 c1=>?_;refine Cz g fun aTi aW=>?_;refine Cy g (n:=n+4) ?_;refine Cv g (n:=n+5) fun aB aC=>?_;refine Bf g (wN:=wNT fun n=>uA (fgN c0 c1) n) (aj ..) (ai _ (ai _ (aj ..))) fun oQ dQ=>?_;refine Be g (n:=n) (T:=fun n=>uA (fgN c0 c1) n) (c1:=[]) (c2:=[]) (cv:=[.int c0,.int c1]) dQ (fun n hn=>?_) (fun x hx=>nomatch hx) (fun x hx=>nomatch hx) (PF c0 c1) q;refine o0_2 (sN c0 c1 n) fun _ h=>?_;exact (rI (fgN c0 c1 n / 5) (by lia) (fgN c0 c1 n % 5) (by lia)).2
end
end Mine
end
section
set_option tactic.hygienic false
namespace Mine
noncomputable def pairSum (f:Nat->Nat->Nat):List Nat->Nat
 | []=>0
 | x::l=>(l.map (f x)).sum+pairSum f l
noncomputable def wl (W:Nat->Nat->Nat) (L:List Nat) (u:Nat):Nat:=(L.map fun x=>W x u).sum
theorem lB (W:Nat->Nat->Nat) (A B:List Nat) (u:Nat):wl W (A++B) u=wl W A u+wl W B u:=by
 unfold wl;rw [bq,cS]
theorem iu (f:Nat->Nat->Nat):∀ (L:List Nat) (u:Nat),pairSum f (L++[u])=pairSum f L+wl f L u
 | [],u=>rfl
 | x::L,u=>by
   show ((L++[u]).map (f x)).sum+pairSum f (L++[u])=((L.map (f x)).sum+pairSum f L)+((x::L).map fun y=>f y u).sum;rw [iu f L u,bq,cS,aU,bD];show (L.map (f x)).sum+[f x u].sum+(pairSum f L+(L.map fun y=>f y u).sum)=_;simp;omega
theorem lQ (f:Nat->Nat->Nat):∀ (B A:List Nat),pairSum f A<=pairSum f (A++B)
 | [],A=>by simp
 | u::B,A=>by
   have:=lQ f B (A++[u]);rw [iu,aH] at this;simp at this;omega
noncomputable def mV (W:Nat->Nat->Nat) (S:Nat->Bool) (u v:Nat):Nat:=if S u=S v then 0 else W u v
theorem uq (W:Nat->Nat->Nat) (S:Nat->Bool) (u:Nat):∀ L:List Nat,(∀ y ∈ L,S y≠S u)->wl (mV W S) L u=wl W L u
 | [],_=>rfl
 | y::L,h=>by
   have ih:=uq W S u L fun z hz=>h z (ai _ hz);unfold wl at *;rw [aU,aU,bD,bD,ih];have:mV W S y u=W y u:=aq (h y (aj ..));rw [this]
noncomputable def ua (W:Nat->Nat->Nat) (S:Nat->Bool) (L rest:List Nat):Prop :=
 ∃ L1 v L2,L=L1++v::L2/\(∀ y ∈ L2,S y=S v)/\∀ u ∈ rest,wl W L1 u<=pairSum (mV W S) (L1++[v])
theorem rW {W:Nat->Nat->Nat} {S:Nat->Bool} {L1 L2:List Nat} {v u:Nat} (hs:∀ y ∈ L2,S y=S v) (hu:S v≠S u) (h:wl W L1 u<=pairSum (mV W S) (L1++[v])):wl W (L1++v::L2) u<=pairSum (mV W S) ((L1++v::L2)++[u]):=by
 rw [iu,lB,lB];have h1:pairSum (mV W S) (L1++[v])<=pairSum (mV W S) (L1++v::L2):=by
  have:=lQ (mV W S) L2 (L1++[v]);rw [aH] at this;exact this
 have h2:wl (mV W S) (v::L2) u=wl W (v::L2) u:=uq W S u _ fun y hy=>by
  rcases aG.mp hy with rfl | hy
  ·exact hu
  ·rw [hs y hy];exact hu
 omega
theorem zC {W:Nat->Nat->Nat} {S:Nat->Bool} {L rest:List Nat} {u:Nat} (h:ua W S L (u::rest)) (ma:∀ u' ∈ rest,wl W L u'<=wl W L u):ua W S (L++[u]) rest:=by
 obtain ⟨L1,v,L2,rfl,hs,hb⟩:=h;by_cases e:S v=S u
 ·refine ⟨L1,v,L2++[u],by simp,fun y hy=>?_,fun u' hu'=>hb u' (ai _ hu')⟩
  rcases au.mp hy with hy | hy
  ·exact hs y hy
  ·rw [ao.mp hy];exact e.symm
 ·have hc:=rW hs e (hb u (aj ..));exact ⟨L1++v::L2,u,[],rfl,fun y hy=>(nomatch hy),fun u' hu'=>bC (ma u' hu') hc⟩
noncomputable def yZ (W:Nat->Nat->Nat) (o:List Nat):Prop:=∀ d v r,o=d++v::r->∀ u ∈ r,wl W d u<=wl W d v
theorem phase {W:Nat->Nat->Nat} {S:Nat->Bool} {a:List Nat} {p l:Nat} (ma:yZ W (a++[p,l])) (hS:S p≠S l):wl W (a++[p]) l<=pairSum (mV W S) (a++[p,l]):=by
 have go:∀ (r d:List Nat),a++[p,l]=d++r->d≠[]->ua W S d r->ua W S (d++r.dropLast) (r.drop (r.length - 1)):=by
  intro r;induction r with
  | nil=>intro d e hd h;simpa using h
  | cons u r ih =>
    intro d e hd h;cases r with
    | nil=>simpa using h
    | cons u2 r =>
      have h2:=zC h fun u' hu'=>ma d u (u2::r) e u' hu';have:=ih (d++[u]) (by rw [e];simp) (by simp) h2
      have e3:(u::u2::r).drop ((u::u2::r).length - 1)=(u2::r).drop ((u2::r).length - 1):=by simp
      rw [e3];have e4:d++(u::u2::r).dropLast=(d++[u])++(u2::r).dropLast:=by simp
      rw [e4];exact this
 have start:ua W S (a++[p]) [l]:=by
  cases a with
  | nil=>exact ⟨[],p,[],rfl,fun y hy=>(nomatch hy),fun u hu=>bR _⟩
  | cons v a =>
    have h0:ua W S [v] (a++[p,l]):=⟨[],v,[],rfl,fun y hy=>(nomatch hy),fun u hu=>bR _⟩;have:=go (a++[p,l]) [v] rfl (by simp) h0
    have e1:(a++[p,l]).dropLast=a++[p]:=by
     rw [List.dropLast_append_of_ne_nil (by simp)];rfl
    have e2:(a++[p,l]).drop ((a++[p,l]).length - 1)=[l]:=by
     have:(a++[p,l]).length - 1=(a++[p]).length:=by simp
     rw [this,show a++[p,l]=(a++[p])++[l] by simp,List.drop_left]
    rw [e1,e2] at this;exact this
 obtain ⟨L1,v,L2,e,hs,hb⟩:=start;have hp:S p=S v:=by
  have e1:v::L2=(v::L2).dropLast++[(v::L2).getLast (by simp)]:=(List.dropLast_concat_getLast (by simp)).symm
  have hm:p ∈ v::L2:=by
   rw [e1,<- aH] at e;have:=(List.append_inj' e rfl).2;simp only [List.cons.injEq,and_true] at this;rw [this];exact List.getLast_mem _
  rcases aG.mp hm with h | h
  ·rw [h]
  ·exact hs p h
 have:=rW (u:=l) hs (by rw [<- hp];exact hS) (hb l (aj ..))
 rw [<- e] at this;simpa using this
end Mine
end
section
open PySem PySem.W PySem.Calls PyProof.Rows
set_option tactic.hygienic false
namespace Mine
theorem oV (kf:Nat->Nat) (l:List Nat):gk kf (gI (tO kf) l):=by
 have:∀ (l acc:List Nat),gk kf acc->gk kf (l.foldl (fun acc x=>insLt (tO kf) x acc) acc):=by
  intro l;induction l with
  | nil=>intro acc h;exact h
  | cons a l ih=>intro acc h;exact ih _ (l9 true kf a h)
 exact this l [] List.Pairwise.nil
theorem yJ {W:Nat->Nat->Nat} {late:Bool}:∀ (n:Nat) (row:List Nat) (t:Nat->Nat) (done:List Nat),row.length=n->gk t row->(∀ u ∈ row,t u=wl W done u) ->
  ∀ d v r,kY W late n row t=d++v::r->∀ u ∈ r,wl W (done++d) u<=wl W (done++d) v
 | 0,row,t,done,hl,hs,ht,d,v,r,e,u,hu=>by
   have:(d++v::r).length=0:=by rw [<- e];rfl
   simp at this
 | n+1,row,t,done,hl,hs,ht,d,v,r,e,u,hu=>by
   have hne:row≠[]:=fun q=>by rw [q] at hl;cases hl
   have hrow:=gM hne;have e1:kY W late (n+1) row t=row.getLastD 0::kY W late n (mQ W late row t) (j6 W row t):=rfl;rw [e1] at e;have hpm:=jd W late row t;have hlr:(mQ W late row t).length=n:=by rw [hpm.length_eq,List.length_dropLast];lia
   have hop:=gq W late n (mQ W late row t) (j6 W row t) hlr;have hT:∀ u ∈ row.dropLast,j6 W row t u=t u+W (row.getLastD 0) u:=fun u hu=>ay hu;generalize hv:row.getLastD 0=lv at *;generalize hr:row.dropLast=r0 at *;have hmem:∀ u ∈ r0,u ∈ row:=fun u hu=>by rw [hrow];exact af _ hu
   cases d with
   | nil =>
     refine o0_2 (bZ e) fun rf0 rf1=>?_;subst rf0;subst rf1;rw [bf];have hu0:u ∈ r0:=hpm.mem_iff.mp (hop.mem_iff.mp hu);rw [<- ht u (hmem u hu0),<- ht lv (by rw [hrow];simp)]
     unfold gk at hs;rw [hrow,List.pairwise_append] at hs;exact hs.2.2 u hu0 lv (ao.mpr rfl)
   | cons x d =>
     refine o0_2 (bZ e) fun e2 e3=>?_;subst e2;have:=yJ n (mQ W late row t) (j6 W row t) (done++[lv]) hlr (oV _ _) (fun u hu=>by
      have hu0:=hpm.mem_iff.mp hu;rw [hT u hu0,ht u (hmem u hu0),lB];simp [wl]) d v r e3 u hu
     rwa [aH] at this
theorem zf {tie:Nat->Nat->Str} {late:Bool} {P0:Pth}:yZ (crW (nL tie) (g5 P0)) (eZ tie late P0):=fun d v r e u hu=>by
 have:=yJ (W:=crW (nL tie) (g5 P0)) (late:=late) (g5 P0).length (gf P0) (fun _=>0) [] (az ..) (List.pairwise_iff_forall_sublist.mpr fun _=>bF _) (fun u hu=>rfl) d v r e u hu;simpa using this
theorem uz (tie:Nat->Nat->Str) (cw:Cw) (l:Nat):∀ d:List Nat,eO (oF tie (e9 cw) d l)=wl (crW (nL tie) cw) d l
 | []=>rfl
 | v::d=>by
   have ih:=uz tie cw l d;have e:oF tie (e9 cw) (v::d) l=kX tie (e9 cw v) (e9 cw l)++oF tie (e9 cw) d l:=rfl;rw [e,lO,ih,rX];unfold wl;rw [aU,bD];rfl
end Mine
namespace Mine
theorem uE {f:Nat->Nat} {A B:List Nat} (h:A.Perm B):(A.map f).sum=(B.map f).sum:=(h.map f).sum_nat
theorem pg {f:Nat->Nat->Nat} (hf:∀ x y,f x y=f y x) {A B:List Nat} (h:A.Perm B):pairSum f A=pairSum f B:=by
 induction h with
 | nil=>rfl
 | cons x h ih=>show (_:List Nat).sum+_=_+_;rw [uE h,ih]
 | swap x y l =>
   show ((x::l).map (f y)).sum+((l.map (f x)).sum+pairSum f l)=((y::l).map (f x)).sum+((l.map (f y)).sum+pairSum f l);rw [aU,aU,bD,bD,hf y x];lia
 | trans _ _ h1 h2=>exact h1.trans h2
theorem wW (f:Nat->Nat->Nat) (B:List Nat):wsum f [] B=0:=rfl
theorem i8 (f:Nat->Nat->Nat) (x:Nat) (A B:List Nat):wsum f (x::A) B=(B.map (f x)).sum+wsum f A B:=by
 unfold wsum;rw [bQ,cS]
theorem rB (f:Nat->Nat->Nat) (B D:List Nat):∀ A:List Nat,wsum f A (B++D)=wsum f A B+wsum f A D
 | []=>rfl
 | x::A=>by rw [i8,i8,i8,rB f B D A,bq,cS];lia
theorem lR (f:Nat->Nat->Nat) (B:List Nat):∀ A:List Nat,pairSum f (A++B)=pairSum f A+pairSum f B+wsum f A B
 | []=>by rw [wW];simp [pairSum]
 | x::A=>by
   show ((A++B).map (f x)).sum+pairSum f (A++B)=((A.map (f x)).sum+pairSum f A)+pairSum f B+wsum f (x::A) B;rw [lR f B A,bq,cS,i8];lia
theorem oM (f:Nat->Nat->Nat) (cr:Nat->List Nat) (A:List Nat):∀ o:List Nat,wsum f A (o.flatMap cr)=(o.map fun v=>wsum f A (cr v)).sum
 | []=>by
   have:∀ A:List Nat,wsum f A []=0:=fun A=>by
    induction A with
    | nil=>rfl
    | cons x A ih=>rw [i8,ih];rfl
   exact this A
 | v::o=>by rw [bQ,rB,oM f cr A o,aU,bD]
theorem kO (f:Nat->Nat->Nat) (cr:Nat->List Nat):∀ o:List Nat,pairSum f (o.flatMap cr)=(o.map fun v=>pairSum f (cr v)).sum+pairSum (fun u v=>wsum f (cr u) (cr v)) o
 | []=>rfl
 | v::o=>by
   rw [bQ,lR,kO f cr o,oM,aU,bD];show _=_+((o.map fun u=>wsum f (cr v) (cr u)).sum+_);lia
theorem nR {l:List Nat} (h:∀ x ∈ l,x=0):l.sum=0:=by
 induction l with
 | nil=>rfl
 | cons a l ih=>rw [bD,h a (aj ..),ih fun x hx=>h x (ai _ hx)]
theorem iN {f g:Nat->Nat->Nat}:∀ {l:List Nat},(∀ x ∈ l,∀ y ∈ l,f x y=g x y)->pairSum f l=pairSum g l
 | [],_=>rfl
 | x::l,h=>by
   show (l.map (f x)).sum+pairSum f l=(l.map (g x)).sum+pairSum g l;rw [iN fun a ha b hb=>h a (ai _ ha) b (ai _ hb),bh fun y hy=>h x (aj ..) y (ai _ hy)]
theorem kN {f:Nat->Nat->Nat} {l:List Nat} (h:∀ x ∈ l,∀ y ∈ l,f x y=0):pairSum f l=0:=by
 rw [iN (g:=fun _ _=>0) h];induction l with
 | nil=>rfl
 | cons x l ih =>
   show (l.map fun _=>0).sum+_=0;rw [ih fun a ha b hb=>h a (ai _ ha) b (ai _ hb)];rw [nR fun y hy=>by refine o1_3 (aE.mp hy) fun _ _ rf2=>?_;subst rf2;rfl]
theorem tX {w:Nat->Nat->Nat} {S:Nat->Bool} (hw:∀ x y,w x y=w y x) {cr:Nat->List Nat} {o all:List Nat} (hp:(o.flatMap cr).Perm all) (hS:∀ v ∈ o,∀ x ∈ cr v,S x=S v) :
  pairSum (mV w S) all=pairSum (mV (fun u v=>wsum w (cr u) (cr v)) S) o:=by
 have hsym:∀ x y,mV w S x y=mV w S y x:=fun x y=>by
  unfold mV;by_cases e:S x=S y
  ·rw [ay e,ay e.symm]
  ·rw [aq e,aq fun q=>e q.symm,hw]
 rw [<- pg hsym hp,kO];rw [nR fun x hx=>by
  refine o1_3 (aE.mp hx) fun v hv rf2=>?_;subst rf2;exact kN fun a ha b hb=>ay ((hS v hv a ha).trans (hS v hv b hb).symm),Nat.zero_add]
 refine iN fun u hu v hv=>?_;unfold mV;by_cases e:S u=S v
 ·rw [ay e];unfold wsum;refine nR fun z hz=>?_;refine o1_3 (bK.mp hz) fun x hx hz=>?_;refine o1_3 (aE.mp hz) fun y hy rf2=>?_;subst rf2;exact ay (by rw [hS u hu x hx,hS v hv y hy,e])
 ·rw [aq e];unfold wsum;congr 1;refine g9 fun x hx=>?_;exact bh fun y hy=>aq (by rw [hS u hu x hx,hS v hv y hy];exact e)
noncomputable def iY (s:Nat) (x:Nat):Bool:=s / 2 ^ x % 2 == 1
theorem qm:∀ s,s<32->∀ n,n<10->fS s (mkN n)=(iY s (prA n) != iY s (prB n)):=by decide +kernel
noncomputable def nH (s m:Nat):Bool:=(List.range 5).all fun x=>(List.range 5).all fun y=>!(iY m x && iY m y) || (iY s x == iY s y)
theorem mZ:∀ s,s<32->∀ m,m<32->fS s m = !(nH s m):=by decide +kernel
theorem nG {s m:Nat}:nH s m=true↔∀ x,x<5->∀ y,y<5->iY m x=true->iY m y=true->iY s x=iY s y:=by
 unfold nH;simp only [dI,aL,Bool.or_eq_true,Bool.not_eq_true',Bool.and_eq_false_iff,cI];constructor
 ·intro h x hx y hy h1 h2;rcases h x hx y hy with (q | q) | q
  ·rw [h1] at q;cases q
  ·rw [h2] at q;cases q
  ·exact q
 ·intro h x hx y hy;by_cases h1:iY m x=true
  ·by_cases h2:iY m y=true
   ·exact .inr (h x hx y hy h1 h2)
   ·exact .inl (.inr (by simpa using h2))
  ·exact .inl (.inl (by simpa using h1))
theorem w6:∀ s,s<32->∀ x,x<5->∀ y,y<5->x≠y->fS s (2 ^ x+(2 ^ y+0))=(iY s x != iY s y):=by decide +kernel
theorem tY (wN:Nat->Nat) {s:Nat} (hs:s<32):nF wN s=pairSum (mV (fun x y=>wN (prI x y)) (iY s)) (List.range 5):=by
 have h1:∀ l:List Nat,(∀ n ∈ l,n<10)->((l.filter fun n=>fS s (mkN n)).map wN).sum=(l.map fun n=>if iY s (prA n)=iY s (prB n) then 0 else wN n).sum:=by
  intro l;induction l with
  | nil=>intro _;rfl
  | cons n l ih =>
    intro h;have hn:=h n (aj ..);have ih:=ih fun m hm=>h m (ai _ hm);have ht:=qm s hs n hn;rw [aU,bD,<- ih];by_cases e:iY s (prA n)=iY s (prB n)
    ·rw [ay e,bX (p:=fun n=>fS s (mkN n)) (by rw [ht,e];simp)];simp
    ·rw [aq e,bW (p:=fun n=>fS s (mkN n)) (by rw [ht];simpa using e),aU,bD]
 unfold nF;rw [h1 _ fun n hn=>aL.mp hn];generalize iY s=S;show ([0,1,2,3,4,5,6,7,8,9].map fun n=>if S (prA n)=S (prB n) then 0 else wN n).sum=pairSum (mV (fun x y=>wN (prI x y)) S) [0,1,2,3,4]
 simp only [aU,dX,bD,List.sum_nil,pairSum];unfold mV;simp only [show prA 0=0 from rfl,show prA 1=0 from rfl,show prA 2=0 from rfl,show prA 3=0 from rfl,show prA 4=1 from rfl,show prA 5=1 from rfl,show prA 6=1 from rfl,show prA 7=2 from rfl,show prA 8=2 from rfl,show prA 9=3 from rfl,
  show prB 0=1 from rfl,show prB 1=2 from rfl,show prB 2=3 from rfl,show prB 3=4 from rfl,show prB 4=2 from rfl,show prB 5=3 from rfl,show prB 6=4 from rfl,show prB 7=3 from rfl,show prB 8=4 from rfl,show prB 9=4 from rfl,
  show prI 0 1=0 by decide,show prI 0 2=1 by decide,show prI 0 3=2 by decide,show prI 0 4=3 by decide,show prI 1 2=4 by decide,show prI 1 3=5 by decide,show prI 1 4=6 by decide,show prI 2 3=7 by decide,show prI 2 4=8 by decide,show prI 3 4=9 by decide]
 simp only [Nat.add_zero,Nat.add_assoc]
end Mine
namespace Mine
theorem rR (x y:Nat):prI x y=prI y x:=by
 unfold prI;by_cases h:x<y
 ·rw [ay h,aq (by lia)]
 ·by_cases h2:y<x
  ·rw [aq h,ay h2]
  ·have:x=y:=by lia
   subst this;rfl
noncomputable def qh (b:Bool):Nat:=if b=true then 1 else 0
theorem Ae:∀ b0 b1 b2 b3 b4:Bool,∀ x,x<5->iY (qh b0+2 * qh b1+4 * qh b2+8 * qh b3+16 * qh b4) x=[b0,b1,b2,b3,b4].getD x false:=by decide +kernel
theorem lS (q:Nat->Bool):∀ l:List Nat,maskOf (l.filter q)=(l.map fun x=>2 ^ x * qh (q x)).sum
 | []=>rfl
 | x::l=>by
   have ih:=lS q l;rw [aU,bD,<- ih];cases h:q x with
   | true=>rw [bW h];show 2 ^ x+_=2 ^ x * 1+_;rw [Nat.mul_one];rfl
   | false=>rw [bX (by rw [h];decide)];show _=2 ^ x * 0+_;rw [Nat.mul_zero,Nat.zero_add]
theorem g7 (q:Nat->Bool):∀ x,x<5->iY (maskOf ((List.range 5).filter q)) x=q x:=fun x hx=>by
 have e:maskOf ((List.range 5).filter q)=qh (q 0)+2 * qh (q 1)+4 * qh (q 2)+8 * qh (q 3)+16 * qh (q 4):=by
  rw [lS];show 1 * qh (q 0)+(2 * qh (q 1)+(4 * qh (q 2)+(8 * qh (q 3)+(16 * qh (q 4)+0))))=_;lia
 rw [e,Ae _ _ _ _ _ x hx];have h5:x=0\/x=1\/x=2\/x=3\/x=4:=by lia
 rcases h5 with rfl | rfl | rfl | rfl | rfl <;> rfl
theorem qW {t:Nat} {P:Pth} (K:POk t P) {o:List Nat} (ho:o.Perm (gf P)):(o.flatMap (e9 (g5 P))).Perm (List.range 5):=by
 refine (List.perm_ext_iff_of_nodup ?_ List.nodup_range).mpr fun x=>?_
 ·show List.Pairwise _ _;rw [List.pairwise_flatMap];refine ⟨fun v _=>by rw [kU];exact List.nodup_range.filter _,?_⟩
  have hn:o.Nodup:=ho.nodup_iff.mpr fU;exact hn.imp fun {u v} huv x hx y hy e=>huv (by rw [<- (gb.mp hx).2,<- (gb.mp hy).2,e])
 ·rw [bK,aL];constructor
  ·rintro ⟨v,_,hx⟩;exact (gb.mp hx).1
  ·intro hx;exact ⟨gj P x,ho.mem_iff.mpr (iR.mpr ⟨x,hx,rfl⟩),gb.mpr ⟨hx,rfl⟩⟩
theorem mY {T:Nat->Str} {late:Bool} {t:Nat} {P:Pth} (K:POk t P) (ht:t<4) :
  ((eO (plT T late P):Nat):Int) ∈ kP (wNT T) (maskOf [iy (eZ (eF T) late P),fX (eZ (eF T) late P)]) ((g5 P).map fun c=>maskOf c.2) /\
  ∀ x ∈ kP (wNT T) (maskOf [iy (eZ (eF T) late P),fX (eZ (eF T) late P)]) ((g5 P).map fun c=>maskOf c.2),((eO (plT T late P):Nat):Int)<=x:=by
 refine o1_2 (K.split (tie:=eF T) (late:=late) ht) fun a ho=>?_;refine o0_3 (K.ends (tie:=eF T) (late:=late) ht) fun he1 he2 he3=>?_;have hperm:=K.gq (tie:=eF T) (late:=late);have hflat:=qW K hperm;have hma:=zf (tie:=eF T) (late:=late) (P0:=P);have hnd:=hperm.nodup_iff.mpr fU;have hmem:∀ v,v ∈ eZ (eF T) late P↔v ∈ gf P:=fun v=>hperm.mem_iff;have hpl:eO (plT T late P)=wl (crW (nL (eF T)) (g5 P)) (eZ (eF T) late P).dropLast (fX (eZ (eF T) late P)):=uz ..;generalize iy (eZ (eF T) late P)=p at *;generalize fX (eZ (eF T) late P)=l at *;generalize eZ (eF T) late P=o at *;subst ho;have hdl:(a++[p,l]).dropLast=a++[p]:=by rw [List.dropLast_append_of_ne_nil (by simp)];rfl
 rw [hdl] at hpl;have hw:∀ x y,nL (eF T) x y=nL (eF T) y x:=fun x y=>by unfold nL eF;rw [rR]
 have hcut:∀ s,s<32->(∀ v ∈ a++[p,l],∀ x ∈ e9 (g5 P) v,iY s x=iY s v)->nF (wNT T) s=pairSum (mV (crW (nL (eF T)) (g5 P)) (iY s)) (a++[p,l]):=fun s hs hc=>by
  rw [tY _ hs];exact tX (w:=nL (eF T)) hw hflat hc
 have hp5:=K.lt he1;have hl5:=K.lt he2;have hE:∀ s,s<32->fS s (maskOf [p,l])=(iY s p != iY s l):=fun s hs=>w6 s hs p hp5 l hl5 he3;have hcm:∀ c ∈ g5 P,maskOf c.2=maskOf ((List.range 5).filter fun x=>decide (gj P x=c.1))/\maskOf c.2<32:=fun c hc=>by
  have e:=sQ fU hc;rw [<- e,kU];exact ⟨rfl,ko (List.nodup_range.filter _) fun x hx=>by simp at hx;exact hx.1⟩
 have hself:∀ v ∈ a++[p,l],v ∈ e9 (g5 P) v:=fun v hv=>by
  have hv:=(hmem v).mp hv;exact gb.mpr ⟨K.lt hv,(K.self hv).2⟩
 rw [hpl];generalize hWd:crW (nL (eF T)) (g5 P)=W at *;refine ⟨?_,fun x hx=>?_⟩
 ·refine o1_2 (⟨_,rfl⟩:∃ q:Nat->Bool,q=fun x=>decide (gj P x=l) == decide (gj P 0=l)) fun q hq=>?_;have hq0:q 0=true:=by rw [hq];simp
  have hqx:∀ x y,(q x=q y↔decide (gj P x=l)=decide (gj P y=l)):=fun x y=>by
   rw [hq];dsimp only;cases decide (gj P x=l) <;> cases decide (gj P y=l) <;> cases decide (gj P 0=l) <;> decide
  have hhd:∀ v ∈ a++[p,l],gj P v=v:=fun v hv=>(K.self ((hmem v).mp hv)).2;have hpd:=hhd p (by simp)
  have hld:=hhd l (by simp)
  have hpl2:q p≠q l:=fun e=>by
   have:=(hqx p l).mp e;rw [hpd,hld,bB he3] at this;simp at this
  have hb:=g7 q;have hs32:maskOf ((List.range 5).filter q)<32:=ko (List.nodup_range.filter _) fun x hx=>by simp at hx;exact hx.1
  have hodd:∀ s,s<32->iY s 0=true->(∃ x,x<5/\iY s x=false)->∃ j,j<15/\sdN j=s:=by
   intro s hs h1 h2;have h3:s % 2=1:=by unfold iY at h1;simpa using h1
   have h4:s≠31:=fun e=>by
    refine o1_3 h2 fun x hx h=>?_;clear h2;subst e;have:∀ x,x<5->iY 31 x=true:=by decide
    rw [this x hx] at h;cases h
   exact ⟨s / 2,by lia,by unfold sdN;lia⟩
  refine o1_3 (hodd _ hs32 (by rw [hb 0 (by lia)];exact hq0) (by
   cases e:q p with
   | false=>exact ⟨p,hp5,by rw [hb p hp5];exact e⟩
   | true=>exact ⟨l,hl5,by
     rw [hb l hl5];cases e2:q l with
     | false=>rfl
     | true=>exact absurd (e.trans e2.symm) hpl2⟩)) fun j hj hsj=>?_
  generalize maskOf ((List.range 5).filter q)=s at *;have hfit:ug (maskOf [p,l]) ((g5 P).map fun c=>maskOf c.2) s=true:=by
   unfold ug;rw [b8];refine ⟨?_,?_⟩
   ·rw [hE s hs32,hb p hp5,hb l hl5];simpa using hpl2
   ·rw [List.isEmpty_iff,cB];intro m hm;refine o1_3 (aE.mp hm) fun c hc rf2=>?_;subst rf2;rw [mZ s hs32 _ (hcm c hc).2];have:nH s (maskOf c.2)=true:=by
     rw [(hcm c hc).1,nG];intro x hx y hy h1 h2;rw [g7 _ x hx] at h1;rw [g7 _ y hy] at h2;rw [hb x hx,hb y hy];exact (hqx x y).mpr (by rw [cG h1,cG h2])
    rw [this];decide
  have hval:nF (wNT T) s=wl W (a++[p]) l:=by
   have h5:∀ v ∈ a++[p,l],v<5:=fun v hv=>K.lt ((hmem v).mp hv);rw [hcut s hs32 fun v hv x hx=>by
    have hxm:=gb.mp hx;rw [hb x hxm.1,hb v (h5 v hv)];exact (hqx x v).mpr (by rw [hxm.2,hhd v hv])]
   have e:a++[p,l]=(a++[p])++[l]:=by simp
   have hother:∀ v ∈ a++[p],v≠l:=fun v hv q=>by
    rw [e] at hnd;exact (aJ.mp hnd).2.2 v hv l (ao.mpr rfl) q
   have hbv:∀ v ∈ a++[p],iY s v=iY s p:=fun v hv=>by
    have hv2:v ∈ a++[p,l]:=by rw [e];exact af _ hv
    rw [hb v (h5 v hv2),hb p hp5];exact (hqx v p).mpr (by rw [hhd v hv2,hpd,bB (hother v hv),bB he3])
   have hz:pairSum (mV W (iY s)) (a++[p])=0:=kN fun x hx y hy=>ay ((hbv x hx).trans (hbv y hy).symm);rw [e,iu,hz,Nat.zero_add];refine uq W _ l _ fun y hy=>?_;rw [hbv y hy,hb p hp5,hb l hl5];exact hpl2
  rw [<- hval];exact aE.mpr ⟨s,cH.mpr ⟨aE.mpr ⟨j,aL.mpr hj,hsj⟩,hfit⟩,rfl⟩
 ·refine o1_3 (aE.mp hx) fun s hs rf2=>?_;subst rf2;refine o0_2 (cH.mp hs) fun hs1 hs2=>?_;refine o1_3 (aE.mp hs1) fun j hj rf2=>?_;subst rf2;have hj:=aL.mp hj;have hs32:sdN j<32:=by unfold sdN;lia
  generalize sdN j=s at *;unfold ug at hs2;rw [b8] at hs2;refine o0_2 hs2 fun f1 f2=>?_;clear hs2;rw [hE s hs32] at f1;have hS:iY s p≠iY s l:=by simpa using f1
  rw [List.isEmpty_iff,cB] at f2;have hc:∀ v ∈ a++[p,l],∀ x ∈ e9 (g5 P) v,iY s x=iY s v:=fun v hv x hx=>by
   refine o1_3 (aE.mp ((hmem v).mp hv)) fun c hc e=>?_;have f3:=f2 (maskOf c.2) (aE.mpr ⟨c,hc,rfl⟩);have f4:=mZ s hs32 (maskOf c.2) (hcm c hc).2;have f5:nH s (maskOf c.2)=true:=by
    cases q:nH s (maskOf c.2) with
    | true=>rfl
    | false=>rw [f4,q] at f3;exact absurd rfl f3
   rw [(hcm c hc).1] at f5;have hxm:=gb.mp hx;have hvm:=gb.mp (hself v hv);exact nG.mp f5 x hxm.1 v hvm.1 (by rw [g7 _ x hxm.1];simp [hxm.2,e]) (by rw [g7 _ v hvm.1];simp [hvm.2,e])
  rw [hcut s hs32 hc];exact Int.ofNat_le.mpr (phase hma hS)
end Mine
namespace Mine
theorem sC:∀ l:List Str,(Txt.join "" l).cps.toList=l.flatMap fun x=>x.cps.toList:=fun l=>by
 have e:Txt.join "" l=Str.join "" l:=StrLaws.glued_eq_join "" l
 rw [e];induction l with
 | nil=>rfl
 | cons x l ih =>
   cases l with
   | nil=>simp [Str.join]
   | cons y l =>
     have:Str.join "" (x::y::l)=x ++ "" ++ Str.join "" (y::l):=rfl
     rw [this,cps_append,cps_append,bQ,<- ih (StrLaws.glued_eq_join "" _)]
     simp
     rfl
theorem rV (l:Pcs):(gy l).cps.toList=l.flatMap fun q=>q.1.cps.toList++q.2.cps.toList:=by
 unfold gy;rw [sC,List.flatMap_map];refine g9 fun q _=>?_;rw [sC];simp
theorem xK (l:Pcs):(gy l).length=eO l:=by
 have:(gy l).length=(gy l).cps.toList.length:=by rw [bG];rfl
 rw [this,rV];unfold eO;induction l with
 | nil=>rfl
 | cons q l ih =>
   rw [bQ,bl,ih (by rw [bG];rfl),aU,bD,bl,bG,bG];rfl
theorem tH (l:Pcs):iE 0 l=l.all fun q=>(q.1.cps.toList++q.2.cps.toList).all Unicode.isSpace:=by
 have h1:(gy l).cps.toList.all Unicode.isSpace=l.all fun q=>(q.1.cps.toList++q.2.cps.toList).all Unicode.isSpace:=by
  rw [rV,List.all_flatMap]
 have h2:(gy l).cps.all Unicode.isSpace=(gy l).cps.toList.all Unicode.isSpace:=by rw [Array.all_toList]
 have h3:=xK l;rw [<- h1];unfold iE;show (((0:Int) == 0) && (!(((0:Int)+eO l) != 0) || (decide ((gy l).length > 0) && (gy l).cps.all Unicode.isSpace)))=_
 rw [h2];by_cases h0:eO l=0
 ·have:(gy l).cps.toList=[]:=by
   apply ck.mp;rw [bG];exact h3.trans h0
  rw [this,h0];rfl
 ·have e1:(((0:Int)+eO l) != 0)=true:=by
   rw [bne_iff_ne];lia
  rw [e1,bU (by lia)];simp
theorem yH (tie:Nat->Nat->Str) (x y:Nat):(tG tie x y).1.cps.toList++(tG tie x y).2.cps.toList=(tie x y).cps.toList:=by
 unfold tG;generalize tie x y=s;have hl:s.length=s.cps.toList.length:=by rw [bG];rfl
 by_cases h0:s.length=0
 ·have l1:=cM s none (some 1);have l2:=cM s (some 1) none;have e:∀ z:Str,z.length<=s.length->z.cps.toList=[]:=fun z hz=>by
   apply ck.mp;rw [bG];show z.length=0;lia
  rw [e _ l1,e _ l2,e s (bF _)];rfl
 ·have h1:=cI.mp (slice_closes_to (x:=s) (j:=1) ⟨by decide,by lia⟩)
  have h2:=cI.mp (slice_closes_from (x:=s) (i:=1) ⟨by decide,by lia⟩)
  rw [h1,h2];show (s.cps.toList.drop 0).take 1++(s.cps.toList.drop 1).take ((s.cps.toList.length:Int) - 1).toNat=_;have h3:(s.cps.toList.drop 1).take ((s.cps.toList.length:Int) - 1).toNat=s.cps.toList.drop 1:=cT (by rw [List.length_drop];lia)
  rw [List.drop_zero,h3];exact List.take_append_drop 1 _
theorem xo:∀ t,t<8->∀ way,way<5->(ja t way).cps.toList.all Unicode.isSpace = !iD (ja t way):=by decide +kernel
theorem zB:∀ x,x<5->∀ y,y<5->x≠y->prI x y<10/\((prA (prI x y)=x/\prB (prI x y)=y)\/(prA (prI x y)=y/\prB (prI x y)=x)):=by decide +kernel
theorem rQ:∀ n,n<10->prI (prA n) (prB n)=n:=by decide +kernel
theorem s9 {T:Nat->Str} {late:Bool} {t:Nat} {P:Pth} (K:POk t P) (ht:t<4) (hT:∀ n,n<10->(T n).cps.toList.all Unicode.isSpace = !iD (T n)) :
  iE 0 (plT T late P)=m8 T (maskOf (clT T late P)):=by
 refine o0_3 (K.ends (tie:=eF T) (late:=late) ht) fun he1 he2 he3=>?_;have hperm:=K.gq (tie:=eF T) (late:=late);have hol:(eZ (eF T) late P).length=5 - t:=by rw [hperm.length_eq,K.cnt]
 have hrow:=gM (row:=eZ (eF T) late P) (by intro e;rw [e] at hol;simp at hol;lia)
 have hnd:=hperm.nodup_iff.mpr fU;have hlast:fX (eZ (eF T) late P)=(eZ (eF T) late P).getLastD 0:=rfl;rw [<- hlast] at hrow;have hmem:∀ v,v ∈ (eZ (eF T) late P).dropLast↔v ∈ gf P/\v≠fX (eZ (eF T) late P):=fun v=>by
  rw [<- hperm.mem_iff];rw [hrow] at hnd;constructor
  ·intro h;exact ⟨by rw [hrow];exact af _ h,fun e=>(aJ.mp hnd).2.2 v h v (by rw [e];exact ao.mpr rfl) rfl⟩
  ·intro hz;refine o0_2 hz fun h hne=>?_;clear hz;rw [hrow] at h;rcases au.mp h with h | h
   ·exact h
   ·exact absurd (ao.mp h) hne
 rw [tH];unfold plT m8 clT;have hb:=g7 fun x=>decide (gj P x=fX (eZ (eF T) late P));have hs32:maskOf ((List.range 5).filter fun x=>decide (gj P x=fX (eZ (eF T) late P)))<32:=ko (List.nodup_range.filter _) fun x hx=>by simp at hx;exact hx.1
 rw [kU (h:=fX (eZ (eF T) late P))];generalize fX (eZ (eF T) late P)=l at *;generalize (eZ (eF T) late P).dropLast=d at *;generalize maskOf ((List.range 5).filter fun x=>decide (gj P x=l))=s at *;have key:(∃ q ∈ oF (eF T) (e9 (g5 P)) d l,(q.1.cps.toList++q.2.cps.toList).all Unicode.isSpace=false)↔∃ n,n<10/\fS s (mkN n)=true/\iD (T n)=true:=by
  constructor
  ·intro hz;refine o1_3 hz fun q hq hf=>?_;clear hz;refine o1_3 (bK.mp hq) fun v hv hq=>?_;refine o1_3 (bK.mp hq) fun x hx hq=>?_;refine o1_3 (aE.mp hq) fun y hy rf2=>?_;subst rf2;rw [yH] at hf;have hxm:=gb.mp hx;have hym:=gb.mp hy;have hvl:=(hmem v).mp hv;have hxy:x≠y:=fun e=>hvl.2 (by rw [<- hxm.2,<- hym.2,e])
   refine o0_2 (zB x hxm.1 y hym.1 hxy) fun h10 hp=>?_;refine ⟨prI x y,h10,?_,?_⟩
   ·rw [qm s hs32 _ h10];rcases hp with ⟨e1,e2⟩ | ⟨e1,e2⟩ <;> rw [e1,e2,hb x hxm.1,hb y hym.1,hxm.2,hym.2,bB hvl.2] <;> simp
   ·have:=hT (prI x y) h10;unfold eF at hf;rw [this] at hf;simpa using hf
  ·intro hz;refine o1_4 hz fun n hn h1 h2=>?_;clear hz;refine o0_3 (zA n hn) fun ha hb5 hab=>?_;rw [qm s hs32 n hn,hb _ ha,hb _ hb5] at h1;have mk:∀ x y,x<5->y<5->gj P x≠l->gj P y=l->prI x y=n->∃ q ∈ oF (eF T) (e9 (g5 P)) d l,(q.1.cps.toList++q.2.cps.toList).all Unicode.isSpace=false:=by
    intro x y hx hy h3 h4 h5;refine ⟨tG (eF T) x y,bK.mpr ⟨gj P x,(hmem _).mpr ⟨iR.mpr ⟨x,hx,rfl⟩,h3⟩,bK.mpr ⟨x,gb.mpr ⟨hx,rfl⟩,aE.mpr ⟨y,gb.mpr ⟨hy,h4⟩,rfl⟩⟩⟩,?_⟩;rw [yH];unfold eF;rw [h5,hT n hn,h2];rfl
   by_cases q:gj P (prA n)=l
   ·have q2:gj P (prB n)≠l:=fun e=>by rw [q,e] at h1;simp at h1
    exact mk (prB n) (prA n) hb5 ha q2 q (by rw [rR];exact rQ n hn)
   ·have q2:gj P (prB n)=l:=by
     cases hd:decide (gj P (prB n)=l) with
     | true=>exact cG hd
     | false=>rw [bB q,hd] at h1;simp at h1
    exact mk (prA n) (prB n) ha hb5 q q2 (rQ n hn)
 cases hA:(oF (eF T) (e9 (g5 P)) d l).all fun q=>(q.1.cps.toList++q.2.cps.toList).all Unicode.isSpace with
 | true =>
   symm
   rw [List.isEmpty_iff,cB];intro n hn h;rw [b8] at h;refine o1_3 (key.mpr ⟨n,aL.mp hn,h.1,h.2⟩) fun q hq hf=>?_;rw [dI.mp hA q hq] at hf;cases hf
 | false =>
   symm
   refine o1_3 (List.all_eq_false.mp hA) fun q hq hf=>?_;refine o1_4 (key.mp ⟨q,hq,by simpa using hf⟩) fun n hn h1 h2=>?_
   cases hE:((List.range 10).filter fun n=>fS s (mkN n) && iD (T n)).isEmpty with
   | false=>rfl
   | true =>
     rw [List.isEmpty_iff,cB] at hE;exact absurd (by rw [h1,h2];rfl) (hE n (aL.mpr hn))
theorem j7 {T:Nat->Str} {late:Bool} {t:Nat} {P:Pth} (K:POk t P) (ht:t<4) (hT:∀ n,n<10->(T n).length<=11):eO (plT T late P)<=200:=by
 have h:=(mY (T:=T) (late:=late) K ht).1;refine o1_3 (aE.mp h) fun s _ e=>?_;have e:nF (wNT T) s=eO (plT T late P):=Int.ofNat_inj.mp e;rw [<- e];unfold nF;have:∀ l:List Nat,(∀ n ∈ l,n<10)->((l.filter fun n=>fS s (mkN n)).map (wNT T)).sum<=11 * l.length:=by
  intro l;induction l with
  | nil=>intro _;exact bF _
  | cons n l ih =>
    intro h;have ih:=ih fun m hm=>h m (ai _ hm);have hn:=hT n (h n (aj ..));by_cases q:fS s (mkN n)=true
    ·rw [bW (p:=fun n=>fS s (mkN n)) q,aU,bD,bg];unfold wNT at *;lia
    ·rw [bX (p:=fun n=>fS s (mkN n)) q,bg];lia
 have:=this (List.range 10) fun n hn=>aL.mp hn;rw [List.length_range] at this;lia
end Mine
namespace Mine
section
variable {tie:Nat->Nat->Str} {late:Bool}
noncomputable def fK (tie:Nat->Nat->Str) (late:Bool) (i:Nat):Nat:=fX (eZ tie late (fR tie late i))
noncomputable def lM (tie:Nat->Nat->Str) (late:Bool) (i:Nat):Nat:=iy (eZ tie late (fR tie late i))
theorem jK {i:Nat} (hi:i<4) (x:Nat):gj (fR tie late (i+1)) x=if gj (fR tie late i) x=fK tie late i then lM tie late i else gj (fR tie late i) x:=(gv i (by lia)).vJ x
theorem jU (i x:Nat):fR tie late (i+1) x=if gj (fR tie late i) x=fK tie late i then fR tie late i x++[lM tie late i] else fR tie late i x:=rfl
theorem qK {i x y:Nat} (h:gj (fR tie late i) x=gj (fR tie late i) y):∀ k,i+k<=4->gj (fR tie late (i+k)) x=gj (fR tie late (i+k)) y
 | 0,_=>h
 | k+1,hk=>by
   have ih:=qK h k (by lia)
   rw [<- Nat.add_assoc,jK (by lia),jK (by lia),ih]
theorem rY {i x y:Nat} (h:gj (fR tie late i) x=gj (fR tie late i) y):∀ k,i+k<=4->∃ q,fR tie late (i+k) x=fR tie late i x++q/\fR tie late (i+k) y=fR tie late i y++q
 | 0,_=>⟨[],by simp,by simp⟩
 | k+1,hk=>by
   refine o1_3 (rY h k (by lia)) fun q e1 e2=>?_
   have hs:=qK h k (by lia)
   rw [<- Nat.add_assoc,jU,jU,hs];by_cases c:gj (fR tie late (i+k)) y=fK tie late (i+k)
   ·exact ⟨q++[lM tie late (i+k)],by rw [ay c,e1,aH],by rw [ay c,e2,aH]⟩
   ·exact ⟨q,by rw [aq c,e1],by rw [aq c,e2]⟩
theorem lg (x:Nat):∀ i,∃ r,fR tie late i x=x::r
 | 0=>⟨[],rfl⟩
 | i+1=>by
   refine o1_2 (lg x i) fun r e=>?_;rw [jU];by_cases c:gj (fR tie late i) x=fK tie late i
   ·exact ⟨r++[lM tie late i],by rw [ay c,e];rfl⟩
   ·exact ⟨r,by rw [aq c,e]⟩
theorem mq {i:Nat} (hi:i<4):lM tie late i ∈ gf (fR tie late i)/\fK tie late i ∈ gf (fR tie late i)/\lM tie late i≠fK tie late i:=(gv i (by lia)).ends hi
theorem yI:∀ i,i<=4->∀ x,x<5->∀ y ∈ fR tie late i x,gj (fR tie late i) y=gj (fR tie late i) x
 | 0,_,x,_,y,hy=>by rw [ao.mp hy]
 | i+1,hi,x,hx,y,hy=>by
   have ih:=yI i (by lia) x hx
   refine o0_3 (mq (tie:=tie) (late:=late) (i:=i) (by lia)) fun h1 h2 h3=>?_
   have hp:=((gv (tie:=tie) (late:=late) i (by lia)).self h1).2
   rw [jK (by lia),jK (by lia)]
   rw [jU] at hy;by_cases c:gj (fR tie late i) x=fK tie late i
   ·rw [ay c] at hy;rcases au.mp hy with hy | hy
    ·rw [ih y hy]
    ·rw [ao.mp hy,hp,aq h3,ay c]
   ·rw [aq c] at hy;rw [ih y hy]
theorem sJ {i:Nat} (hi:i<4) {h:Nat} (hh:h ∈ gf (fR tie late (i+1))):h ∈ gf (fR tie late i)/\h≠fK tie late i:=by
 refine o0_3 (mq (tie:=tie) (late:=late) hi) fun h1 h2 h3=>?_;refine o1_3 (iR.mp hh) fun x hx e=>?_;rw [jK hi] at e;by_cases c:gj (fR tie late i) x=fK tie late i
 ·rw [ay c] at e;subst e;exact ⟨h1,h3⟩
 ·rw [aq c] at e;subst e;exact ⟨iR.mpr ⟨x,hx,rfl⟩,c⟩
theorem sL {i:Nat}:∀ k,i+1+k<=4->∀ h ∈ gf (fR tie late (i+1+k)),h≠fK tie late i
 | 0,hk,h,hh=>(sJ (by lia) hh).2
 | k+1,hk,h,hh=>sL k (by lia) h (sJ (i:=i+1+k) (by lia) hh).1
theorem qH {i x:Nat} (hi:i<4):∀ k,i+k<=4->fK tie late i ∈ fR tie late (i+k) x->fK tie late i ∈ fR tie late i x
 | 0,_,h=>h
 | k+1,hk,h=>by
   rw [<- Nat.add_assoc,jU] at h;by_cases c:gj (fR tie late (i+k)) x=fK tie late (i+k)
   ·rw [ay c] at h;rcases au.mp h with h | h
    ·exact qH hi k (by lia) h
    ·have e:=ao.mp h;refine o0_3 (mq (tie:=tie) (late:=late) (i:=i+k) (by lia)) fun h1 h2 h3=>?_
     cases k with
     | zero=>exact absurd e.symm h3
     | succ k =>
       have:i+(k+1)=i+1+k:=by lia
       rw [this] at e h1;exact absurd e.symm (sL k (by lia) _ h1)
   ·rw [aq c] at h;exact qH hi k (by lia) h
end
theorem yf {v v':Nat} {cl cl':List Nat} (hv:v<=200) (hv':v'<=200) (h:uh v cl=uh v' cl'):cl=cl':=by
 have h1:=(qD v (by lia)).1
 have h2:=(qD v' (by lia)).1
 unfold uh t9 at h;have e:=congrArg (fun x:Str=>x.cps.toList) h;simp only [cps_append,aH] at e;have e2:=List.append_cancel_left e;have e3:=List.append_inj e2 (by rw [bG,bG];exact h1.trans h2.symm)
 have e4:=List.append_cancel_left e3.2;have e5:cl.map (fun j=>97+j)=cl'.map fun j=>97+j:=e4;exact (List.map_inj_right fun a b h=>by lia).mp e5
theorem tU {T:Nat->Str} {late:Bool} (hT:∀ n,n<10->(T n).length<=11):(gE T late 4).Nodup:=by
 unfold gE;show List.Pairwise _ _;rw [List.pairwise_map];refine List.pairwise_lt_range.imp_of_mem fun {i j} hi hj hlt e=>?_;have hi4:=aL.mp hi;have hj4:=aL.mp hj;have Ki:=gv (tie:=eF T) (late:=late) i (by lia)
 have Kj:=gv (tie:=eF T) (late:=late) j (by lia)
 have hc:clT T late (fR (eF T) late i)=clT T late (fR (eF T) late j):=yf (j7 Ki hi4 hT) (j7 Kj hj4 hT) e;refine o0_3 (mq (tie:=eF T) (late:=late) hi4) fun h1 h2 h3=>?_;have hmi:∀ x,x ∈ clT T late (fR (eF T) late i)↔x<5/\gj (fR (eF T) late i) x=fK (eF T) late i:=fun x=>gb;have hmj:∀ x,x ∈ clT T late (fR (eF T) late j)↔x<5/\gj (fR (eF T) late j) x=fK (eF T) late j:=fun x=>gb;have hl:=(hmi (fK (eF T) late i)).mpr ⟨Ki.lt h2,(Ki.self h2).2⟩;rw [hc] at hl;have hl2:=((hmj _).mp hl).2;have hsame:gj (fR (eF T) late (i+1)) (lM (eF T) late i)=gj (fR (eF T) late (i+1)) (fK (eF T) late i):=by
  rw [jK hi4,jK hi4,(Ki.self h1).2,(Ki.self h2).2,aq h3,ay rfl]
 have hs:=qK hsame (j - (i+1)) (by lia)
 rw [show i+1+(j - (i+1))=j by lia,hl2] at hs
 have hp:=(hmj _).mpr ⟨Ki.lt h1,hs⟩;rw [<- hc] at hp;have:=((hmi _).mp hp).2;rw [(Ki.self h1).2] at this;exact h3 this
theorem zV {T:Nat->Str} {i:Nat} (hi:i<4):∃ ql,CV (fR (eF T) true 4) (clT T true (fR (eF T) true i)) (lvT T true (fR (eF T) true i)) ql:=by
 have K:=gv (tie:=eF T) (late:=true) i (by lia)
 have K4:=gv (tie:=eF T) (late:=true) 4 (bF _);refine o0_3 (mq (tie:=eF T) (late:=true) hi) fun h1 h2 h3=>?_;have hm:∀ x,x ∈ clT T true (fR (eF T) true i)↔x<5/\gj (fR (eF T) true i) x=fK (eF T) true i:=fun x=>gb;have hl5:=K.lt h2;refine o0_2 (K.self h2) fun hPl hdl=>?_;have ek:i+(4 - i)=4:=by lia
 have hsame:∀ x,gj (fR (eF T) true i) x=fK (eF T) true i->∃ q,fR (eF T) true 4 x=fR (eF T) true i x++q/\fR (eF T) true 4 (fK (eF T) true i)=fK (eF T) true i::q:=fun x hx=>by
  refine o1_3 (rY (tie:=eF T) (late:=true) (i:=i) (x:=x) (y:=fK (eF T) true i) (by rw [hx,hdl]) (4 - i) (by lia)) fun q e1 e2=>?_
  rw [ek] at e1 e2;exact ⟨q,e1,by rw [e2,hPl];rfl⟩
 refine o1_3 (hsame _ hdl) fun ql hql hql2=>?_;refine ⟨ql,hql2,hl5,fun x hx=>?_,fun x hx hxc=>?_⟩
 ·show f9 (Txt.upper (dn (fR (eF T) true 4 x))) (great (fK (eF T) true i) ql)=(decide (x ∈ clT T true (fR (eF T) true i)) && decide (x≠fK (eF T) true i));have hHl:=K4.n9 _ hl5;have hq:gV ql:=fun y hy=>hHl y (by rw [hql2];exact ai _ hy)
  have iff:=pY (p:=fR (eF T) true 4 x) (q:=ql) (l:=fK (eF T) true i) (K4.n9 x hx) (K4.ne x hx) hl5 hq;have key:(∃ r,r≠[]/\fR (eF T) true 4 x=r++fK (eF T) true i::ql)↔(x ∈ clT T true (fR (eF T) true i)/\x≠fK (eF T) true i):=by
   constructor
   ·intro hz;refine o1_3 hz fun r hr e=>?_;clear hz;have hin:fK (eF T) true i ∈ fR (eF T) true i x:=qH hi (4 - i) (by lia) (by rw [ek,e];simp)
    have hh:=yI (tie:=eF T) (late:=true) i (by lia) x hx _ hin
    rw [hdl] at hh;refine ⟨(hm x).mpr ⟨hx,hh.symm⟩,fun q=>?_⟩;subst q;rw [hql2] at e;have:=congrArg List.length e;rw [bl] at this;have:r.length=0:=by lia
    exact hr (ck.mp this)
   ·intro hz;refine o0_2 hz fun hxc hne=>?_;clear hz;have hx2:=((hm x).mp hxc).2;refine o1_3 (hsame x hx2) fun q e1 e2=>?_;rw [hql2] at e2;have eq:=(bZ e2).2;have hlast:=gM (K.ne x hx);have hgl:(fR (eF T) true i x).getLastD 0=fK (eF T) true i:=hx2;refine ⟨(fR (eF T) true i x).dropLast,fun q0=>?_,?_⟩
    ·rw [q0,hgl,List.nil_append] at hlast;refine o1_2 (lg (tie:=eF T) (late:=true) x i) fun r er=>?_;rw [er] at hlast;exact hne (bZ hlast).1
    ·rw [e1,<- eq]
     conv=>lhs;rw [hlast,hgl]
     simp
  cases hd:f9 (Txt.upper (dn (fR (eF T) true 4 x))) (great (fK (eF T) true i) ql) with
  | true =>
    refine o0_2 (key.mp (iff.mp hd)) fun a b=>?_;rw [bU a,bU b];rfl
  | false =>
    symm
    cases hb:(decide (x ∈ clT T true (fR (eF T) true i)) && decide (x≠fK (eF T) true i)) with
    | false=>rfl
    | true =>
      rw [b8] at hb;rw [iff.mpr (key.mpr ⟨cG hb.1,cG hb.2⟩)] at hd;cases hd
 ·show f9 (Txt.upper (dn (fR (eF T) true 4 x))) (dn (fR (eF T) true 4 (fK (eF T) true i)))=decide (x=fK (eF T) true i);rw [qS (K4.n9 x hx) (K4.n9 _ hl5)];refine dK.mpr ⟨fun e=>?_,fun e=>by rw [e]⟩
  refine o1_2 (lg (tie:=eF T) (late:=true) x 4) fun r er=>?_;refine o1_2 (lg (tie:=eF T) (late:=true) (fK (eF T) true i) 4) fun r2 er2=>?_;rw [er,er2] at e;exact (bZ e).1
theorem plain_all (c0 c1:Int):wK fun n=>uA (fgN c0 c1) n:=by
 have hT:∀ n,n<10->(uA (fgN c0 c1) n).length<=11:=fun n _=>by
  refine o0_2 (sN c0 c1 n) fun _ h=>?_;exact (rI (fgN c0 c1 n / 5) (by lia) (fgN c0 c1 n % 5) (by lia)).2
 have hW:∀ n,n<10->(uA (fgN c0 c1) n).cps.toList.all Unicode.isSpace = !iD (uA (fgN c0 c1) n):=fun n _=>by
  refine o0_2 (sN c0 c1 n) fun _ h=>?_;exact xo (fgN c0 c1 n / 5) (by lia) (fgN c0 c1 n % 5) (by lia)
 exact ⟨fun late i hi=>⟨mY (gv i (by lia)) hi,s9 (gv i (by lia)) hi hW,j7 (gv i (by lia)) hi hT⟩,fun late=>tU hT,fun i hi=>zV hi⟩
end Mine
namespace Mine
theorem fc_topM {C:Cx} (ok:C.Ok) {n:Nat} {f:Addr} {fd:FuncData} {body:List Stmt} {M:List (Addr×AO)} {args:List AV} {ab:List (Str×AV)} {P:AF->St->Prop} (F:Aw C f fd body)
  (hcell:∀ x ∈ fd.scope.names,x.2 = .cell->fd.scope.names.lookup x.1=some .cell) (hnd:((fd.scope.names.filter (·.2 == .cell)).map (·.1)).Nodup) (hclo:fd.closure=[])
  (hbind:∀ vs,vs.length=args.length->∃ bs,bindArgs fd ⟨vs,[]⟩=pure bs/\∀ h X,VRs h X vs args->PRs h X bs ab)
  (hloc:∀ x ∈ ab.map (·.1),fd.scope.names.lookup x=some .local)
  (h:∀ L,EX C n (callEnvC fd L f) ⟨ab.reverse,M⟩ body P) {A:Around} (ha:AOk (n+1) A) {s:Shared} (B:Bs C s.heap) {vs:List Value} (rv:VRs s.heap (C.T++fj M) vs args)
  (hob:∀ p ∈ M,∃ o,p.2 = .fix o/\s.heap.get? p.1=some o) (hndM:(fj M).Nodup) (hold:∀ b ∈ fj M,¬ C.Old b/\b ∉ C.T/\jr s.heap b) {Q:Result->Shared->Prop}
  (q:∀ v s' f S' X,P f S'->FR s'.heap X v f->fC C.T (fj M) s s'->(∀ p ∈ S'.M,OR C s'.heap X p.1 p.2)->Q (.ok (.ret (match v with | .ret v=>v | _=>.none))) s') (hZ:C.Z=[]:=by rfl):codeAny (model C.prog C.w) A (.call (.ref f) ⟨vs,[]⟩) Q s:=by
 refine o1_3 F.obj fun o ho hd=>?_;refine o4_8 F.code fun c oc cvs t e1 e2 e3 e4=>?_;refine o1_3 (hbind vs rv.length) fun bs hb rb'=>?_;have rb:=rb' _ _ rv;have hlocB:∀ x ∈ bs,fd.scope.names.lookup x.1=some .local:=fun x hx=>hloc _ (by rw [<- rb.keys];exact aE.mpr ⟨x,hx,rfl⟩)
 refine (codeAny_call_cells (binds:=bs) (by have:=ha.depth;show A.depth<1000;lia) (B.K _ _ ho) hd B.lim ⟨c,oc,cvs,t,e1,B.K _ _ e2,e3,e4⟩ F.body hb hclo
  (fun x hx=>.inl (hlocB x hx)) (fun ee X=>?_) F.co F.gen F.kind)
 refine o2_3 X.toInCall.same fun iJ tk es=>?_;have x:fC C.T [] s ee:=by subst es;exact ⟨.of_keeps X.toInCall.keep,rfl,rfl,id⟩
 have cellMem:∀ p ∈ (callEnvC fd s.heap.objs.size f).cells,(p.1,NameKind.cell) ∈ fd.scope.names:=fun p hp=>by
  rcases g4 (show p ∈ cellsFrom (s.heap.objs.size+1) fd.scope.names [] from hp) with z | z
  ·cases z
  ·exact z
 have cellKind:∀ p ∈ (callEnvC fd s.heap.objs.size f).cells,(callEnvC fd s.heap.objs.size f).kindOf p.1=some .cell:=fun p hp=>hcell _ (cellMem p hp) rfl;have efa:fa (callEnvC fd s.heap.objs.size f)=s.heap.objs.size::(callEnvC fd s.heap.objs.size f).cells.map (·.2):=by
  have:(callEnvC fd s.heap.objs.size f).cells.filter (fun p=>(callEnvC fd s.heap.objs.size f).kindOf p.1 == some .cell && (callEnvC fd s.heap.objs.size f).func.isSome)=(callEnvC fd s.heap.objs.size f).cells:=by
   rw [List.filter_eq_self];intro p hp;rw [cellKind p hp];rfl
  unfold fa;rw [this];rfl
 have memC:∀ b,b ∈ (callEnvC fd s.heap.objs.size f).cells.map (·.2)->∃ nm,(nm,b) ∈ (callEnvC fd s.heap.objs.size f).cells:=fun b hb=>by
  refine o1_3 (aE.mp hb) fun p hp rf2=>?_;subst rf2;exact ⟨p.1,hp⟩
 have dead:∀ b,s.heap.objs.size<=b->s.heap.get? b=none:=fun b hb=>by
  cases e:s.heap.get? b with
  | none=>rfl
  | some o=>exact absurd (bH e) (Nat.not_lt.mpr hb)
 have hf:∀ b ∈ fa (callEnvC fd s.heap.objs.size f),s.heap.get? b=none:=fun b hb=>by
  rw [efa] at hb;rcases aG.mp hb with rfl | hb
  ·exact eH _
  ·refine o1_2 (memC b hb) fun nm hm=>?_;exact dead b (Nat.le_of_lt (X.above nm b hm))
 have lf:∀ b ∈ fa (callEnvC fd s.heap.objs.size f),jr ee.heap b:=fun b hb=>by
  rw [efa] at hb;rcases aG.mp hb with rfl | hb
  ·refine o3_5 X.toInCall.ns fun o _ _ q _=>?_;exact ⟨o,q⟩
  ·refine o1_2 (memC b hb) fun nm hm=>?_;have nd:((callEnvC fd s.heap.objs.size f).cells.map (·.1)).Nodup:=by
    show ((cellsFrom (s.heap.objs.size+1) fd.scope.names []).map (·.1)).Nodup;rw [gp,dX,bf];exact List.pairwise_reverse.mpr (hnd.imp fun h=>h.symm)
   refine o1_3 (X.cell nm b (iP nd hm)) fun o e _=>?_;exact ⟨o,e⟩
 have hX:∀ a o,s.heap.get? a=some o->a ∉ C.T++fj M->a ∉ Xo C [] (callEnvC fd s.heap.objs.size f) ⟨ab.reverse,M⟩:=fun a o e n q=>by
  rw [fJ] at q;rcases q with q | q | q
  ·exact n (af _ q)
  ·rcases au.mp q with q | q
   ·rw [hf a q] at e;cases e
   ·exact n (aa _ q)
  ·cases q
 have d9:Rel C [] s (fj M) (callEnvC fd s.heap.objs.size f) ⟨ab.reverse,M⟩ ee:=by
  refine ⟨B.stp ok x.heap fun _ h=>(nomatch h),⟨F.kind,F.glob,F.wV,fun y ky=>F.more (y,.free) (mem_of_lookup ky) rfl⟩,⟨⟨_,X.toInCall.ns,fun y av e k=>?_⟩,fun y av e k=>?_,fun y c k e=>⟨_,X.cell y c e⟩,fun y av e=>?_⟩,fun y c k e=>?_,fun p hp=>?_,?_,fun a ha=>(nomatch ha),fun a ha=>?_,x.mono fun _ h=>(nomatch h),fun a ha=>?_,fun p hp=>by rw [hZ] at hp;cases hp⟩
  ·refine o1_3 (rb.rev.look e) fun v e1 r=>?_;refine ⟨v,?_,(r.sub hX).stp x.heap (fun _ h=>nomatch h) (fun a h=>af _ h)⟩;rw [mG hlocB,e1];rfl
  ·exfalso;have hm:y ∈ ab.map (·.1):=aE.mpr ⟨(y,av),cy.mp (mem_of_lookup e),rfl⟩;have kl:(callEnvC fd s.heap.objs.size f).kindOf y=some .local:=hloc y hm;rw [kl] at k;rcases k with k | k <;> cases k
  ·exact .inl (hloc y (aE.mpr ⟨(y,av),cy.mp (mem_of_lookup e),rfl⟩))
  ·exfalso;have hk:=cellKind _ (mem_of_lookup e);rcases k with k | k
   ·rw [hk] at k;cases k
   ·have:(callEnvC fd s.heap.objs.size f).func.isSome=true:=rfl;rw [this] at k;cases k.2
  ·refine o1_3 (hob p hp) fun o e1 e2=>?_;rw [e1];exact x.heap.keep _ _ e2 (fun h=>nomatch h) (hold p.1 (eU hp (by simp [foot]))).2.1
  ·rw [aJ];refine ⟨?_,hndM,fun a ha b hb e=>?_⟩
   ·rw [efa,bV];refine ⟨fun h=>?_,?_⟩
    ·refine o1_2 (memC _ h) fun nm hm=>?_;exact dP _ (X.above nm _ hm)
    ·exact List.pairwise_map.mpr X.apart
   ·subst e;exact (hold a hb).2.2.ne (hf a ha) rfl
  ·rcases au.mp ha with ha | ha
   ·exact ⟨fun h=>(B.live h).ne (hf a ha) rfl,fun h=>(B.iG h).ne (hf a ha) rfl,lf a ha⟩
   ·rw [bf] at ha;refine o0_3 (hold a ha) fun h1 h2 zz=>?_;refine o1_2 zz fun o h3=>?_;exact ⟨h1,h2,o,x.heap.keep _ _ h3 (fun h=>nomatch h) h2⟩
  ·rcases au.mp ha with ha | ha
   ·exact .inr (hf a ha)
   ·exact .inl ha
 refine bx (h s.heap.objs.size (A.deeper (callEnvC fd s.heap.objs.size f)) _ _ _ _ (fun fl s'=>Q (.ok (.ret (match fl with | .ret v=>v | _=>.none))) s') (ha.deeper _) d9 fun r s' b S' p R' K' rr=>?_) (fun fl s' z=>?_) fun _ _ e=>e.elim
 ·exact q r s' b S' _ p rr R'.st R'.ob
 ·cases fl <;> exact z
end Mine
end
section
open PySem PySem.W PySem.Calls PyProof.Rows
open PySem.W.X (tableObj)
namespace Mine
theorem kq {l:Frag} {q:Addr->Bool} {a:Addr} (h:q a=true):(l.filter fun p=>q p.1).lookup a=l.lookup a:=by
 induction l with
 | nil=>rfl
 | cons p l ih =>
   obtain ⟨b,o⟩:=p;rw [dJ,bz];by_cases e:a=b
   ·subst e;rw [ay h,bz];simp
   ·have hab:(a == b)=false:=aY.mpr e;rw [hab];by_cases hb:q b=true
    ·rw [ay hb,bz,hab];exact ih
    ·rw [aq hb];exact ih
theorem tK {K:Frag} {h:Heap} {N:Addr} {mg:Str->Option Value} {n:Str} {v:Value} (X:K.In h) (G:h.Ns N mg) (e:nsIn K N n=some (some v)):mg n=some v:=by
 refine o3_7 G fun o es ep ho hd _ hf=>?_;clear G;unfold nsIn at e;split at e
 ·rename_i c d es' n' sl q;have:=X _ _ q;rw [ho] at this;cases this;cases hd;split at e
  ·rename_i en he;cases e;rw [<- hf];unfold nsFind findBy;rw [<- Array.find?_toList,he]
   rfl
  ·split at e <;> cases e
 ·cases e
theorem wA {R:WRecords} {args:List WData} (h:WShape.hasAll R args [.list .int]=true):∃ ns:List Int,args=[.list (ns.map WData.int)] :=
 let ⟨_,_,e,h1,h2⟩:=hasAllW_cons h
 let ⟨_,e1,h3⟩:=hasW_list h1
 let ⟨ns,e2⟩:=items_int h3
 ⟨ns,by rw [e,hasAllW_nil h2,e1,e2]⟩
theorem w4 {P:Params} {h:Heap} {v:Value} {n:Int} (w:Well P h v (.int n)):∃ t,.int n t=v:=by cases w;exact ⟨_,rfl⟩
theorem ur {P:Params} {h:Heap} {v:Value} {xs:List WData} (w:Well P h v (.list xs)):∃ l vs,.ref l=v/\h.get? l=some { cls:=.type "list", data:=.seq vs.toArray }/\WellAll P h vs xs:=by
 cases w with | list h1 h2=>exact ⟨_,_,rfl,h1,h2⟩
theorem rD {P:Params} {h:Heap} {vs:List Value} (w:WellAll P h vs []):[]=vs:=by cases w;rfl
theorem qj {P:Params} {h:Heap} {X:List Addr} {ns:List Int}:∀ {vs:List Value},WellAll P h vs (ns.map WData.int)->VRs h X vs (ns.map AV.int):=by
 induction ns with
 | nil=>exact fun w=>rD w▸.nil
 | cons n ns ih =>
   intro vs w;refine o2_5 (wellAll_cons_inv w) fun v vs' rf2 a b=>?_;subst rf2;refine o1_2 (w4 a) fun t rf1=>?_;subst rf1;exact .cons (.int ..) (ih b)
theorem wZ {P:Params} {h:Heap} {vals:List Value} {xs:List WData} (w:WellAll P h vals [.list xs]):∃ l vs,vals=[.ref l]/\h.get? l=some { cls:=.type "list", data:=.seq vs.toArray }/\WellAll P h vs xs:=by
 refine o2_5 (wellAll_cons_inv w) fun v vs' rf2 a b=>?_;subst rf2;refine o2_5 (ur a) fun l vs rf2 hl hv=>?_;subst rf2;exact ⟨l,vs,by rw [rD b],hl,hv⟩
theorem wM {P:Params} {a:Addr} (h:(!(a == 73 || a == 80 || a == 311 || a == 321))=true):(KA P).lookup a=(hx1.heap_1 P).lookup a:=kq (q:=fun a=>!(a == 73 || a == 80 || a == 311 || a == 321)) h
theorem CU {P:Params} {h:Heap} (X:(hx1.heap_1 P).In h):(KA P).In h:=fun a o e=>by
 have hq:=iQ (l:=hx1.heap_1 P) (q:=fun p=>!(p.1 == 73 || p.1 == 80 || p.1 == 311 || p.1 == 321)) e
 rw [wM hq] at e;exact X a o e
theorem rF (P:Params):∀ t ∈ uB,∃ c vs ps cs,(hx1.heap_1 P).lookup t=some (tableObj vs)/\TriplesOk vs.toList/\(hx1.heap_1 P).lookup c=some ⟨.type "code", ps,.fields cs,#[]⟩/\cs[11]? = some (.ref t):=fun t ht=>by
 have:t=73\/t=80:=by simpa [uB] using ht
 rcases this with rfl | rfl
 ·exact ⟨77,_,_,_,rfl,trivial,rfl,rfl⟩
 ·exact ⟨84,_,_,_,rfl,trivial,rfl,rfl⟩
theorem lD (P:Params):∀ t,t=311\/t=321->∃ c ps cs,(hx1.heap_1 P).lookup t=some (tableObj #[])/\(hx1.heap_1 P).lookup c=some ⟨.type "code", ps,.fields cs,#[]⟩/\cs[11]? = some (.ref t):=fun t ht=>by
 rcases ht with rfl | rfl
 ·exact ⟨313,_,_,rfl,rfl,rfl⟩
 ·exact ⟨323,_,_,rfl,rfl,rfl⟩
theorem law_holds:PySem.Challenge.rw_xr0025_02.Holds:=by
 refine hx1 ?_;intro w dZ ee mg mb G Y a o pm cd doc dV kV hget hdata hcode hdflt hmg hgens args vals as hpre hlay hreads hwell hlow;have X:(hx1.heap_1 w.params).In ee.heap:=kIn_of Y;have XK:=CU X;have g:GA w mg mb:=⟨fun x v e=>tK XK G.T.g e,fun x e=>ns_none_of XK G.T.g e,G.T.builtins⟩;have ok:=okA (Z:=[]) g;have B:Bs (CA w mg mb []) ee.heap:=⟨XK,G.T.g,G.T.b,G.T.nolimit,fun t ht=>by
  refine o4_8 (rF w.params t ht) fun c vs ps cs e tr _ _=>?_;exact ⟨vs,X _ _ e,tr⟩⟩
 have ha:a=329:=by
  have h1:=g.glo "law" (.ref 329) rfl
  have h2:mg "law" = some (.ref a):=hmg
  rw [h1] at h2;injection h2 with h3
  injection h3 with h4
  exact h4.symm
 subst ha;have hp0:WShape.hasAll PySem.Challenge.rw_xr0025_02.row.toRowW.records args [.list .int]=true:=(Bool.and_eq_true_iff.mp hpre).1;refine o1_2 (wA hp0) fun ns rf1=>?_;subst rf1;refine o2_5 (wZ hwell) fun l vs rf2 hl hvs=>?_;subst rf2;have efeet:fj (fH 311 []++fH 321 [])=[311,321]:=rfl;have h2t:∀ b,b ∈ fj (fH 311 []++fH 321 [])->b=311\/b=321:=fun b hb=>by rw [efeet] at hb;simpa using hb
 have rv:VRs ee.heap ((CA w mg mb []).T++fj (fH 311 []++fH 321 [])) [Value.ref l] [.lst (ns.map AV.int)]:=.one (.lst hl (fun q=>by
  rcases au.mp q with q | q
  ·refine o4_8 (rF w.params l q) fun c tv ps cs e tr _ _=>?_;rw [X _ _ e] at hl;cases hl
  ·refine o3_6 (lD w.params l (h2t l q)) fun c ps cs e _ _=>?_;rw [X _ _ e] at hl;cases hl) (qj hvs))
 refine dF (fc_topM ok (n:=6) (f:=329) (M:=fH 311 []++fH 321 []) (args:=[.lst (ns.map .int)]) (ab:=[("script", .lst (ns.map .int))]) (P:=fun f S=>f = .ret (.bool true)/\∃ c3 c4,∀ p ∈ fH 311 c3++fH 321 c4,p ∈ S.M) ⟨⟨_,rfl,rfl⟩,⟨_,_,_,_,rfl,rfl,rfl,rfl⟩,rfl,rfl,rfl,(fun x c h=>by cases h),rfl,rfl,rfl,by decide⟩ (by decide) (by decide) rfl (wu fun _=>rfl) (by intro x hx;simp at hx;subst hx;rfl) ?_ ⟨rfl,by decide,by decide⟩ B rv ?_ (by rw [efeet];decide) ?_ ?_)
 ·intro L;change EX (CA w mg mb []) 6 (jg w L) _ (qG w) _;exact Bd g (n:=0) plain_all fun S c3 c4 h=>⟨rfl,c3,c4,h⟩
 ·intro p hp;have:p=(311,AO.fix (tabObj #[]))\/p=(321,AO.fix (tabObj #[])):=by simpa [fH,tabL] using hp
  rcases this with rfl | rfl
  ·refine o3_6 (lD w.params 311 (.inl rfl)) fun c ps cs e _ _=>?_;exact ⟨_,rfl,X _ _ e⟩
  ·refine o3_6 (lD w.params 321 (.inr rfl)) fun c ps cs e _ _=>?_;exact ⟨_,rfl,X _ _ e⟩
 ·intro b hb;refine o3_6 (lD w.params b (h2t b hb)) fun c ps cs e _ _=>?_;refine ⟨fun hO=>?_,fun hT=>?_,_,X _ _ e⟩
  ·rcases hO with ⟨o,e⟩ | e | e | e
   ·have hq:=iQ (l:=hx1.heap_1 w.params) (q:=fun p=>!(p.1 == 73 || p.1 == 80 || p.1 == 311 || p.1 == 321)) e
    rcases h2t b hb with rfl | rfl <;> cases hq
   ·rcases h2t b hb with rfl | rfl <;> cases e
   ·rcases h2t b hb with rfl | rfl <;> cases e
   ·rcases h2t b hb with rfl | rfl <;> cases e
  ·have:b=73\/b=80:=by simpa [CA,uB] using hT
   rcases h2t b hb with rfl | rfl <;> rcases this with e | e <;> cases e
 ·intro v s' f S' Xx p rr st hob;refine o0_2 p fun p zz=>?_;refine o2_3 zz fun c3 c4 hM=>?_;subst p;cases rr with
  | ret r =>
    refine VR.lY r fun e_0=>?_;subst e_0;have t311:s'.heap.get? 311=some (tabObj (tabL c3).toArray):=hob (311,AO.fix (tabObj (tabL c3).toArray)) (hM _ (af _ (aj ..)));have t321:s'.heap.get? 321=some (tabObj (tabL c4).toArray):=hob (321,AO.fix (tabObj (tabL c4).toArray)) (hM _ (aa _ (aj ..)));refine ⟨.inl ⟨.bool true,.bool true,[],rfl,fun _=>rfl,ReadsW.bool true,?_,fun _=>⟨List.nodup_nil,fun _ hm=>(nomatch hm)⟩⟩,⟨fun b o e=>?_,fun b o e=>?_⟩,st.os,st.bare (.of_eq hgens)⟩
    ·first | rfl | wrow_post
    ·by_cases hb:b ∈ (CA w mg mb []).T
     ·refine o4_8 (rF w.params b hb) fun c tv ps cs e1 tr e2 e3=>?_;have e4:=X _ _ e1;rw [e4] at e;cases e;refine o1_4 (st.heap.tabs b hb tv e4 tr) fun vs' e5 _ zz=>?_;refine o1_2 zz fun more rf4=>?_;subst rf4;exact .inr (.inl ⟨⟨c,_,cs,X _ _ e2,rfl,rfl,e3⟩,rfl,tv,more,rfl,e5⟩)
     ·by_cases hb2:b ∈ fj (fH 311 []++fH 321 [])
      ·have h3:=h2t b hb2;refine o3_6 (lD w.params b h3) fun c ps cs e1 e2 e3=>?_;have e4:=X _ _ e1;rw [e4] at e;cases e;rcases h3 with rfl | rfl
       ·exact .inr (.inl ⟨⟨c,_,cs,X _ _ e2,rfl,rfl,e3⟩,rfl,#[],(tabL c3).toArray,rfl,by rw [Array.empty_append];exact t311⟩)
       ·exact .inr (.inl ⟨⟨c,_,cs,X _ _ e2,rfl,rfl,e3⟩,rfl,#[],(tabL c4).toArray,rfl,by rw [Array.empty_append];exact t321⟩)
      ·exact .inl (st.heap.keep b o e hb2 hb)
    ·by_cases hb:b ∈ (CA w mg mb []).T
     ·refine o4_8 (rF w.params b hb) fun c tv ps cs e1 tr e2 e3=>?_;refine o1_3 (st.heap.tabs b hb tv (X _ _ e1) tr) fun vs' e5 _=>?_;exact ⟨_,e5⟩
     ·by_cases hb2:b ∈ fj (fH 311 []++fH 321 [])
      ·rcases h2t b hb2 with rfl | rfl
       ·exact ⟨_,t311⟩
       ·exact ⟨_,t321⟩
      ·exact ⟨o,st.heap.keep b o e hb2 hb⟩
end Mine
end
theorem PySem.Challenge.cw_xr0025_02_holds : PySem.Challenge.rw_xr0025_02.Holds :=
  Mine.law_holds
