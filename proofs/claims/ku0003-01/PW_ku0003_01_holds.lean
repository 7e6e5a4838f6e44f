import PyProof.Rows.All
import Wide.All
import OpenK.AllK
import Wide.FinOn
import Lean
import PySem.Challenge.RW_ku0003_01
open PySem PySem.W PyProof.Rows
set_option Elab.async false
set_option linter.all false
set_option tactic.hygienic false
set_option compiler.extract_closed false
set_option bootstrap.genMatcherCode false
set_option genSizeOf false
set_option maxRecDepth 1000000
set_option maxHeartbeats 0
open _root_.Array renaming length_toList->aU, getElem?_eq_getElem->aY, getElem?_eq_some_iff->bF, getElem?_toList->b9, size_push->dk, getElem?_eq_none->du, getElem?_push->eG, toList_inj->eR, getElem?_setIfInBounds_self_of_lt->ft, replicate->fX, getElem?_setIfInBounds_ne->gU, perm_iff_toList_perm->jx
open _root_.Bool renaming and_eq_true_iff->b5, false_eq_true->cB, eq_iff_iff->dO, and_eq_true->dZ, or_eq_true->fW
open _root_.Classical renaming byContradiction->aO, not_not->eu
open _root_.Exists renaming elim->et
open _root_.False renaming elim->kY
open _root_.ForInStep renaming done->l0
open _root_.Function renaming comp->bM
open _root_.Int renaming le_antisymm->aj, lt_or_gt_of_ne->aT, self_le_toNat->bT, natAbs->bZ, natAbs_mul->dt, mul_assoc->dF, add_zero->dW, fmod_eq_emod_of_nonneg->d7, toNat_natCast->er, mul_eq_zero->e9, lt_trichotomy->fo, mul_add->fD, mul_neg_of_neg_of_pos->fH, natCast_mul->fV, neg_mul->gj, zero_mul->gN, mul_nonneg->gO, add_mul->iD, mul_lt_mul_of_pos_right->i6, fdiv_eq_ediv_of_nonneg->ju, mul_pos_of_neg_of_neg->jD, mul_neg_of_pos_of_neg->jE, le_refl->jK, compare_eq_lt->jL, compare_eq_gt->jM, add_assoc->jX, zero_add->kW, le_of_eq->kX, natCast_add->k8, one_mul->lW, mul_one->lX, mul_neg->lY, add_le_add->lZ
open _root_.LE renaming le->iC
open _root_.LT renaming lt->cA
open _root_.List renaming getElem?_eq_getElem->ae, getElem?_map->ah, mem_singleton->ak, getD_eq_getElem?_getD->aw, mem_cons_of_mem->az, mem_of_getElem?->aF, range->aG, map_map->aP, mem_cons->aQ, getElem?_eq_some_iff->aV, mem_cons_self->aW, mem_iff_getElem?->bE, mem_map->bK, length_map->bR, not_mem_nil->cb, mem_range->cj, getElem?_range->cs, mem_append_left->cM, mem_filterMap->cO, mem_append_right->cQ, getElem?_eq_none->cS, length_range->dJ, filterMap_cons->dS, getElem_mem->dY, mem_append->eh, map_congr_left->eF, replicate->eN, length_cons->eQ, map->fC, map_append->fU, getElem?_replicate->gi, drop_of_length_le->gM, map_cons->ir, mem_erase_of_ne->iB, range_succ->iO, toArray->i5, ext_getElem?->jJ, map_take->jU, length_erase_of_mem->jV, lookup_cons->kj, length_eq_zero_iff->kl, take_of_length_le->kT, pairwise_lt_range->kU, nodup_cons->k6
open _root_.List.Pairwise renaming imp_of_mem->jW
open _root_.List.cons renaming injEq->k7
open _root_.Nat renaming le_trans->ab, lt_of_lt_of_le->ad, le_refl->ag, le_antisymm->av, ne_of_gt->aB, le_succ->aD, lt_or_gt_of_ne->aI, le_of_lt->aJ, lt_succ_self->bo, lt_of_le_of_lt->bU, ne_of_lt->bW, zero_le->bY, le_succ_of_le->b8, le_add_right->cI, sub_le->cZ, le_of_eq->dj, min_le_left->dN, mul_le_mul_left->dQ, succ_pos->dU, min_eq_right->eM, mul_le_mul_right->fB, mul_assoc->fM, min_eq_left->fT, pow_add->gh, lt_trans->gK, lt_succ_of_lt->gL, succ_ne_zero->ic, pow_le_pow_right->iA, two_pow_pos->iM, div_add_mod->iN, mul_succ->i3, le_total->i4, lt_trichotomy->jI, lt_irrefl->jT, min_le_right->kh, mod_lt->kR, beq->kS, eq_of_beq_eq_true->lu
open _root_.Ne renaming symm->iZ
open _root_.Option renaming map_eq_some_iff->aq, bind_eq_some_iff->cH, map_some->dv, any_eq_true->jq, isNone_iff_eq_none->jC
open _root_.Option.some renaming inj->ay, injEq->eo
open _root_.Prod.mk renaming injEq->iq
open _root_.PyProof renaming noPylong_small->gJ
open _root_.PyProof.Rows renaming getItem_tuple->jp
open _root_.PySem renaming wpAny_bind->aa, wpAny_pure->ai, wpAny_execs_cons->au, wpAny_execs_nil->aH, wpAny_Call_NameR->aK, wpAny_mono->bb, wpAny_holding->bp, wpAny_Assign_Name->bu, wpAny_seqItems->bN, wpAny_field->bS, wpAny_newObj_type->ce, wpAny_callSpecial?_slot->cq, wpAny_call->cw, wpAny_with_toks->cz, wpAny_of_eq->cD, callWith_type->cE, wpAny_assign_Name->cJ, wpAny_Return_some->cL, wpAny_items_cons->cP, wpAny_pyIter_list->cT, wpAny_newTuple->cW, codeAny_builtin->c7, wpAny_call_entry->c8, wpAny_Constant_int->dl, wpAny_truthy_bool->dq, wpAny_rule->dB, plainId_quiet->dE, wpAny_loadPart'->dL, wpAny_newFunctionEnv_cells->d5, wpAny_updateSeq->eg, wpAny_standAt->ez, wpAny_comprehension_free->eA, entry_listiter_next->eE, wpAny_isInstance->eL, wpAny_pyNext_list_item->eY, wpAny_storeName_local->fh, wpAny_BinOp->fz, wpAny_askSetting->fF, wpAny_Constant_bool->fK, wpAny_specialOf->fR, wpAny_setField_rec->f9, Builtin->gd, wpAny_setField->gF, wpAny_of_in1->gG, wpAny_setFlight_noneW->gX, wpAny_isTrue_Compare1->gY, codeAny_call_function->gZ, wpAny_letOwnedTupleGo_listiter->hY, wpAny_eqBool_int->hZ, wpAny_Tuple->iy, codeAny_forLoop_any->iP, Fin->i9, wpAny_Subscript_list_slice->jl, typeIs_int->jm, wpAny_sharingNotTold_none->jz, wpAny_throw->jH, wpAny_handled->jP, wpAny_attempt->jQ, wpAny_pyNext_enum_item->kL, codeAny_mono->kM, codeAny_compStart_list->kN, wpAny_items_nil->kZ, wpAny_tryCatch->lT, wpAny_letGo->lU
open _root_.PySem.Around renaming under_plainId->dG, frames_deeper->fA
open _root_.PySem.AutoFloatOps renaming sub_if_1->lh, add_if_1->lp
open _root_.PySem.AutoIntOps renaming mod_1->ke, floordiv_1->lb
open _root_.PySem.AutoSeq1 renaming sub_tuple_tuple->jS
open _root_.PySem.Builtin.List renaming listSameRef->eC, listExtendWith->iY, listTouch->kQ
open _root_.PySem.Builtin.SmallTypes renaming nextOf->dc, ownedTupleIsFree->dX
open _root_.PySem.Builtin.SmallTypes.calledThroughType renaming match_1->kb
open _root_.PySem.Builtin.Tuple renaming tupleCompareSizes->gS
open _root_.PySem.Calls renaming spliced_cons->ar, spliced_nil->aA, evalArgs_plain->aE, callWith_builtin->bV, callWith_function->b7, call_function_entry->ef, call_len_list->iQ, Name_function_global->jo
open _root_.PySem.Challenge renaming pw_ku0003_01->dM, rw_ku0003_01->iL
open _root_.PySem.F renaming plain_extend_loop->dA, plain_sum_loop->e8, slot_zip_next->fj, typeCall_enumerate_1->iK, newCall_enumerate_1->iW, entry_enumerate_new->iX, args_object_init_2->jn, entry_extend_loop->jA, called_enumerate->jR, plain_list_iadd->j9, args_zip_next_1->ka, entry_zip_next->kO, entry_sum_loop->kP, slot_int_rmul->la
open _root_.PySem.Float64 renaming zero->ba, isZero->gH, isFinite->j8
open _root_.PySem.Heap renaming get?_push_of_some->af, get?_push_size->am, size_push->ao, lt_size->aX, get?_update_self->bv, get?_update_other->bJ, size_update->bQ, ExtBut->cY
open _root_.PySem.Obj renaming mapSeq->cX, data_mapFields->dm, isFreed_of_fields->d9
open _root_.PySem.P renaming iadd_int->j7, lt_int->lV
open _root_.PySem.PyData renaming int->eZ, list->iz
open _root_.PySem.Str renaming ofString->cF
open _root_.PySem.Value renaming ref->aM, int->dH, type->d6, none->eB
open _root_.PySem.W.KasT renaming kasWp_bind->fS
open _root_.PySem.Walks renaming list->ib
open _root_.PySem.WalksT renaming enumerate->c9
open _root_.UInt64 renaming toNat->iV
namespace Mine
section
open PySem PySem.W PyProof.Rows Builtin Builtin.ObjectAttr Builtin.Getset_descriptor
noncomputable def st(i:Nat):Stmt:=(PySem.Challenge.pw_ku0003_01.main.body[i]?).getD (.Pass ⟨0,0,0,0⟩)
noncomputable def fName:Stmt->Str
 |.FunctionDef n ..=>n
 |_=>""
noncomputable def Bo:Stmt->Arguments
 |.FunctionDef _ a ..=>a
 |_=>{posonlyargs:=[],args:=[],vararg:=none,kwonlyargs:=[],kw_defaults:=[],kwarg:=none,defaults:=[]}
noncomputable def gR:Stmt->List Stmt
 |.FunctionDef _ _ b ..=>b
 |_=>[]
noncomputable def aZ:Stmt->Scope
 |.FunctionDef _ _ _ _ _ _ sc ..=>sc
 |_=>{kind:=.function,names:=[],isGenerator:=false,isCoroutine:=false}
noncomputable def pX(t:Stmt)(qual:Str)(EM EK pm cd doc:Value):FuncData :=
 {name:=fName t,qualname:=qual,params:=Bo t,body:=.stmts (gR t),scope:=aZ t,globals:=3,closure:=[],defaults:=EM,kwdefaults:=EK,doc,pyModule:=pm,code:=cd}
noncomputable def cBody:Stmt->List Stmt
 |.ClassDef _ _ _ b ..=>b
 |_=>[]
noncomputable def me(i j:Nat):Stmt:=((cBody (st i))[j]?).getD (.Pass ⟨0,0,0,0⟩)
noncomputable def globs:List (Str×Value):=
 [("_wall",.ref 49),("_is_int",.ref 69),("_pull",.ref 76),("_same",.ref 83),("groupby",.ref 124),("_grouper",.ref 169),("_count_kind",.ref 181),("count",.ref 222),("itemgetter",.ref 267),
  ("_rank",.ref 278),("covariance",.ref 285),("TupleComp",.ref 309),("_law_rows",.ref 318),("_law_signs",.ref 323),("_law_due",.ref 328),("_law_threes",.ref 335),("_law_pieces",.ref 340),
  ("fsum",.builtin "math.fsum"),("sumprod",.builtin "math.sumprod")]
noncomputable def blts:List (Str×Value):=
 [("len",.builtin "len"),("range",.type "range"),("enumerate",.type "enumerate"),("zip",.type "zip"),("sum",.builtin "sum"),("isinstance",.builtin "isinstance"),("float",.type "float"),("sorted",.builtin "sorted"),
  ("map",.type "map"),("list",.type "list"),("iter",.builtin "iter"),("next",.builtin "next"),("type",.type "type"),("int",.type "int"),("bool",.type "bool"),("tuple",.type "tuple"),("str",.type "str"),("StopIteration",.type "StopIteration")]
noncomputable def fns:List (Nat×Stmt×Str×Value×Value):=
 [(69,st 6,"_is_int",.none,.none),(76,st 7,"_pull",.none,.none),(83,st 8,"_same",.none,.none),(99,me 9 1,"groupby.__init__",.ref 92,.none),(106,me 9 2,"groupby.__iter__",.none,.none),
  (113,me 9 3,"groupby._step",.none,.none),(120,me 9 4,"groupby.__next__",.none,.none),(151,me 10 1,"_grouper.__init__",.none,.none),(158,me 10 2,"_grouper.__iter__",.none,.none),
  (165,me 10 3,"_grouper.__next__",.none,.none),(181,st 11,"_count_kind",.none,.none),(278,st 16,"_rank",.none,.ref 271),(285,st 17,"covariance",.none,.none),(306,me 19 1,"TupleComp.compare",.none,.none),
  (299,me 19 0,"TupleComp.__init__",.none,.none),(318,st 21,"_law_rows",.none,.none),(323,st 22,"_law_signs",.none,.none),(328,st 23,"_law_due",.none,.none),(335,st 24,"_law_threes",.none,.none),(340,st 25,"_law_pieces",.none,.none)]
noncomputable def slotTab:List (Nat×Str×Nat×Nat):=
 [(124,"_currgrouper",125,0),(124,"_currkey",126,1),(124,"_currvalue",127,2),(124,"_has_currkey",128,3),(124,"_has_currvalue",129,4),(124,"_has_tgtkey",130,5),(124,"_it",131,6),(124,"_keyfunc",132,7),(124,"_serial",133,8),(124,"_tgtkey",134,9),
  (169,"_number",170,0),(169,"_parent",171,1),(169,"_tgtkey",172,2),(222,"_cnt",223,0),(222,"_fast",224,1),(222,"_step",225,2),(267,"_items",268,0)]
noncomputable def metTab:List (Nat×Str×Nat):=
 [(124,"__init__",99),(124,"__iter__",106),(124,"_step",113),(124,"__next__",120),(169,"__init__",151),(169,"__iter__",158),(169,"__next__",165),(222,"__init__",197),(222,"__iter__",204),(222,"__next__",211),(267,"__init__",242),(267,"__call__",249)]
noncomputable def clsTab:List Nat:=[124,169,222,267]
noncomputable def fns2:List (Nat×Stmt×Str×Value×Value):=
 [(197,me 12 1,"count.__init__",.ref 190,.none),(204,me 12 2,"count.__iter__",.none,.none),(211,me 12 3,"count.__next__",.none,.none),(242,me 14 1,"itemgetter.__init__",.none,.none),(249,me 14 2,"itemgetter.__call__",.none,.none)]
noncomputable def dicD:Data->Option (Array DictEntry)
 |.dict es _=>some es
 |_=>none
noncomputable def fldD:Data->Option (Array Value)
 |.fields vs=>some vs
 |_=>none
noncomputable def fnD:Data->Option FuncData
 |.func f=>some f
 |_=>none
noncomputable def strV:Value->Bool
 |.str _ _=>true
 |_=>false
noncomputable def intV:Value->Bool
 |.int _ _=>true
 |_=>false
noncomputable def booV:Value->Bool
 |.bool _=>true
 |_=>false
noncomputable def refV:Value->Option Addr
 |.ref p=>some p
 |_=>none
noncomputable def stV:Value->Option Str
 |.str q _=>some q
 |_=>none
noncomputable def dicO(K:Frag)(a:Nat):Option (Array DictEntry):=(K.lookup a).bind λo=>dicD o.data
noncomputable def md(K:Frag)(a:Nat):Array DictEntry:=(dicO K a).getD #[]
noncomputable def qO(K:Frag)(a:Nat):Bool:=(dicO K a).any λes=>es.toList.all λe=>strV e.key
noncomputable def tY(K:Frag)(a:Nat):Value×Value×Value:=(((K.lookup a).bind λo=>fnD o.data).map λf=>(f.pyModule,f.code,f.doc)).getD (.none,.none,.none)
noncomputable def cdq(K:Frag)(v:Value):Option Str:=(refV v).bind λc=>(K.lookup c).bind λo=>(fldD o.data).bind λvs=>(vs[1]?).bind stV
noncomputable def intO:Value->Option (Int×Tok)
 |.int i t=>some (i,t)
 |_=>none
noncomputable def typV:Value->Option String
 |.type t=>some t
 |_=>none
noncomputable def x6(K:Frag)(c P:Nat):Bool:=(K.lookup c).any λo=>typV o.cls==some "code"&&(fldD o.data).any λvs=>((vs[11]?).bind refV==some P)&&(refV (vs.getD 11 .none)==some P&&(strV (vs.getD 18 .none)&&(intV (vs.getD 7 .none)&&(booV (vs.getD 9 .none)&&intV (vs.getD 10 .none)))))
noncomputable def asL:List Nat:=[2,3,43,45,46,48,49,50,57,58,59,60,63,65,66,68,69,70,72,73,75,76,77,79,80,82,83,91,92,93,95,96,98,99,100,102,103,105,106,107,109,110,112,113,114,116,117,119,120,121,123,124,125,126,127,128,129,130,131,132,133,134,144,145,147,148,150,151,152,154,155,157,158,159,161,162,164,165,166,168,169,170,171,172,175,177,178,180,181,189,190,191,193,194,196,197,198,200,201,203,204,205,207,208,210,211,212,214,215,217,218,219,221,222,223,224,225,235,236,238,239,241,242,243,245,246,248,249,250,252,253,255,256,257,259,260,262,263,264,266,267,268,271,272,274,275,277,278,279,281,282,284,285,293,295,296,298,299,300,302,303,305,306,307,308,309,310,311,314,317,318,319,322,323,324,327,328,329,331,332,334,335,336,339,340,341,344,345]
noncomputable def uU(h:Heap):Frag:=asL.filterMap λa=>(h.get? a).map λo=>(a,o)
noncomputable def fnN(K:Frag)(a:Nat):Option FuncData:=((K.lookup a).bind λo=>fnD o.data).map λf=>{f with pyModule:=.none,code:=.none,doc:=.none}
noncomputable def bL(K:Frag):List Bool:=[qO K 3,qO K 308,qO K 271,qO K 2,x6 K 284 280,x6 K 344 342,(K.lookup 280).isNone,(K.lookup 342).isNone,fnIn K 249,makesIn K 309,plainOver K 309,(clsIn K 309).any (·.hasDict),keepIn K (.ref 309),keepIn K (.ref 278)]
noncomputable def nsL(K:Frag):List (Option Value):=[nsFind (md K 308) "compare",nsFind (md K 308) "__init__",nsFind (md K 308) "__getattribute__",nsFind (md K 308) "__getattr__",nsFind (md K 308) "comp_select_list",nsFind (md K 308) "__setattr__",nsFind (md K 271) "reverse",nsFind (md K 271) "ties",nsFind (md K 2) sharingNotToldKey,nsFind (md K 2) "sys.recursionlimit",nsFind (md K 3) "law"]
noncomputable def nsV:List (Option Value):=[some (.ref 306),some (.ref 299),none,none,none,none,some (.bool false),some (.str "average" 712),none,none,some (.ref 345)]
noncomputable def mxL(K:Frag):Option (Int×Bool):=((nsFind (md K 3) "_MAXSIZE").bind intO).map λp=>(p.1,p.2==0)
noncomputable def fdL(K:Frag):List (Option (Option Value)):=[findIn K (.ref 169) "__len__",findIn K (.ref 169) "__length_hint__",findIn K (.ref 309) "__init__",findIn K (.ref 309) "__setattr__",takerIn K 309 "comp_select_list"]
noncomputable def fdV:List (Option (Option Value)):=[some none,some none,some (some (.ref 299)),some (some (.builtin "object.__setattr__")),some none]
noncomputable def tyL(K:Frag):List (Option Value):=[(K.lookup 306).map (·.cls),(K.lookup 299).map (·.cls),typeIn K (.ref 299),some (tY K 345).2.1,some (tY K 285).2.1]
noncomputable def tyV:List (Option Value):=[some (.type "function"),some (.type "function"),some (.type "function"),some (.ref 344),some (.ref 284)]
noncomputable abbrev tcO:Obj:=excClassObj "TupleComp" "TupleComp" 309 308 [.type "object"] [.type "object"] true [] [] false none none none none (some (.str "TupleComp" 753)) (some (.str "TupleComp" 761)) (some (.bool true)) "object.__new__"
noncomputable def tupL(K:Frag):List (Option (Value×Data)):=[(K.lookup 92).map λo=>(o.cls,o.data),(K.lookup 190).map λo=>(o.cls,o.data)]
noncomputable def tupV:List (Option (Value×Data)):=[some (.type "tuple",.seq #[.none]),some (.type "tuple",.seq #[.int 0 603,.int 1 604])]
noncomputable def fnsA:List (Nat×Stmt×Str×Value×Value):=fns ++ fns2 ++ ([(345,st 26,"law",.none,.none)]:List (Nat×Stmt×Str×Value×Value))
noncomputable def fnL(K:Frag):=fnsA.map λp=>(fnN K p.1,cdq K (tY K p.1).2.1)
noncomputable def fnV:=fnsA.map λp=>(some (pX p.2.1 p.2.2.1 p.2.2.2.1 p.2.2.2.2 .none .none .none),some p.2.2.1)
noncomputable def rdL(K:Frag):=slotTab.map λx=>(findObj K x.1 (some emptyDict) x.2.1,slotIn K x.2.2.1 x.1,takerIn K x.1 x.2.1,typeIn K (.ref x.2.2.1))
noncomputable def rdV:=slotTab.map λx=>(some (Builtin.ObjectAttr.Found.bind (.builtin "member_descriptor.__get__") (.ref x.2.2.1)),some x.2.2.2,some (some (aM x.2.2.1)),some (d6 "member_descriptor"))
noncomputable def clL(K:Frag):=clsTab.map λC=>((findIn K (.ref C) "__getattribute__",findIn K (.ref C) "__getattr__",findIn K (.ref C) "__setattr__"),plainOver K C,makesIn K C,keepIn K (.ref C))
noncomputable def clV:=clsTab.map λ_=>((some (some (Value.builtin "object.__getattribute__")),some (none:Option Value),some (some (Value.builtin "object.__setattr__"))),true,true,true)
noncomputable def meL(K:Frag):=metTab.map λx=>(findIn K (.ref x.1) x.2.1,typeIn K (.ref x.2.2))
noncomputable def meV:=metTab.map λx=>(some (some (aM x.2.2)),some (d6 "function"))
noncomputable def BL(K:Frag):=((bL K,nsL K,mxL K,fdL K,tyL K,K.lookup 309,tupL K),(globs.map λp=>nsFind (md K 3) p.1,blts.map λp=>nsFind (md K 3) p.1,fnL K),(rdL K,clL K,meL K))
noncomputable def BJ:=(((eN 14 true,nsV,some ((0x7fffffffffffffff:Int),false),fdV,tyV,some tcO,tupV):List Bool×List (Option Value)×Option (Int×Bool)×List (Option (Option Value))×List (Option Value)×Option Obj×List (Option (Value×Data))),(globs.map λp=>some p.2,blts.map λ_=>(none:Option Value),fnV),(rdV,clV,meV))
noncomputable def obsL(s:Shared):=((s.heap.objs.size,s.toks,s.heap.get? 280,s.heap.get? 342),BL (uU s.heap))
noncomputable def valL:=(((346,838,some {cls:=.none,data:=.fields #[]},some {cls:=.none,data:=.fields #[]}):Nat×Nat×Option Obj×Option Obj),BJ)
noncomputable abbrev pw:Program:=dM
noncomputable def vw:Program:={pw with main:={pw.main with body:=pw.main.body.drop 26}}
noncomputable def xr:List Str:=["fsum","sumprod","_wall","StatisticsError","_MAXSIZE","_is_int","_pull","_same","groupby","_grouper","_count_kind","count","itemgetter","_rank","covariance","TupleComp","_law_rows","_law_signs","_law_due","_law_threes","_law_pieces"]
theorem zp:∀w:World,(openEnds treeTable pw w 4898).map (λs=>(openSeen vw xr (importedModules pw.main.body) (λs=>xlAt vw [] s&&recOk (RowW.records (iL.row.toRowW)) s) true s,obsL s))=some (openGood vw xr,valL):=λw=>by
 unfold openEnds fencedOpening topFrom
 rw [PySem.W.Fast.te10274390034422433532,PySem.W.Fast.te14082659384304107361,PySem.W.Fast.te14364793385576792824,PySem.W.Fast.te4187177175401517315]
 kernel_rfl
end
noncomputable section
set_option genSizeOf false in
set_option genInjectivity false in
inductive LE where
 |v (i:Nat)|n (k:Nat)|a (x y:LE)|s (x y:LE)|m (k:Nat) (x:LE)|w (x:LE) (k:Nat)|q (k:Nat) (x:LE)|c (x:LE)|g (x:LE)
noncomputable def atV{α:Type}(z:α)(l:List α):Nat->α:=l.rec (λ_=>z) λx _ f i=>i.rec x λi _=>f i
noncomputable def LE.N(c:List Nat)(t:LE):Nat:=t.rec (λi=>atV 0 c i) (λk=>k) (λ_ _ x y=>x+y) (λ_ _ _ _=>0) (λk _ x=>k*x) (λ_ k x=>x*k) (λ_ _ _=>0) (λ_ _=>0) λ_ _=>0
noncomputable def LE.Z(c:List Nat)(d:List Int)(t:LE):Int:=t.rec (λi=>atV 0 d i) (λk=>(k:Int)) (λ_ _ x y=>x+y) (λ_ _ x y=>x-y) (λk _ x=>(k:Int)*x) (λ_ k x=>x*(k:Int)) (λk _ x=>-(k:Int)*x) (λx _=>(x.N c:Int)) λ_ x=>-x
noncomputable abbrev LF:=List Int×List Int
noncomputable def BM(p:List Int):List Int->List Int:=p.rec (λq=>q) λx p f q=>q.rec (x::p) λy q _=>(x+y)::f q
noncomputable def unL(i:Nat):List Int:=i.rec [1] λ_ l=>0::l
noncomputable def sclL(k:Int)(p:List Int):List Int:=p.rec [] λx _ l=>(k*x)::l
noncomputable def yG(p q:LF):LF:=(BM p.1 q.1,BM p.2 q.2)
noncomputable def tv(k:Int)(p:LF):LF:=(sclL k p.1,sclL k p.2)
noncomputable def LE.FN(t:LE):LF:=t.rec (λi=>(0::unL i,[])) (λk=>([(k:Int)],[])) (λ_ _ x y=>yG x y) (λ_ _ _ _=>([],[])) (λk _ x=>tv k x) (λ_ k x=>tv k x) (λ_ _ _=>([],[])) (λ_ _=>([],[])) λ_ _=>([],[])
noncomputable def LE.FZ(t:LE):LF:=t.rec (λi=>([],unL i)) (λk=>([(k:Int)],[])) (λ_ _ x y=>yG x y) (λ_ _ x y=>yG x (tv (-1) y)) (λk _ x=>tv k x) (λ_ k x=>tv k x) (λk _ x=>tv (-k) x) (λx _=>x.FN) λ_ x=>tv (-1) x
noncomputable def evL(p:List Int):List Int->Int:=p.rec (λ_=>0) λx _ f c=>c.rec 0 λy c _=>x*y+f c
theorem evL_nil(p:List Int):evL p []=0:=by cases p<;>rfl
theorem uf:∀p q c,evL (BM p q) c=evL p c+evL q c
 |[],q,c=>(kW _).symm
 |x::p,[],c=>(dW _).symm
 |x::p,y::q,[]=>rfl
 |x::p,y::q,z::c=>by
  show (x+y)*z+evL (BM p q) c=(x*z+evL p c)+(y*z+evL q c)
  rw [uf p q,iD,jX,jX,Int.add_left_comm (y*z)]
theorem ue(k:Int):∀p c,evL (sclL k p) c=k*evL p c
 |[],c=>(Int.mul_zero _).symm
 |x::p,[]=>(Int.mul_zero _).symm
 |x::p,z::c=>by
  show k*x*z+evL (sclL k p) c=k*(x*z+evL p c)
  rw [ue k p,fD,dF]
theorem xS:∀i c,evL (unL i) c=atV 0 c i
 |0,[]=>rfl
 |0,x::c=>(dW _).trans (lW _)
 |i+1,[]=>rfl
 |i+1,x::c=>by
  show 0*x+evL (unL i) c=atV 0 c i
  rw [xS i,gN,kW]
noncomputable def casL(c:List Nat):List Int:=c.rec [] λx _ l=>(x:Int)::l
theorem yB:∀(c:List Nat) i,atV 0 (casL c) i=((atV 0 c i:Nat):Int)
 |[],_=>rfl
 |_::_,0=>rfl
 |_::c,i+1=>yB c i
noncomputable def evF(c:List Nat)(d:List Int)(p:LF):Int:=evL p.1 (1::casL c)+evL p.2 d
variable(c:List Nat)(d:List Int)
theorem lQ(p q:LF):evF c d (yG p q)=evF c d p+evF c d q:=by
 show evL (BM _ _) _+evL (BM _ _) _=(_+_)+(_+_)
 rw [uf,uf,jX,jX,Int.add_left_comm (evL q.1 _)]
theorem lP(k:Int)(p:LF):evF c d (tv k p)=k*evF c d p :=
 (congr (congrArg _ (ue _ _ _)) (ue _ _ _)).trans (fD _ _ _).symm
theorem ug(k:Int):evF c d ([k],[])=k:=(dW _).trans ((dW _).trans (lX _))
theorem qL(p:LF):evF c d (tv (-1) p)=- evF c d p:=(lP c d _ p).trans (by rw [gj,lW])
theorem LE.okN(x:LE):(x.N c:Int)=evF c d x.FN:=by
 induction x with
 |v i=>exact((xS i _).trans (yB c i)).symm.trans (((dW _).trans (by rw [gN,kW])).symm:_=0*1+evL (unL i) (casL c)+0)
 |n k=>exact(ug c d k).symm
 |a x y ih ij=>exact((k8 _ _).trans (congr (congrArg _ ih) ij)).trans (lQ c d _ _).symm
 |m k x ih=>exact((fV _ _).trans (congrArg _ ih)).trans (lP c d _ _).symm
 |w x k ih=>exact((fV _ _).trans ((Int.mul_comm _ _).trans (congrArg _ ih))).trans (lP c d _ _).symm
 |_=>rfl
theorem LE.okZ(x:LE):x.Z c d=evF c d x.FZ:=by
 induction x with
 |v i=>exact(xS i d).symm.trans (kW _).symm
 |n k=>exact(ug c d k).symm
 |a x y ih ij=>exact(congr (congrArg _ ih) ij).trans (lQ c d _ _).symm
 |s x y ih ij=>exact((congr (congrArg HSub.hSub ih) ij).trans Int.sub_eq_add_neg).trans ((congrArg (evF c d x.FZ+·) (qL c d y.FZ).symm).trans (lQ c d _ _).symm)
 |m k x ih=>exact(congrArg _ ih).trans (lP c d _ _).symm
 |w x k ih=>exact((Int.mul_comm _ _).trans (congrArg _ ih)).trans (lP c d _ _).symm
 |q k x ih=>exact(congrArg _ ih).trans (lP c d _ _).symm
 |c x=>exact x.okN c d
 |g x ih=>exact(congrArg _ ih).trans (qL c d _).symm
noncomputable def relN(r x y:Nat):Prop:=r.rec (x<=y) λr _=>r.rec (x<y) λ_ _=>x=y
noncomputable def relZ(r:Nat)(x y:Int):Prop:=r.rec (x<=y) λr _=>r.rec (x<y) λ_ _=>x=y
theorem uJ:∀r x y,relN r x y↔relZ r (x:Int) (y:Int)
 |0,_,_=>Int.ofNat_le.symm
 |1,_,_=>Int.ofNat_lt.symm
 |_+2,_,_=>Int.ofNat_inj.symm
set_option genSizeOf false in
set_option genInjectivity false in
structure LC where
 (z no:Bool) (r k:Nat) (x y:LE)
noncomputable def LC.pos(t:LC):Prop:=bif t.z then relZ t.r (t.x.Z c d) (t.y.Z c d) else relN t.r (t.x.N c) (t.y.N c)
noncomputable def LC.den(t:LC)(no:Bool):Prop:=bif no then ¬t.pos c d else t.pos c d
noncomputable def coL(no:Bool)(r:Nat):Int×Int:=bif no then r.rec (-1,-1) λr _=>r.rec (-1,0) λ_ _=>(0,0) else r.rec (1,0) λr _=>r.rec (1,-1) λr _=>r.rec (1,0) λ_ _=>(-1,0)
theorem Av(no:Bool)(r:Nat)(x y:Int)(h:bif no then ¬relZ r x y else relZ r x y):0<=(coL no r).1*(y-x)+(coL no r).2:=by
 have e:∀z b:Int,0<=z+b->0<=1*z+b:=λz b h=>by rwa [lW]
 have f:∀b:Int,0<=x-y+b->0<=-1*(y-x)+b:=λb h=>by rwa [gj,lW,Int.neg_sub]
 have l:∀{a b:Int},a<=b->0<=b-a+0:=λh=>(dW _).symm▸Int.sub_nonneg_of_le h
 have m:∀{a b:Int},a<b->0<=b-a+-1:=λh=>Int.le_sub_one_of_lt (Int.sub_pos_of_lt h)
 cases no
 ·match r,h with
  |0,h=>exact e _ _ (l h)
  |1,h=>exact e _ _ (m h)
  |2,h=>exact e _ _ (l (kX h))
  |r+3,h=>exact f _ (l (kX (Eq.symm h)))
 ·match r,h with
  |0,h=>exact f _ (m (Int.lt_of_not_ge h))
  |1,h=>exact f _ (l (Int.le_of_not_gt h))
  |r+2,h=>exact(dW _).symm▸(gN _).symm▸jK 0
noncomputable def LC.dif(t:LC):LF:=bif t.z then yG t.y.FZ (tv (-1) t.x.FZ) else yG t.y.FN (tv (-1) t.x.FN)
noncomputable def LC.F(t:LC)(no:Bool):LF:=tv t.k (yG (tv (coL no t.r).1 t.dif) ([(coL no t.r).2],[]))
theorem LC.Fok(t:LC)(no:Bool)(h:t.den c d no):0<=evF c d (t.F no):=by
 unfold LC.F
 rw [lP,lQ,ug,lP]
 refine gO (Int.natCast_nonneg _) ?_
 obtain⟨z,no',r,k,x,y⟩:=t
 cases z
 ·have e:evF c d (yG y.FN (tv (-1) x.FN))=(y.N c:Int)-x.N c:=by rw [lQ,qL,<-x.okN,<-y.okN];rfl
  refine(congrArg (λq=>0<=(coL no r).1*q+(coL no r).2) e).mpr (Av no r _ _ ?_)
  cases no
  ·exact(uJ _ _ _).mp h
  ·exact λw=>h ((uJ _ _ _).mpr w)
 ·have e:evF c d (yG y.FZ (tv (-1) x.FZ))=y.Z c d-x.Z c d:=by rw [lQ,qL,<-x.okZ,<-y.okZ];rfl
  refine(congrArg (λq=>0<=(coL no r).1*q+(coL no r).2) e).mpr (Av no r _ _ ?_)
  cases no<;>exact h
noncomputable def badF(p:LF):Bool:=p.1.rec false λx l _=>Nat.blt 0 (-x).toNat&&(l.all (λx=>kS x.toNat 0)&&p.2.all λx=>kS x.natAbs 0)
theorem Dq:∀(p:List Int) (c:List Nat),p.all (λx=>kS x.toNat 0)=true->evL p (casL c)<=0
 |[],_,_=>jK 0
 |_::_,[],_=>jK 0
 |x::p,y::c,h=>by
  have h:=b5.mp h
  exact lZ (Int.mul_nonpos_of_nonpos_of_nonneg (Int.toNat_eq_zero.mp (lu h.1)) (Int.natCast_nonneg _)) (Dq p c h.2)
theorem Do:∀(p d:List Int),p.all (λx=>kS x.natAbs 0)=true->evL p d=0
 |[],_,_=>rfl
 |_::_,[],_=>rfl
 |x::p,y::c,h=>by
  have h:=b5.mp h
  show x*y+evL p c=0
  rw [Do p c h.2,Int.natAbs_eq_zero.mp (lu h.1),gN];rfl
theorem Dp(p:LF)(h:badF p=true):¬0<=evF c d p:=by
 obtain⟨p,q⟩:=p
 cases p with
 |nil=>cases h
 |cons x p =>
  have h:=b5.mp h
  have h':=b5.mp h.2
  refine λw=>absurd (Int.le_trans w (lZ (lZ (kX (lX x)) (Dq p c h'.1)) (kX (Do q d h'.2)))) λw=>?_
  have:0<=x:=by rwa [dW,dW] at w
  exact absurd (Nat.le_of_ble_eq_true h.1) (by rw [Int.toNat_of_nonpos (Int.neg_nonpos_of_nonneg this)];exact Nat.not_succ_le_zero 0)
noncomputable def dnL(g:LC)(l:List LC):Prop:=l.rec (g.den c d g.no) λt _ P=>t.den c d t.no->P
noncomputable def okL(g:LC)(l:List LC):LF->Bool:=l.rec (λp=>badF (yG p (g.F !g.no))) λt _ f p=>f (yG p (t.F t.no))
theorem Ae(g:LC):∀l p,0<=evF c d p->okL g l p=true->dnL c d g l
 |[],p,h,o=>aO λw=>Dp c d _ o (lQ c d p _▸Int.add_nonneg h (g.Fok c d _ (by
  cases e:g.no
  ·exact(e▸w:¬g.den c d false)
  ·exact aO (e▸w:¬g.den c d true))))
 |t::l,p,h,o=>λw=>Ae g l _ (lQ c d p _▸Int.add_nonneg h (t.Fok c d _ w)) o
noncomputable def reT:Nat->Nat->LE×Nat
 |0,n=>(.n 0,n)
 |f+1,n=>match n%16,n/16 with
  |0,n=>(.v (n%16),n/16)
  |1,n=>(.n (n/16%2^(n%16*(n%16))),n/16/2^(n%16*(n%16)))
  |2,n=>match reT f n with
   |(x,n)=>match reT f n with
    |(y,n)=>(.a x y,n)
  |3,n=>match reT f n with
   |(x,n)=>match reT f n with
    |(y,n)=>(.s x y,n)
  |4,n=>match reT f (n/16/2^(n%16*(n%16))) with
   |(x,r)=>(.m (n/16%2^(n%16*(n%16))) x,r)
  |5,n=>match reT f (n/16/2^(n%16*(n%16))) with
   |(x,r)=>(.w x (n/16%2^(n%16*(n%16))),r)
  |6,n=>match reT f (n/16/2^(n%16*(n%16))) with
   |(x,r)=>(.q (n/16%2^(n%16*(n%16))) x,r)
  |7,n=>match reT f n with
   |(x,r)=>(.c x,r)
  |8,n=>match reT f n with
   |(x,r)=>(.g x,r)
  |t,n=>(.v (t-9),n)
noncomputable def gQ(n:Nat):LC×Nat:=match bif kS (n/16%16) 15 then(n/256%4096,n/1048576) else(n/16%16,n/256) with
 |(k,m)=>match reT 9 m with
  |(x,r)=>match reT 9 r with
   |(y,r)=>(⟨kS (n%2) 1,kS (n/2%2) 1,n/4%4,k,x,y⟩,r)
noncomputable def pD:Nat->Nat->List LC
 |0,_=>[]
 |f+1,n=>bif kS n 0 then [] else match gQ n with
  |(x,r)=>x::pD f r
theorem fZ(n:Nat)(c:List Nat)(d:List Int)(h:true=okL (gQ n).1 (pD 20 (gQ n).2) ([],[])):dnL c d (gQ n).1 (pD 20 (gQ n).2):=Ae c d _ _ ([],[]) (jK 0) h.symm
theorem bX(n:Nat)(a b c:Nat)(h:true=okL (gQ n).1 (pD 20 (gQ n).2) ([],[])):dnL [a,b,c] [] (gQ n).1 (pD 20 (gQ n).2):=fZ n _ _ h
theorem b6(n:Nat)(a b:Nat)(h:true=okL (gQ n).1 (pD 20 (gQ n).2) ([],[])):dnL [a,b] [] (gQ n).1 (pD 20 (gQ n).2):=fZ n _ _ h
theorem cN(n:Nat)(p:Int)(h:true=okL (gQ n).1 (pD 20 (gQ n).2) ([],[])):dnL [] [p] (gQ n).1 (pD 20 (gQ n).2):=fZ n _ _ h
theorem cV(n:Nat)(a:Nat)(h:true=okL (gQ n).1 (pD 20 (gQ n).2) ([],[])):dnL [a] [] (gQ n).1 (pD 20 (gQ n).2):=fZ n _ _ h
theorem dh(n:Nat)(a b c d:Nat)(h:true=okL (gQ n).1 (pD 20 (gQ n).2) ([],[])):dnL [a,b,c,d] [] (gQ n).1 (pD 20 (gQ n).2):=fZ n _ _ h
theorem eW(n:Nat)(p q:Int)(h:true=okL (gQ n).1 (pD 20 (gQ n).2) ([],[])):dnL [] [p,q] (gQ n).1 (pD 20 (gQ n).2):=fZ n _ _ h
theorem gk(n:Nat)(a b c d e:Nat)(h:true=okL (gQ n).1 (pD 20 (gQ n).2) ([],[])):dnL [a,b,c,d,e] [] (gQ n).1 (pD 20 (gQ n).2):=fZ n _ _ h
theorem gW(n:Nat)(p q r s:Int)(h:true=okL (gQ n).1 (pD 20 (gQ n).2) ([],[])):dnL [] [p,q,r,s] (gQ n).1 (pD 20 (gQ n).2):=fZ n _ _ h
theorem lL(n:Nat)(a:Nat)(p:Int)(h:true=okL (gQ n).1 (pD 20 (gQ n).2) ([],[])):dnL [a] [p] (gQ n).1 (pD 20 (gQ n).2):=fZ n _ _ h
theorem mm(n:Nat)(a b c d e f:Nat)(h:true=okL (gQ n).1 (pD 20 (gQ n).2) ([],[])):dnL [a,b,c,d,e,f] [] (gQ n).1 (pD 20 (gQ n).2):=fZ n _ _ h
theorem oP(n:Nat)(a b c d e f g:Nat)(h:true=okL (gQ n).1 (pD 20 (gQ n).2) ([],[])):dnL [a,b,c,d,e,f,g] [] (gQ n).1 (pD 20 (gQ n).2):=fZ n _ _ h
theorem pj(n:Nat)(p q r:Int)(h:true=okL (gQ n).1 (pD 20 (gQ n).2) ([],[])):dnL [] [p,q,r] (gQ n).1 (pD 20 (gQ n).2):=fZ n _ _ h
theorem qF(n:Nat)(a b:Nat)(p:Int)(h:true=okL (gQ n).1 (pD 20 (gQ n).2) ([],[])):dnL [a,b] [p] (gQ n).1 (pD 20 (gQ n).2):=fZ n _ _ h
theorem wl(n:Nat)(a b c:Nat)(p:Int)(h:true=okL (gQ n).1 (pD 20 (gQ n).2) ([],[])):dnL [a,b,c] [p] (gQ n).1 (pD 20 (gQ n).2):=fZ n _ _ h
theorem wj(n:Nat)(a b c:Nat)(p q:Int)(h:true=okL (gQ n).1 (pD 20 (gQ n).2) ([],[])):dnL [a,b,c] [p,q] (gQ n).1 (pD 20 (gQ n).2):=fZ n _ _ h
theorem yJ(n:Nat)(a b c d:Nat)(p q:Int)(h:true=okL (gQ n).1 (pD 20 (gQ n).2) ([],[])):dnL [a,b,c,d] [p,q] (gQ n).1 (pD 20 (gQ n).2):=fZ n _ _ h
theorem yK(n:Nat)(p q r s t:Int)(h:true=okL (gQ n).1 (pD 20 (gQ n).2) ([],[])):dnL [] [p,q,r,s,t] (gQ n).1 (pD 20 (gQ n).2):=fZ n _ _ h
theorem divC(k:Nat)(h:0<k)(a:Nat):k*(a/k)<=a/\a<k*(a/k)+k:=⟨Nat.mul_div_le a k,Nat.lt_mul_div_succ a h⟩
theorem modC(k:Nat)(h:0<k)(a:Nat):a%k<k/\k*(a/k)+a%k=a:=⟨kR a h,iN a k⟩
theorem iffC{A B:Prop}(h:A↔B):(A/\B)\/(¬A/\¬B):=(Classical.em A).imp (λa=>⟨a,h.mp a⟩) λa=>⟨a,λb=>a (h.mpr b)⟩
theorem naC{A B:Prop}(h:¬(A/\B)):¬A\/¬B:=(Classical.em A).elim (λa=>.inr λb=>h ⟨a,b⟩) .inl
theorem km(x:Int):x<=(x.natAbs:Int):=Int.le_natAbs
theorem kK(x:Int):-x<=(x.natAbs:Int):=Int.natAbs_neg x▸Int.le_natAbs
theorem fG(a b:Nat):a<=a-b+b:=Nat.sub_le_iff_le_add.mp (ag _)
theorem gP(a b:Nat):(b<=a/\a-b+b=a)\/(a<=b/\a-b=0):=(i4 b a).imp (λh=>⟨h,Nat.sub_add_cancel h⟩) λh=>⟨h,Nat.sub_eq_zero_of_le h⟩
theorem jy(x:Int):((x.natAbs:Int)=x/\0<=x)\/((x.natAbs:Int)=-x/\x<=0):=(Int.le_total 0 x).imp (λh=>⟨Int.natAbs_of_nonneg h,h⟩) λh=>⟨Int.ofNat_natAbs_of_nonpos h,h⟩
theorem pT(x:Int):((x.toNat:Int)=x/\0<=x)\/(x.toNat=0/\x<=0):=(Int.le_total 0 x).imp (λh=>⟨Int.toNat_of_nonneg h,h⟩) λh=>⟨Int.toNat_of_nonpos h,h⟩
theorem minC(a b:Nat):(min a b=a/\a<=b)\/(min a b=b/\b<=a):=(i4 a b).imp (λh=>⟨fT h,h⟩) λh=>⟨eM h,h⟩
theorem maxC(a b:Nat):(max a b=b/\a<=b)\/(max a b=a/\b<=a):=(i4 a b).imp (λh=>⟨Nat.max_eq_right h,h⟩) λh=>⟨Nat.max_eq_left h,h⟩
section
variable{a b c d e f g i j k l m n o:Nat}{p q r s t v w x y z:Int}{A B C D F G:Prop}
theorem y_7:c<=b->(a+1)+2=d->d<=e->e<=f->f<g->g<i->c=i+1->a+2≠b:=fZ 0x222e05238e1e29fc29da21b821844311b2218a910a221b21e [c,b,a,d,e,f,g,i] [] rfl
theorem y_12:0<a->(a:Int)≠0:=cV 9900235265819 a rfl
theorem y_13(h0:a≠b):(a:Int)≠(b:Int):=(aI h0).elim (λu1=>b6 726196000543 a b rfl u1) (λu1=>b6 726194956059 b a rfl u1)
theorem y_14(h0:(p=1/\(q=r/\s=t))\/((p=-1/\(q=t/\s=r))\/((p=1/\(q=v/\s=w))\/(p=-1/\(q=w/\s=v))))):-p≠0:=h0.elim (λu1=>cN 18799558498335 p rfl u1.1) (λu1=>u1.elim (λu2=>cN 300755504437275 p rfl u2.1) (λu2=>u2.elim (λu3=>cN 18799558498335 p rfl u3.1) (λu3=>cN 300755504437275 p rfl u3.1)))
theorem y_15(h0:0<=p)(h1:¬(p=(a:Int))):p.toNat≠a:=(pT p).elim (λu1=>(aT h1).elim (λu2=>qF 0xa791599719a91e p.toNat a p rfl u1.1 u2) (λu2=>qF 0x9a7159971da91a p.toNat a p rfl u1.1 u2)) (λu1=>(aT h1).elim (λu3=>qF 0xa79150191890111a91e p.toNat a p rfl h0 u1.1 u3) (λu3=>(lL 6729340695 a p rfl u1.2 u3).elim))
theorem y_16(h0:b<a)(h1:c<b)(h2:d<=b)(h3:d=e+1)(h4:¬(c=e)):a≠2:=(aI h4).elim (λu1=>gk 0x19a2911c2b1c9b10a914221a1a b a d e c rfl h0 h2 h3 u1) (λu1=>dh 0xbc149b14a914221a1a b a c e rfl h0 h1 u1)
theorem y_21:c<a->d<=c->(b+1)+2=e->e<=f->f<=g->g<i->i<j->d=j+1->a≠b+2:=fZ 0x22300563900e028e1e29fc21da21a44311c22189b10a914221c2a1a [c,a,d,b,e,f,g,i,j] [] rfl
theorem y_23(h0:1<=a):a≠a-1:=(gP a 1).elim (λu1=>b6 23165209713178 (a-1) a rfl u1.2) (λu1=>b6 918174099876122 a (a-1) rfl h0 u1.2)
theorem sZ:a<b->a≠b:=b6 2836703518 a b rfl
theorem y_38(h0:(p=1/\(q=r/\s=t))\/((p=-1/\(q=t/\s=r))\/((p=1/\(q=v/\s=w))\/(p=-1/\(q=w/\s=v))))):p≠0:=h0.elim (λu1=>cN 1174972406043 p rfl u1.1) (λu1=>u1.elim (λu2=>cN 18797219027231 p rfl u2.1) (λu2=>u2.elim (λu3=>cN 1174972406043 p rfl u3.1) (λu3=>cN 18797219027231 p rfl u3.1)))
theorem y_39(h0:r<s)(h1:(t=1/\(p=r/\q=s))\/((t=v/\(p=s/\q=r))\/((t=1/\(p=-s/\q=-r))\/(t=v/\(p=-r/\q=-s))))):p≠q:=h1.elim (λu1=>gW 0xac1d9b19a915cb1f r s p q rfl h0 u1.2.1 u1.2.2) (λu1=>u1.elim (λu2=>gW 0x9c19ab1da915cb1b r s p q rfl h0 u2.2.1 u2.2.2) (λu2=>u2.elim (λu3=>gW 0x98c1da8b19a915cb1f r s p q rfl h0 u3.2.1 u3.2.2) (λu3=>gW 0xa8c1998b1da915cb1b r s p q rfl h0 u3.2.1 u3.2.2)))
theorem y_40(h0:r<s)(h1:(t=1/\(p=s/\q=r))\/((t=v/\(p=r/\q=s))\/((t=1/\(p=-r/\q=-s))\/(t=v/\(p=-s/\q=-r))))):p≠q:=h1.elim (λu1=>gW 0x9c19ab1da915cb1b r s p q rfl h0 u1.2.1 u1.2.2) (λu1=>u1.elim (λu2=>gW 0xac1d9b19a915cb1f r s p q rfl h0 u2.2.1 u2.2.2) (λu2=>u2.elim (λu3=>gW 0xa8c1998b1da915cb1b r s p q rfl h0 u3.2.1 u3.2.2) (λu3=>gW 0x98c1da8b19a915cb1f r s p q rfl h0 u3.2.1 u3.2.2)))
theorem y_43(h0:q≠0)(h1:2*p=q*0x40000000000000000000000000000000000000000000000000000000000000000000000000000000000000000000000000000000000000000000000000000000000000000000000000000000000000000000000000000000000000000000000000000000000000000000000000000000000000000000000000000000000000000000000000000):0<p.natAbs:=by lia
theorem y_52(h0:b<a)(h1:c<a)(h2:¬(c=b))(h3:d<b)(h4:¬(c=d)):2<a:=(aI h2).elim (λu1=>(aI h4).elim (λu2=>dh 0xbc149b14a914a22114 b a d c rfl h0 h3 u2) (λu2=>dh 0xbc149b14a914a22114 b a c d rfl h0 u1 u2)) (λu1=>dh 0x9c14cb14a914a22114 c a d b rfl h1 h3 u1)
theorem y_53(h0:b<a)(h1:c<b)(h2:d<b)(h3:¬(d=c)):2<a:=(aI h3).elim (λu1=>dh 0xbc149b14a914a22114 b a c d rfl h0 h1 u1) (λu1=>dh 0xbc149b14a914a22114 b a d c rfl h0 h2 u1)
theorem y_64(h0:a<9007199254740992):a*0x40000000000000000000000000000000000000000000000000000000000000000000000000000000000000000000000000000000000000000000000000000000000000000000000000000000000000000000000000000000000000000000000000000000000000000000000000000000000000000000000000000000000000000000000000000<(0x40000000000000-1)*0x20000000000000000000000000000000000000000000000000000000000000000000000000000000000000000000000000000000000000000000000000000000000000000000000000000000000000000000000000000000000000000000000000000000000000000000000000000000000000000000000000000000000000000000000000000000000000000000000000000000000000000000000000000000000000000000000000000000000000000000000000000000000000000000000000000000000000000000000000000000000000000000000000000000000000000000000000000000000000000000000000000000000000000000000000000000:=by lia
theorem y_65(h0:a<b):((2*(0:Int).natAbs)+a)<b:=by lia
theorem y_66:b<1099511627776->a<0x4000000000000->(2*a)+(2*b)<9007199254740992:=b6 0x800000000000103448010000000000719240020000000000000819224a224214 b a rfl
theorem y_67(h0:a<=1073)(h1:b<=9007199254740992):(a*4503599627370496)+b<2047*4503599627370496:=by lia
theorem y_68:a+(10*12)<b->(a+1)+1<b:=b6 0x2b0868924852a231192214 a b rfl
theorem y_69:a+(10*(b+1))<c->(a+1)+(10*b)<c:=bX 0x2e23454492429754491192214 a b c rfl
theorem y_70:a+(b+1)<c->(a+1)+b<c:=bX 0x2e23452429751192214 a b c rfl
theorem y_71:a+(10*(b+1))<c->(a+3)+(10*b)<c:=bX 0x1711a2a249214baa2432192214 a b c rfl
theorem y_74:a+(10*20)<b->a+1<b:=b6 0x28286344924295119214 a b rfl
theorem y_75:a+(10*8)<b->a+1<b:=b6 0x1504344924295119214 a b rfl
theorem y_83:a+(10*d)<c->b<=d->a+(10*b)<c:=dh 0xaca0baa249214bca249214 a d c b rfl
theorem y_86:a+(b+1)<c->a+b<c:=bX 0x1711a29214ba9214 a b c rfl
theorem y_87:a+d<c->b<=d->a+b<c:=dh 0xac10ba9214bc9214 a d c b rfl
theorem y_88:b+a<c->a+b<c:=bX 0xba9214b9a214 b a c rfl
theorem y_89(h0:b<c-a):a+b<c:=(gP c a).elim (λu1=>dh 0xcba218a914c9b214 b (c-a) a c rfl h0 u1.2) (λu1=>(b6 45386570266 b (c-a) rfl h0 u1.2).elim)
theorem y_90(h0:b<d-a)(h1:d<=e)(h2:c=e):a+b<c:=(gP d a).elim (λu1=>mm 0xbea218cd1ccb10a914d9e214 b (d-a) d e c a rfl h0 h1 h2 u1.2) (λu1=>(b6 45386570266 b (d-a) rfl h0 u1.2).elim)
theorem y_91(h0:b<a):(a+1)-(b+1)<(a+1)-b:=(gP (a+1) (b+1)).elim (λu1=>dh 0x561446c842236511a29218c914 ((a+1)-(b+1)) b a ((a+1)-b) rfl u1.2 (fG (a+1) b)) (λu1=>(b6 0x2a452232511a212 b a rfl h0 u1.1).elim)
theorem y_92(h0:b<=a):(a+1)-(b+1)<(a+1)-b:=(gP (a+1) (b+1)).elim (λu1=>dh 0x561446c842236511a29218c914 ((a+1)-(b+1)) b a ((a+1)-b) rfl u1.2 (fG (a+1) b)) (λu1=>dh 0x138511a21001b18a910cb14 b a ((a+1)-(b+1)) ((a+1)-b) rfl h0 u1.2 (fG (a+1) b))
theorem y_93(h0:c<b)(h1:c<d)(h2:d=a):(a+1)-b<(a+1)-c:=(gP (a+1) b).elim (λu1=>gk 0x274a23842111c2ab218a914db14 c b ((a+1)-b) a ((a+1)-c) rfl h0 u1.2 (fG (a+1) c)) (λu1=>gk 0x13a511b21001c18ba18a914dc14 c d a ((a+1)-b) ((a+1)-c) rfl h1 h2 u1.2 (fG (a+1) c))
theorem y_94(h0:b<a)(h1:c<b):(a-1)-b<(a-1)-c:=(gP (a-1) b).elim (λu1=>gk 0x9d2c10cab218a914db14 c b ((a-1)-b) (a-1) ((a-1)-c) rfl h1 u1.2 (fG (a-1) c)) (λu1=>mm 0x17c5a2111d2a1001c189b14a914ec14 b a c ((a-1)-b) (a-1) ((a-1)-c) rfl h0 h1 u1.2 (fG a 1) (fG (a-1) c))
theorem y_96(h0:c<a):(a-1)-b<a:=(gP a 1).elim (λu1=>bX 0x136215119218ab14 (a-1) a ((a-1)-b) rfl u1.2 (cZ (a-1) b)) (λu1=>dh 0xbc1001b18a914ac14 c a (a-1) ((a-1)-b) rfl h0 u1.2 (cZ (a-1) b))
theorem y_97(h0:2<=a):(a-1)-b<a:=(gP a 1).elim (λu1=>bX 0x136215119218ab14 (a-1) a ((a-1)-b) rfl u1.2 (cZ (a-1) b)) (λu1=>(cV 20083838621970 a rfl h0 u1.1).elim)
theorem y_99(h0:a<b)(h1:c<a):a-1<b-1:=(gP a 1).elim (λu1=>dh 0x22385421311b218a914cb14 a b (a-1) (b-1) rfl h0 u1.2 (fG b 1)) (λu1=>gk 0x111d2a1001c189b14a914dc14 a b c (a-1) (b-1) rfl h0 h1 u1.2 (fG b 1))
theorem vI(h0:1<=a):a-1<a:=(gP a 1).elim (λu1=>b6 23165209717012 (a-1) a rfl u1.2) (λu1=>b6 918174099872276 a (a-1) rfl h0 u1.2)
theorem AN(h0:a<b+1)(h1:c<a):a-1<b:=(gP a 1).elim (λu1=>bX 0x2623643111a2914ab14 a b (a-1) rfl h0 u1.2) (λu1=>dh 0x3831362911a2914ac14 a b c (a-1) rfl h0 h1 u1.2)
theorem vH(h0:a<b):a-1<b:=bX 0x9b10a914ab14 a b (a-1) rfl h0 (cZ a 1)
theorem s7(h0:a+(c+1)<=b):a-1<b:=dh 0x13821711a29210bc14 a c b (a-1) rfl h0 (cZ a 1)
theorem y_118(h0:p.natAbs<=(288*288)*a)(h1:a<=12):(2*p).natAbs<1099511627776:=by lia
theorem y_119(h0:p.natAbs<1048576):(2*p).natAbs<9007199254740992:=(jy (2*p)).elim (λu1=>qF 0x12f24324494e3210000051924002000000000000081a14 p.natAbs ((2*p).natAbs) p rfl h0 u1.1 (km p)) (λu1=>qF 0x12f3043244914e3210000051924002000000000000081a14 p.natAbs ((2*p).natAbs) p rfl h0 u1.1 (kK p))
theorem y_120(h0:p.natAbs<0x4000000000000):((2*0)+p).natAbs<9007199254740992:=(jy ((2*0)+p)).elim (λu1=>qF 0x979119012242a719000400000000000081914002000000000000081a14 p.natAbs (((2*0)+p).natAbs) p rfl h0 u1.1 (km p)) (λu1=>qF 0x97981190122428a719000400000000000081914002000000000000081a14 p.natAbs (((2*0)+p).natAbs) p rfl h0 u1.1 (kK p))
theorem y_121(h0:p.natAbs<0x4000000000000)(h1:q.natAbs<0x4000000000000):((2*p)+q).natAbs<9007199254740992:=(jy ((2*p)+q)).elim (λu1=>wj 0xa7a1197921a92242b719000400000000000081a14000400000000000081924002000000000000081b14 p.natAbs q.natAbs (((2*p)+q).natAbs) p q rfl h0 h1 u1.1 (km p) (km q)) (λu1=>wj 0xa7a811979821a922428b719000400000000000081a14000400000000000081924002000000000000081b14 p.natAbs q.natAbs (((2*p)+q).natAbs) p q rfl h0 h1 u1.1 (kK p) (kK q))
theorem y_122(h0:2*p.natAbs<a):((0+0)+(0+p)).natAbs<a:=(jy ((0+0)+(0+p))).elim (λu1=>wl 0x979119012010122b719a922414ab14 p.natAbs a (((0+0)+(0+p)).natAbs) p rfl h0 u1.1 (km p)) (λu1=>wl 0x97981190120101228b719a922414ab14 p.natAbs a (((0+0)+(0+p)).natAbs) p rfl h0 u1.1 (kK p))
theorem y_123(h0:c<64)(h1:a<=c):((((a-b):Nat):Int)+1).natAbs<0x4000000000000:=(jy ((((a-b):Nat):Int)+1)).elim (λu1=>dh 0x2b042238e56e3334204031914000400000000000081b14 c a (((((a-b):Nat):Int)+1).natAbs) (a-b) rfl h0 h1 u1.1 (cZ a b)) (λu1=>(cV 823751187 (a-b) rfl u1.2).elim)
theorem y_124(h0:(2*p.natAbs)+(2*q.natAbs)<a):(p+q).natAbs<a:=(jy (p+q)).elim (λu1=>yJ 0xa7a1197911a92c719ba2249224214bc14 p.natAbs q.natAbs a ((p+q).natAbs) p q rfl h0 u1.1 (km p) (km q)) (λu1=>yJ 0xa7a811979811a928c719ba2249224214bc14 p.natAbs q.natAbs a ((p+q).natAbs) p q rfl h0 u1.1 (kK p) (kK q))
theorem y_125(h0:p.natAbs+q.natAbs<a):(p+q).natAbs<a:=(jy (p+q)).elim (λu1=>yJ 0xa7a1197911a92c719ba9214bc14 p.natAbs q.natAbs a ((p+q).natAbs) p q rfl h0 u1.1 (km p) (km q)) (λu1=>yJ 0xa7a811979811a928c719ba9214bc14 p.natAbs q.natAbs a ((p+q).natAbs) p q rfl h0 u1.1 (kK p) (kK q))
theorem y_126(h0:p.natAbs<=b)(h1:b+c<a)(h2:q.natAbs<=c):(p+q).natAbs<a:=(jy (p+q)).elim (λu1=>fZ 0xd7a1197911a92e719bd10cba214a910ce14 [p.natAbs,b,c,a,q.natAbs,(p+q).natAbs] [p,q] rfl h0 h1 h2 u1.1 (km p) (km q)) (λu1=>fZ 0xd7a811979811a928e719bd10cba214a910ce14 [p.natAbs,b,c,a,q.natAbs,(p+q).natAbs] [p,q] rfl h0 h1 h2 u1.1 (kK p) (kK q))
theorem y_127(h0:a<=c)(h1:b<=c)(h2:d<=c/\c<=12):(((2*(a:Int))+(b:Int))-1).natAbs<1048576:=(jy (((2*(a:Int))+(b:Int))-1)).elim (λu1=>dh 0x2236f2e448478e338434615621524010000051c14 a c b ((((2*(a:Int))+(b:Int))-1).natAbs) rfl h0 h1 h2.2 u1.1) (λu1=>bX 0x2236f4e4484712e3210000051914 ((((2*(a:Int))+(b:Int))-1).natAbs) a b rfl u1.1)
theorem y_128(h0:b+(2*q.natAbs)<a):((p+q)-p).natAbs<a:=(jy ((p+q)-p)).elim (λu1=>yJ 0xa7a119a923c719ba2249214bc14 b q.natAbs a (((p+q)-p).natAbs) p q rfl h0 u1.1 (km q)) (λu1=>yJ 0xa7a8119a9238c719ba2249214bc14 b q.natAbs a (((p+q)-p).natAbs) p q rfl h0 u1.1 (kK q))
theorem y_129(h0:b+q.natAbs<a):((p+q)-p).natAbs<a:=(jy ((p+q)-p)).elim (λu1=>yJ 0xa7a119a923c719ba9214bc14 b q.natAbs a (((p+q)-p).natAbs) p q rfl h0 u1.1 (km q)) (λu1=>yJ 0xa7a8119a9238c719ba9214bc14 b q.natAbs a (((p+q)-p).natAbs) p q rfl h0 u1.1 (kK q))
theorem y_130(h0:(2*p.natAbs)+b<a):((p+q)-q).natAbs<a:=(jy ((p+q)-q)).elim (λu1=>yJ 0x97911aa923c719ba9224214bc14 p.natAbs b a (((p+q)-q).natAbs) p q rfl h0 u1.1 (km p)) (λu1=>yJ 0x979811aa9238c719ba9224214bc14 p.natAbs b a (((p+q)-q).natAbs) p q rfl h0 u1.1 (kK p))
theorem y_131(h0:b<64)(h1:a<c)(h2:c<=b):((a:Int)-1).natAbs<0x4000000000000:=(jy ((a:Int)-1)).elim (λu1=>dh 0x2234e78e33362174284031914000400000000000081c14 b a c (((a:Int)-1).natAbs) rfl h0 h1 h2 u1.1) (λu1=>b6 0x111a7389719000400000000000081914 (((a:Int)-1).natAbs) a rfl u1.1)
theorem AM:(p-p).natAbs<9007199254740992:=(jy (p-p)).elim (λu1=>lL 0x9939719002000000000000081914 ((p-p).natAbs) p rfl u1.1) (λu1=>lL 0x99389719002000000000000081914 ((p-p).natAbs) p rfl u1.1)
theorem Cs(h0:p.natAbs<1099511627776)(h1:q.natAbs<0x4000000000000):(p-q).natAbs<9007199254740992:=(jy (p-q)).elim (λu1=>wj 0x14f50232f2235276e3200080000000000010342801000000000071914002000000000000081b14 p.natAbs q.natAbs ((p-q).natAbs) p q rfl h0 h1 u1.1 (km p) (kK q)) (λu1=>wj 0x14f4232f302352716e3200080000000000010342801000000000071914002000000000000081b14 p.natAbs q.natAbs ((p-q).natAbs) p q rfl h0 h1 u1.1 (kK p) (km q))
theorem y_134(h0:p.natAbs<=b)(h1:b+c<a)(h2:q.natAbs<=c):(p-q).natAbs<a:=(jy (p-q)).elim (λu1=>fZ 0xd7a81197911a93e719bd10cba214a910ce14 [p.natAbs,b,c,a,q.natAbs,(p-q).natAbs] [p,q] rfl h0 h1 h2 u1.1 (km p) (kK q)) (λu1=>fZ 0xd7a11979811a938e719bd10cba214a910ce14 [p.natAbs,b,c,a,q.natAbs,(p-q).natAbs] [p,q] rfl h0 h1 h2 u1.1 (kK p) (km q))
theorem y_135(h0:0<p)(h1:p<1099511627776):p.natAbs<4503599627370496:=(jy p).elim (λu1=>lL 0x132e3201000000000071915001000000000000081914 p.natAbs p rfl h1 u1.1) (λu1=>(cN 618765752595 p rfl h0 u1.2).elim)
theorem y_136(h0:p<0x4000000000000)(h1:0<=p):p.natAbs<9007199254740992:=(jy p).elim (λu1=>lL 0x99719000400000000000081915002000000000000081914 p.natAbs p rfl h0 u1.1) (λu1=>lL 0x98971990111002000000000000081914 p.natAbs p rfl h1 u1.1)
theorem y_137(h0:q.natAbs<a)(h1:2*p=q):p.natAbs<a:=(jy p).elim (λu1=>wj 0x97a119b729a922419a924ab24 q.natAbs a p.natAbs p q rfl h0 h1 u1.1 (km q)) (λu1=>wj 0x97a81198b729a92241da924ab24 q.natAbs a p.natAbs p q rfl h0 h1 u1.1 (kK q))
theorem y_138(h0:(-(a:Int))≠0):(-(a:Int))<0:=(aT h0).elim (λu1=>cV 448056627132437 a rfl u1) (λu1=>(cV 158859543 a rfl u1).elim)
theorem y_139(h0:a=4)(h1:q=0\/q=1)(h2:r=0\/r=1)(h3:(q+r)+s=p)(h4:s=0\/s=1):p.toNat<a:=h1.elim (λu1=>h2.elim (λu2=>h4.elim (λu3=>(pT p).elim (λu4=>fZ 0xca71901b1901a1901919cba9221d42191c9a14 [a,p.toNat] [q,r,s,p] rfl h0 h3 u1 u2 u3 u4.1) (λu4=>b6 7345021562690068 a p.toNat rfl h0 u4.1)) (λu3=>(pT p).elim (λu5=>fZ 0x194e3311b1901a1901919cba9221d42191c9a14 [a,p.toNat] [q,r,s,p] rfl h0 h3 u1 u2 u3 u5.1) (λu5=>b6 7345021562690068 a p.toNat rfl h0 u5.1))) (λu2=>h4.elim (λu6=>(pT p).elim (λu7=>fZ 0x194e320363311a1901919cba9221d42191c9a14 [a,p.toNat] [q,r,s,p] rfl h0 h3 u1 u2 u6 u7.1) (λu7=>b6 7345021562690068 a p.toNat rfl h0 u7.1)) (λu6=>(pT p).elim (λu8=>fZ 0x329c662363311a1901919cba9221d42191c9a14 [a,p.toNat] [q,r,s,p] rfl h0 h3 u1 u2 u6 u8.1) (λu8=>b6 7345021562690068 a p.toNat rfl h0 u8.1)))) (λu1=>h2.elim (λu9=>h4.elim (λE8=>(pT p).elim (λGf=>fZ 0x194e32036320343311919cba9221d42191c9a14 [a,p.toNat] [q,r,s,p] rfl h0 h3 u1 u9 E8 Gf.1) (λGf=>b6 7345021562690068 a p.toNat rfl h0 Gf.1)) (λE8=>(pT p).elim (λGe=>fZ 0x329c66236320343311919cba9221d42191c9a14 [a,p.toNat] [q,r,s,p] rfl h0 h3 u1 u9 E8 Ge.1) (λGe=>b6 7345021562690068 a p.toNat rfl h0 Ge.1))) (λu9=>h4.elim (λHp=>(pT p).elim (λJl=>fZ 0x329c6406c662343311919cba9221d42191c9a14 [a,p.toNat] [q,r,s,p] rfl h0 h3 u1 u9 Hp Jl.1) (λJl=>b6 7345021562690068 a p.toNat rfl h0 Jl.1)) (λHp=>(pT p).elim (λNW=>fZ 0x6538cc46c662343311919cba9221d42191c9a14 [a,p.toNat] [q,r,s,p] rfl h0 h3 u1 u9 Hp NW.1) (λNW=>b6 7345021562690068 a p.toNat rfl h0 NW.1))))
theorem y_144(h0:a<=130000*130000):a<1099511627776:=by lia
theorem y_147(h0:a<=(130000*130000)*12):a<0x4000000000000:=by lia
theorem Cr(h0:b<=12)(h1:a<=10000*b):a<0x4000000000000:=by lia
theorem y_149(h0:b<=12)(h1:a<=(130000*130000)*b):a<0x4000000000000:=by lia
theorem vG:a<0x4000000000000->a<4503599627370496:=cV 0x400000000000081914001000000000000081914 a rfl
theorem vF:a<a+1:=cV 286861588 a rfl
theorem mP:a<b->a<b+1:=b6 23238207482132 a b rfl
theorem y_167:a+c=b->a<b+1:=bX 6564372467624212 a c b rfl
theorem y_169(h0:a<b+(c+1))(h1:¬(a=b+c)):a<b+c:=(aI h1).elim (λu1=>bX 0xba2914ba2914 a b c rfl u1) (λu1=>(bX 0x111b2a29149ba216 a b c rfl h0 u1).elim)
theorem Cq(h0:a<b)(h1:¬(a=b-1)):a<b-1:=(aI h1).elim (λu1=>b6 2836703508 a (b-1) rfl u1) (λu1=>(bX 0x13629522911b2a12 a b (b-1) rfl h0 u1 (fG b 1)).elim)
theorem y_171(h0:c<b)(h1:¬(c<a))(h2:¬(a=c)):a<b-1:=(aI h2).elim (λu1=>dh 0x111c2a109b14a914cb14 c b a (b-1) rfl h0 u1 (fG b 1)) (λu1=>(b6 2836834582 c a rfl h1 u1).elim)
theorem yW(h0:a≠b)(h1:¬(b<a)):a<b:=(aI h0).elim (λu1=>b6 2836703508 a b rfl u1) (λu1=>(b6 2836834582 b a rfl h1 u1).elim)
theorem y_174:a+1<b->a<b:=b6 23165209454868 a b rfl
theorem vE:a+c<b->a<b:=bX 801314748692 a c b rfl
theorem y_176:c+(2*a)<b->a<b:=bX 0xba2249214ba24 c a b rfl
theorem s6(h0:a<b+1)(h1:¬(a=b)):a<b:=(aI h1).elim (λu1=>b6 2836703508 a b rfl u1) (λu1=>(b6 18804056037910 a b rfl h0 u1).elim)
theorem AL(h0:a<(b:Int).toNat):a<b:=(pT (b:Int)).elim (λu1=>bX 0xb7a719a914b914 a ((b:Int).toNat) b rfl h0 u1.1) (λu1=>(b6 45386570266 a ((b:Int).toNat) rfl h0 u1.1).elim)
theorem Cp(h0:a<b):a<b:=by omega
theorem gm:a<c->c<b->a<b:=bX 0xba14a914b914 a c b rfl
theorem jZ:a<c->c<d->d<b->a<b:=dh 0xcb14ba14a914c914 a c d b rfl
theorem wy:a<c->d<b->c<=d->a<b:=dh 0xba10cb14a914c914 a c d b rfl
theorem fv:a<c->b=c->a<b:=bX 0xab1ca914b914 a c b rfl
theorem fq:a<c->c=b->a<b:=bX 0xba18a914b914 a c b rfl
theorem k9:a<c->c=d->d=b->a<b:=dh 0xcb18ba18a914c914 a c d b rfl
theorem Co:c<b->a=c->a<b:=bX 0x9b18a914ab14 c b a rfl
theorem y_196(h0:c<d)(h1:¬(c<e))(h2:(b<f↔d<e))(h3:b<f/\A):a<b:=(iffC h2).elim (λu1=>(bX 0xb916a914ba16 c d e rfl h0 h1 u1.2).elim) (λu1=>(b6 2836834582 b f rfl u1.1 h3.1).elim)
theorem pq:a+(c+1)<=b->a<b:=bX 6493314397288724 a c b rfl
theorem Cn(h0:a<=b)(h1:¬(b=a)):a<b:=(aI h1).elim (λu1=>(b6 2836437526 a b rfl h0 u1).elim) (λu1=>b6 2836703508 a b rfl u1)
theorem y_203(h0:c<=b)(h1:¬(c<a))(h2:¬(a=c)):a<b:=(aI h2).elim (λu1=>bX 0x9b14a910ab14 c b a rfl h0 u1) (λu1=>(b6 2836834582 c a rfl h1 u1).elim)
theorem yV(h0:b-a=c+1):a<b:=(gP b a).elim (λu1=>dh 0x197243111a291ccb14 (b-a) c a b rfl h0 u1.2) (λu1=>(b6 300864904370458 (b-a) c rfl h0 u1.2).elim)
theorem y_206(h0:a=b)(h1:c<d)(h2:e=c)(h3:(a=b↔d<=e)):a<b:=(iffC h3).elim (λu1=>(bX 0x9b18a914ba12 c d e rfl h1 h2 u1.2).elim) (λu1=>(aI u1.1).elim (λu2=>(b6 2837227798 a b rfl h0 u2).elim) (λu2=>(b6 2836961814 a b rfl h0 u2).elim))
theorem y_218(h0:q≠p)(h1:¬(q<p)):p<q:=(aT h0).elim (λu1=>(eW 2836900119 q p rfl h1 u1).elim) (λu1=>eW 2836769045 p q rfl u1)
theorem y_220:r<q->p<=r->p<q:=pj 0x9b11a915ab15 r q p rfl
theorem y_222(h0:¬(q<p))(h1:¬(q=p)):p<q:=(aT h1).elim (λu1=>(eW 2836900119 q p rfl h0 u1).elim) (λu1=>eW 2836769045 p q rfl u1)
theorem y_226(h0:2<=a)(h1:¬(a=2)):2<=a-1:=(aI h1).elim (λu1=>(cV 0x922110221916 a rfl h0 u1).elim) (λu1=>b6 0x111a2910922114a22110 a (a-1) rfl u1 (fG a 1))
theorem y_236(h0:p=0\/p=1)(h1:q=0\/q=1)(h2:r=0\/r=1):0<=(p+q)+r:=h0.elim (λu1=>h1.elim (λu2=>h2.elim (λu3=>pj 0x1b1d01a1d0191dba9220111 p q r rfl u1 u2 u3) (λu3=>pj 0x111b1d01a1d0191dba9220111 p q r rfl u1 u2 u3)) (λu2=>h2.elim (λu4=>pj 0x363b11a1d0191dba9220111 p q r rfl u1 u2 u4) (λu4=>pj 0x22363b11a1d0191dba9220111 p q r rfl u1 u2 u4))) (λu1=>h1.elim (λu5=>h2.elim (λu6=>pj 0x363a0343b1191dba9220111 p q r rfl u1 u5 u6) (λu6=>pj 0x22363a0343b1191dba9220111 p q r rfl u1 u5 u6)) (λu5=>h2.elim (λu7=>pj 0x6c762343b1191dba9220111 p q r rfl u1 u5 u7) (λu7=>pj 0x446c762343b1191dba9220111 p q r rfl u1 u5 u7)))
theorem yU:-q<=p->0<=p+q:=eW 0xa98119a20111 q p rfl
theorem nq:0<=(a:Int):=cV 9896209 a rfl
theorem Cm(h0:a<=12):10000*a<=120000:=by lia
theorem y_250(h0:a<=b):(130000*130000)*a<=(130000*130000)*b:=by lia
theorem y_251(h0:1<=a):1+(a-1)<=a:=(gP a 1).elim (λu1=>b6 0x2a2324315311210 (a-1) a rfl u1.2) (λu1=>b6 0x6862622213511210 a (a-1) rfl h0 u1.2)
theorem y_256:d<=12->a=d->b=d->c=d->(a+b)+c<=16777216:=dh 0x138313631343184326100000051cba2210 d a b c rfl
theorem y_259(h0:0<b)(h1:a<=b-1):a+1<=b:=(gP b 1).elim (λu1=>bX 0x2e23443152217119210 a (b-1) b rfl h1 u1.2) (λu1=>bX 0x3631742120229311a210 b a (b-1) rfl h0 h1 u1.2)
theorem y_262(h0:b-a=c+1):a+1<=b:=(gP b a).elim (λu1=>dh 0x32e48622345239911b210 (b-a) c a b rfl h0 u1.2) (λu1=>(b6 300864904370458 (b-a) c rfl h0 u1.2).elim)
theorem Ck(h0:a<=b):a+(b-a)<=b:=(gP b a).elim (λu1=>bX 0xba9218b9a210 (b-a) a b rfl u1.2) (λu1=>bX 7626938779406864 a b (b-a) rfl h0 u1.2)
theorem y_266(h0:b<d-a)(h1:d<=c):a+b<=c:=(gP d a).elim (λu1=>gk 0xbda218cb10a914c9d210 b (d-a) d c a rfl h0 h1 u1.2) (λu1=>(b6 45386570266 b (d-a) rfl h0 u1.2).elim)
theorem y_267:a=d->d+e<=c->b=e->a+b<=c:=gk 0xbd18cba210a918cd9210 a d e c b rfl
theorem y_269(h0:b-a<=c+1):((a+b)/2)-a<=c:=(gP ((a+b)/2) a).elim (λu1=>mm 0x1925c21d85a44821b9645111a2910ab20 (b-a) c (((a+b)/2)-a) a ((a+b)/2) b rfl h0 u1.2 (divC 2 (by decide) (a+b)).1 (fG b a)) (λu1=>b6 421046544 (((a+b)/2)-a) c rfl u1.2)
theorem y_270(h0:a-b<=c+1):a-(((b+a)/2)+1)<=c:=(gP a (((b+a)/2)+1)).elim (λu1=>mm 0x3a4b4408870890b7885362385645111a2910ab20 (a-b) c (a-(((b+a)/2)+1)) ((b+a)/2) a b rfl h0 u1.2 (divC 2 (by decide) (b+a)).2 (fG a b)) (λu1=>b6 421046544 (a-(((b+a)/2)+1)) c rfl u1.2)
theorem wx:min a b<=a:=b6 2836441360 (min a b) a rfl (dN a b)
theorem y_280(h0:d<=c)(h1:b=d):min a b<=c:=dh 0xbc109b18a910ac10 d c b (min a b) rfl h0 h1 (kh a b)
theorem y_281(h0:a<=12):(2*((a:Int)-1)).natAbs<=22:=(jy (2*((a:Int)-1))).elim (λu1=>b6 0x2232e64494e338432401631a10 a ((2*((a:Int)-1)).natAbs) rfl h0 u1.1) (λu1=>b6 0x2234e644912e321631910 ((2*((a:Int)-1)).natAbs) a rfl u1.1)
theorem y_282{a b:Nat}(h0:a<b)(h1:b<=(12:Nat)):(bZ ((2:Int)*((a:Nat):Int)))<=(10000:Nat):=(jy ((2:Int)*((a:Nat):Int))).elim (λu1=>bX 0x97224b719c21a20a924271041b10 a b (bZ ((2:Int)*((a:Nat):Int))) rfl h0 h1 u1.1) (λu1=>b6 0xa722489719271041910 (bZ ((2:Int)*((a:Nat):Int))) a rfl u1.1)
theorem y_283{a b:Nat}(h0:a<b)(h1:b<=(12:Nat)):(bZ ((2:Int)*((a:Nat):Int)))<=(22:Nat):=(jy ((2:Int)*((a:Nat):Int))).elim (λu1=>bX 0x12e4496e3384344152481631b10 a b (bZ ((2:Int)*((a:Nat):Int))) rfl h0 h1 u1.1) (λu1=>b6 0x14e44912e321631910 (bZ ((2:Int)*((a:Nat):Int))) a rfl u1.1)
theorem y_284(h0:p.natAbs<=12*12):(2*p).natAbs<=10000:=(jy (2*p)).elim (λu1=>qF 0x979219224a719c21c24920271041a10 p.natAbs ((2*p).natAbs) p rfl h0 u1.1 (km p)) (λu1=>qF 0x97982192248a719c21c24920271041a10 p.natAbs ((2*p).natAbs) p rfl h0 u1.1 (kK p))
theorem y_285(h0:p.natAbs<=(12*12)*12):(2*p).natAbs<=10000:=(jy (2*p)).elim (λu1=>qF 0x979219224a719c21c24c25920271041a10 p.natAbs ((2*p).natAbs) p rfl h0 u1.1 (km p)) (λu1=>qF 0x97982192248a719c21c24c25920271041a10 p.natAbs ((2*p).natAbs) p rfl h0 u1.1 (kK p))
theorem y_286(h0:p.natAbs<a):(2*p).natAbs<=2*a:=(jy (2*p)).elim (λu1=>wl 0x979219224b719a924a224b10 p.natAbs a ((2*p).natAbs) p rfl h0 u1.1 (km p)) (λu1=>wl 0x97982192248b719a924a224b10 p.natAbs a ((2*p).natAbs) p rfl h0 u1.1 (kK p))
theorem y_287(h0:p.natAbs<=a)(h1:q.natAbs<=b):(p+q).natAbs<=a+(b*1):=(jy (p+q)).elim (λu1=>fZ 0x16f4232f223525ae3396215221915a2d10 [p.natAbs,a,q.natAbs,b,(p+q).natAbs] [p,q] rfl h0 h1 u1.1 (km p) (km q)) (λu1=>fZ 0x16f50232f30235251ae3396215221915a2d10 [p.natAbs,a,q.natAbs,b,(p+q).natAbs] [p,q] rfl h0 h1 u1.1 (kK p) (kK q))
theorem y_288(h0:p.natAbs<=b)(h1:q.natAbs<=a):(p+q).natAbs<=a+(b*1):=(jy (p+q)).elim (λu1=>fZ 0x16f4232f223525ae3396215221515c2d10 [p.natAbs,b,q.natAbs,a,(p+q).natAbs] [p,q] rfl h0 h1 u1.1 (km p) (km q)) (λu1=>fZ 0x16f50232f30235251ae3396215221515c2d10 [p.natAbs,b,q.natAbs,a,(p+q).natAbs] [p,q] rfl h0 h1 u1.1 (kK p) (kK q))
theorem y_289(h0:p.natAbs<=a)(h1:q.natAbs<=b):(p+q).natAbs<=a+b:=(jy (p+q)).elim (λu1=>fZ 0xb7a1197911a92d719cb10a910ca2d10 [p.natAbs,a,q.natAbs,b,(p+q).natAbs] [p,q] rfl h0 h1 u1.1 (km p) (km q)) (λu1=>fZ 0xb7a811979811a928d719cb10a910ca2d10 [p.natAbs,a,q.natAbs,b,(p+q).natAbs] [p,q] rfl h0 h1 u1.1 (kK p) (kK q))
theorem y_290(h0:a<=12):((a:Int)-1).natAbs<=12:=(jy ((a:Int)-1)).elim (λu1=>b6 0x111973a719c21910c21a10 a (((a:Int)-1).natAbs) rfl h0 u1.1) (λu1=>b6 0x111a7389719c21910 (((a:Int)-1).natAbs) a rfl u1.1)
theorem Cj(h0:a<=12)(h1:p=(a:Int)):(p-1).natAbs<=12:=(jy (p-1)).elim (λu1=>qF 0x11193a71997919c21910c21a10 a ((p-1).natAbs) p rfl h0 h1 u1.1) (λu1=>qF 0x111938a7199791dc21a10 a ((p-1).natAbs) p rfl h1 u1.1)
theorem Ci(h0:q.natAbs<=72)(h1:p.natAbs<=12*12):(p-(2*q)).natAbs<=288:=(jy (p-(2*q))).elim (λu1=>wj 0x29e4465ea08688924edc6708709284090632412031b10 q.natAbs p.natAbs ((p-(2*q)).natAbs) p q rfl h0 h1 u1.1 (kK q) (km p)) (λu1=>wj 0x29e60465e88688924e2dc6708709284090632412031b10 q.natAbs p.natAbs ((p-(2*q)).natAbs) p q rfl h0 h1 u1.1 (km q) (kK p))
theorem Cg(h0:p.natAbs<=10000)(h1:q.natAbs<=120000):(p-q).natAbs<=130000:=(jy (p-q)).elim (λu1=>wj 0x29ea0465e446a4edc6403a980a34204e208322001fbd051b10 p.natAbs q.natAbs ((p-q).natAbs) p q rfl h0 h1 u1.1 (km p) (kK q)) (λu1=>wj 0x29e8465e6046a4e2dc6403a980a34204e208322001fbd051b10 p.natAbs q.natAbs ((p-q).natAbs) p q rfl h0 h1 u1.1 (kK p) (km q))
theorem y_294(h0:p.natAbs<=a)(h1:q.natAbs<=b):(p-q).natAbs<=a+b:=(jy (p-q)).elim (λu1=>fZ 0xb7a81197911a93d719cb10a910ca2d10 [p.natAbs,a,q.natAbs,b,(p-q).natAbs] [p,q] rfl h0 h1 u1.1 (km p) (kK q)) (λu1=>fZ 0xb7a11979811a938d719cb10a910ca2d10 [p.natAbs,a,q.natAbs,b,(p-q).natAbs] [p,q] rfl h0 h1 u1.1 (kK p) (km q))
theorem AK(h0:a<=b):(a:Int).natAbs<=b:=(jy (a:Int)).elim (λu1=>bX 0x97b719a910ab10 a b ((a:Int).natAbs) rfl h0 u1.1) (λu1=>bX 0xa789719b910 ((a:Int).natAbs) a b rfl u1.1)
theorem y_296(h0:p=0\/p=1):p.natAbs<=1:=h0.elim (λu1=>(jy p).elim (λu2=>lL 0x132e320323311910 p.natAbs p rfl u1 u2.1) (λu2=>lL 0x1312e320323b11910 p.natAbs p rfl u1 u2.1)) (λu1=>(jy p).elim (λu3=>lL 0x265c662323311910 p.natAbs p rfl u1 u3.1) (λu3=>(cN 1174972406035 p rfl u1 u3.2).elim))
theorem Cf(h0:a<=12)(h1:b=a)(h2:0<=p/\p<=(144*(b:Int))):p.natAbs<=1728:=(jy p).elim (λu1=>wl 0x136e334e90349119a090f8c219090f006c041b10 a b p.natAbs p rfl h0 h1 h2.2 u1.1) (λu1=>lL 0x9897199011106c041910 p.natAbs p rfl h2.1 u1.1)
theorem y_298(h0:a<=12)(h1:q.natAbs<=12*a)(h2:q=2*p):p.natAbs<=72:=(jy p).elim (λu1=>wj 0x14f22356e53444923b38494218433804831b20 a q.natAbs p.natAbs q p rfl h0 h1 h2 u1.1 (km q)) (λu1=>wj 0x14f3023516e53444923338494218433804831b20 a q.natAbs p.natAbs q p rfl h0 h1 h2 u1.1 (kK q))
theorem y_299(h0:q.natAbs<=a*2)(h1:(p*(((2:Nat):Int)-1))=q):p.natAbs<=a*12:=by lia
theorem y_300(h0:(2*p).natAbs<=a):p.natAbs<=a:=(jy p).elim (λu1=>wl 0x979224119b729a910ab20 ((2*p).natAbs) a p.natAbs p rfl h0 u1.1 (km (2*p))) (λu1=>wl 0x97922481198b729a910ab20 ((2*p).natAbs) a p.natAbs p rfl h0 u1.1 (kK (2*p)))
theorem Ce(h0:b<=a)(h1:p=(b:Int)):p.natAbs<=a:=(jy p).elim (λu1=>wl 0x9b71997919a910ab10 b a p.natAbs p rfl h0 h1 u1.1) (λu1=>wl 0x98a7199791dba10 b p.natAbs a p rfl h1 u1.1)
theorem sY:a<=12->a<=100:=cV 6829212854065424 a rfl
theorem y_312:a<=22*22->a<=10000:=cV 0x2c621634910271041910 a rfl
theorem ww:a<=1000000->a<=16777216:=cV 0x1e8480a322100000051910 a rfl
theorem nk:b<=12->a=b->a<=16777216:=b6 0x1343184322100000051a10 b a rfl
theorem y_326:a<=(a+1)+0:=cV 13179693328 a rfl
theorem wv:a<=(a+1)+1:=cV 2349641902352 a rfl
theorem AJ:a<=(a-1)+1:=b6 0x2234522111a2910 a (a-1) rfl (fG a 1)
theorem sX:a<=a+b:=b6 11086096 a b rfl
theorem vD:a<=b->a<=b+1:=b6 23236059998480 a b rfl
theorem y_356:c<b->d<c->e+1<d->f<e->g<f->a<=g->a<=b:=oP 0x1de21bc299a29711c2149b14a914af10 c b d e f g a rfl
theorem y_357:c<b->d<c->e<d->f+1<e->g<f->i<g->a<=i->a<=b:=fZ 0x1ee021de29bc29911d214bc149b14a914a7010 [c,b,d,e,f,g,i,a] [] rfl
theorem y_358:c<b->d<c->e<d->f<e->g+1<f->i<g->j<i->a<=j->a<=b:=fZ 0xe10021ee029de29b11e214cd14bc149b14a914a8010 [c,b,d,e,f,g,i,j,a] [] rfl
theorem y_360:c<b->d<c->e<d->a<=f->f<=e->a<=b:=mm 0xce10ed10bc149b14a914ad10 c b d e a f rfl
theorem oq:c<b->a<=c->a<=b:=bX 0x9b10a914ab10 c b a rfl
theorem y_371:c<b->a=c+1->a<=b:=bX 0x11192b18a914ab10 c b a rfl
theorem Cd(h0:a<=b+1)(h1:¬(a=b+1)):a<=b:=(aI h1).elim (λu1=>b6 18804056041744 a b rfl u1) (λu1=>(b6 0x22345221311a216 a b rfl h0 u1).elim)
theorem y_380(h0:a<=c+(b-c))(h1:c<=b):a<=b:=(gP b c).elim (λu1=>dh 0xcab218ba2910c910 a c (b-c) b rfl h0 u1.2) (λu1=>dh 0x1b18ca10ba2910c910 a c (b-c) b rfl h0 h1 u1.2)
theorem y_381(h0:a<=b):a<=b:=by omega
theorem y_382:a<=c->c<d->d<e->e<f->g<=b->g=f+1->a<=b:=oP 0x111d2e1cfe10dc14cb14ba14a910f910 a c d e f g b rfl
theorem y_384:a<=c->c+1<=d->d<=e->e<=b->a<=b:=gk 0x1b8219621711a210a910d910 a c d e b rfl
theorem rm:a<=c->c<=b->a<=b:=bX 0xba10a910b910 a c b rfl
theorem y_386:a<=c->c<=d->d<e->e<f->f<g->i<=b->i=g+1->a<=b:=fZ 0x111e2f1c70f10ed14dc14cb14ba10a91070910 [a,c,d,e,f,g,i,b] [] rfl
theorem qk:a<=c->c<=d->b=d->a<=b:=dh 0xbc1cba10a910c910 a c d b rfl
theorem y_389:a<=c->d<=b->d=c+1->a<=b:=dh 0x111a2b1ccb10a910c910 a c d b rfl
theorem y_396:c<=b->d<=c->(a+1)+2=d->a<=b:=dh 0x1644311c22189b10a910ac10 c b d a rfl
theorem rl:c<=b->a=c->a<=b:=bX 0x9b18a910ab10 c b a rfl
theorem y_401:c<=b->c=a->a<=b:=bX 0xb91ca910ab10 c b a rfl
theorem y_403(h0:c<=b)(h1:a=c+(b-c)\/(a<b/\A)):a<=b:=h1.elim (λu1=>(gP b c).elim (λu2=>dh 0xcab218ba2918c910 a c (b-c) b rfl u1 u2.2) (λu2=>dh 0x1c18c92b18a910ab10 c b a (b-c) rfl h0 u1 u2.2)) (λu1=>b6 2836703504 a b rfl u1.1)
theorem wu:a=b->a<=b:=b6 2836965648 a b rfl
theorem wt:b=a->a<=b:=b6 2837223952 b a rfl
theorem y_414:b=c->d<=c->d=e->f<e->g<=f->g=a->a<=b:=oP 0xfe1cde10cd14cb1cab10a91c9f10 b c d e f g a rfl
theorem nj:¬(b<a)->a<=b:=b6 2836830736 b a rfl
theorem y_420(h0:4*a=c)(h1:b*2=c):2*a=b:=av (bX 0xab2251ca942418b922420 a c b rfl h0 h1) (bX 0xab22518a94241c9224b20 a c b rfl h0 h1)
theorem Cc(h0:p=q):1*p=1*q:=aj (eW 743710674588689 p q rfl h0) (eW 743778320454673 p q rfl h0)
theorem y_422:((2*a)*0x10000000000000000000000000000000000000000000000000000000000000000000000000000000000000000000000000000000000000000000000000000000000000000000000000000000000000000000000000000000000000000000000000000000000000000000000000000000000000000000000000000000000000000000000000000)*2=a*0x40000000000000000000000000000000000000000000000000000000000000000000000000000000000000000000000000000000000000000000000000000000000000000000000000000000000000000000000000000000000000000000000000000000000000000000000000000000000000000000000000000000000000000000000000000:=by lia
theorem Cb(h0:p=q):(-1)*p=(-1)*q:=aj (eW 743779398260241 p q rfl h0) (eW 743709605172753 p q rfl h0)
theorem y_424:0+(0*p)=0:=aj (cN 6715085329 p rfl) (cN 619550212369 p rfl)
theorem Ca:0+p=p:=aj (cN 160436753 p rfl) (cN 151070993 p rfl)
theorem y_426:(1+(a:Int))=(((a+1):Nat):Int):=aj (cV 601591555101201 a rfl) (cV 666451435923217 a rfl)
theorem y_427:((0x200000000000000000000000000000000000000000000000000000000000000000000000000000000000000000000000000000000000000000000000000000000000000000000000000000000000000000000000000000000000000000000000000000000000000000000000000000000000000000000000000*2)+(0x200000000000000000000000000000000000000000000000000000000000000000000000000000000000000000000000000000000000000000000000000000000000000000000000000000000000000000000000000000000000000000000000000000000000000000000000000000000000000000000000000*2):Nat)=0x800000000000000000000000000000000000000000000000000000000000000000000000000000000000000000000000000000000000000000000000000000000000000000000000000000000000000000000000000000000000000000000000000000000000000000000000000000000000000000000000000:=by lia
theorem y_428:(2*0)+p=p:=aj (cN 657149018641 p rfl) (cN 618779650321 p rfl)
theorem y_429:(0+0)+(0+p)=p:=aj (cN 0x9901201012211 p rfl) (cN 0x9012010122911 p rfl)
theorem y_430:((2*p)+((-2)*q))+((((2*r)+(2*s))+((-2)*t))+((-2)*v))=2*(((((p-q)+r)+s)-t)-v):=aj (fZ 0xedcba932233224e226d226c224b224222a22692242211 [] [p,q,r,s,t,v] rfl) (fZ 0xe226d226c224b224222a226922422edcba93223322411 [] [p,q,r,s,t,v] rfl)
theorem y_431(h0:y=(r+s)+v)(h1:y=w+x):((((p+q)+r)+s)+t)+v=(p+(t+w))+(q+x):=aj (fZ 0xed2919cba2291de702d802f22c80ba70f2222211 [] [y,r,s,v,w,x,p,q,t] rfl h0 h1) (fZ 0xed291dcba22919c70ba80f22222e802d702f2211 [] [y,r,s,v,w,x,p,t,q] rfl h0 h1)
theorem y_432:((p+q)+r)+(s+t)=(p+t)+(q+(r+s)):=aj (yK 0xcb2a2d922dc2ba922211 p q r s t rfl) (yK 0xad2cb9222dc2b2a92211 p t q r s rfl)
theorem y_433(h0:a<53):(a+1)+(52-a)=53:=av ((gP 52 a).elim (λu1=>b6 0xd0c6a48606a63311a2210 (52-a) a rfl u1.2) (λu1=>b6 0xd0c0d4c64506a6351192210 a (52-a) rfl h0 u1.2)) (b6 0x5490d0c442623444353110 (52-a) a rfl (fG 52 a))
theorem B9:(a+1)+b=a+(b+1):=av (b6 0x223452551192210 a b rfl) (b6 0x2a2324511a29210 a b rfl)
theorem y_435(h0:a+(b+1)=c):(a+1)+b=c:=av (bX 0x2e23452431751192210 a b c rfl h0) (bX 0x2e23452439511922b10 a b c rfl h0)
theorem y_438(h0:(-((2*(b:Int))-((c:Int)-1)))=((2*(a:Int))-((c:Int)-1))):(a+b)+1=c:=av (bX 0x4469cedc890e234e72e448703b5119b2220 b c a rfl h0) (bX 0x4469cedc890e234e72e4487033119b22a20 b c a rfl h0)
theorem y_439:((p+12)+(q+(12*(a:Int))))=((p+q)+(12*(((a+1):Nat):Int))):=aj (fZ 0x111927c24a92297c24a2c2192211 [a] [p,q] rfl) (fZ 0x12f8494584324511927c24a92211 [a] [p,q] rfl)
theorem y_440:(p+(q+(r+s)))+t=(((p+q)+r)+s)+t:=aj (yK 0xdcba92222dcb2a292211 p q r s t rfl) (yK 0xdcb2a2922dcba9222211 p q r s t rfl)
theorem y_441:(p+q)+((r+s)+t)=(((p+r)+s)+q)+t:=aj (yK 0xdacb92222dcb22a92211 p q r s t rfl) (yK 0xdba22c922dcba9222211 p r s q t rfl)
theorem y_442:(p+q)+(r+s)=(p+r)+(q+s):=aj (gW 0xca2b922cb2a92211 p q r s rfl) (gW 0xca2b922cb2a92211 p r q s rfl)
theorem AI:(p+q)+r=p+(q+r):=aj (pj 0xba292ba92211 p q r rfl) (pj 0xba922ba29211 p q r rfl)
theorem y_444(h0:q=p):(1-(2*p))+(1-(2*q))=(2*(1-p))+((-2)*p):=aj (eW 0x5496d1135444c890a48922274449113211 q p rfl h0) (eW 0x5494c912444e88922265444d5113224211 q p rfl h0)
theorem y_445:((p+q)-r)+(r+2148)=(p+1074)+(q+1074):=aj (pj 0x43241a2043241922086441b2ba923211 p q r rfl) (pj 0x86441b2ba9232043241a204324192211 p q r rfl)
theorem y_446(h0:a+b=c):(((a:Int)-1)+(b:Int))=((c:Int)-1):=aj (bX 0x2ea4862236e74f11973211 a b c rfl h0) (bX 0x2ea48729e232e6511b7311 a b c rfl h0)
theorem y_447(h0:¬(b<=a)):(a-b)+(0+0)=(a+1)-b:=av ((gP a b).elim (λu1=>(b6 2836572434 b a rfl h0 u1.1).elim) (λu1=>b6 7063950161252880 (a-b) ((a+1)-b) rfl u1.2)) ((gP (a+1) b).elim (λu2=>dh 0x111a29b218a91201012c2b10 b a ((a+1)-b) (a-b) rfl h0 u2.2) (λu2=>b6 7063267011340560 ((a+1)-b) (a-b) rfl u2.2))
theorem y_448(h0:b<=a):(a-b)+(0+1)=(a+1)-b:=av ((gP a b).elim (λu1=>dh 0x2b0a2364217524319110129210 (a-b) b a ((a+1)-b) rfl u1.2 (fG (a+1) b)) (λu1=>dh 0x270a234420036315221911012b210 b a (a-b) ((a+1)-b) rfl h0 u1.2 (fG (a+1) b))) ((gP (a+1) b).elim (λu2=>dh 0x2b0ac4223655243111012c2910 ((a+1)-b) b a (a-b) rfl u2.2 (fG a b)) (λu2=>(b6 23236092994066 b a rfl h0 u2.1).elim))
theorem y_449:((p-(q*1))+((1:Nat):Int))=p-(q-1):=aj (eW 0x4468e4e22f51593211 p q rfl) (eW 0x445ea2b26511a39311 p q rfl)
theorem y_450:(p-q)+(q+2148)=(p+1074)+1074:=aj (eW 0x43241043241922086441a2a93211 p q rfl) (eW 0x86441a2a93204324104324192211 p q rfl)
theorem y_451:(-p)+(-q)=-(p+q):=aj (eW 0xa928a898211 p q rfl) (eW 0xa8982a92811 p q rfl)
theorem y_452(h0:0<=p)(h1:0<=q)(h2:0<=r)(h3:0<=s)(h4:p+q=r+s):p.toNat+q.toNat=r.toNat+s.toNat:=av ((pT p).elim (λu1=>(pT q).elim (λu2=>fZ 0xc7c11b7b11aa71999719cb2a9219cb2a9210 [p.toNat,q.toNat,r.toNat,s.toNat] [p,q,r,s] rfl h4 u1.1 u2.1 (bT r) (bT s)) (λu2=>fZ 0xc7c11b7b1101a18a9719cb29a21990111cb2a9210 [p.toNat,q.toNat,r.toNat,s.toNat] [q,p,r,s] rfl h1 h4 u1.1 u2.1 (bT r) (bT s))) (λu1=>(pT q).elim (λu3=>fZ 0xc7c11b7b11aa71901918cb2a921990111cb2a9210 [p.toNat,q.toNat,r.toNat,s.toNat] [p,q,r,s] rfl h0 h4 u1.1 u3.1 (bT r) (bT s)) (λu3=>dh 0x1a1801918cb2a9210 p.toNat q.toNat r.toNat s.toNat rfl u1.1 u3.1))) ((pT r).elim (λu4=>(pT s).elim (λu5=>fZ 0xc7a11b7911ca719b9719cb2a921dcb2a9210 [r.toNat,s.toNat,p.toNat,q.toNat] [p,q,r,s] rfl h4 u4.1 u5.1 (bT p) (bT q)) (λu5=>fZ 0xc7b11b7a1101a18c97199c2ba21d90111cb2a9210 [r.toNat,s.toNat,p.toNat,q.toNat] [s,p,q,r] rfl h3 h4 u4.1 u5.1 (bT p) (bT q))) (λu4=>(pT s).elim (λu6=>fZ 0xc7b11b7a11ca71901918c92ba21d90111cb2a9210 [r.toNat,s.toNat,p.toNat,q.toNat] [r,p,q,s] rfl h2 h4 u4.1 u6.1 (bT p) (bT q)) (λu6=>dh 0x1a1801918cb2a9210 r.toNat s.toNat p.toNat q.toNat rfl u4.1 u6.1)))
theorem y_453(h0:a=b+c):a+1=b+(c+1):=av (bX 0x2e8a462236545119210 a b c rfl h0) (bX 0x2e8a472232511b2a210 a b c rfl h0)
theorem y_454(h0:c=a)(h1:c+1=d)(h2:d=b):a+1=b:=av (dh 0x32c62e2324315239911a210 c a d b rfl h0 h1 h2) (dh 0x32c72e232439523111a2c10 c a d b rfl h0 h1 h2)
theorem y_455:a+(b+1)=(a+1)+b:=av (b6 0x2a2324511a29210 a b rfl) (b6 0x223452551192210 a b rfl)
theorem AH(h0:a<b):a+(b-a)=b:=av ((gP b a).elim (λu1=>bX 0xba9218b9a210 (b-a) a b rfl u1.2) (λu1=>(b6 2836699666 a b rfl h0 u1.1).elim)) (bX 0xba2910ab2910 b (b-a) a rfl (fG b a))
theorem y_457(h0:a<=b):a+(b-a)=b:=av ((gP b a).elim (λu1=>bX 0xba9218b9a210 (b-a) a b rfl u1.2) (λu1=>bX 7626938779406864 a b (b-a) rfl h0 u1.2)) (bX 0xba2910ab2910 b (b-a) a rfl (fG b a))
theorem y_458(h0:c+e=b)(h1:c+f=d)(h2:f+e=a):a+b=(2*(b-c))+d:=av (oP 0x9f2b20eac21cdc9218ba9218df2242be210 c e b f d a (b-c) rfl h0 h1 h2 (fG b c)) ((gP b c).elim (λu1=>oP 0xb9f228eac218dc921cba921cbe2df224210 c e b f d a (b-c) rfl h0 h1 h2 u1.2) (λu1=>oP 0x1f28eac218dc921cba9218be2df224210 c e b f d a (b-c) rfl h0 h1 h2 u1.2))
theorem y_459:(p+(((0:Nat):Int)*1))=p:=aj (cN 1237740524049 p rfl) (cN 12639086865 p rfl)
theorem y_460:(p+((((a+1):Nat):Int)*1))=((p+((a:Int)*1))+1):=aj (lL 0x88cbc5648a2324f159211 a p rfl) (lL 0x88c93c564a232f1592211 a p rfl)
theorem y_461:p+(q+(r+s))=((p+q)+r)+s:=aj (gW 0xcba9222cb2a29211 p q r s rfl) (gW 0xcb2a292cba922211 p q r s rfl)
theorem y_462:p+(q+r)=(p+q)+r:=aj (pj 0xba922ba29211 p q r rfl) (pj 0xba292ba92211 p q r rfl)
theorem y_463:p+(-p)=0:=aj (cN 26776081 p rfl) (cN 2559705361 p rfl)
theorem y_464:p+(-p)=0*1:=aj (cN 1172603179537 p rfl) (cN 1310586897425 p rfl)
theorem y_465:p+p=2*p:=aj (cN 39229952529 p rfl) (cN 41113756689 p rfl)
theorem y_466(h0:q=r+s):p+q=(p+r)+s:=aj (gW 0xba2919bac229c211 q r s p rfl h0) (gW 0xba291d9c2bac2211 q r s p rfl h0)
theorem y_467:p+q=q+p:=aj (eW 2586481169 p q rfl) (eW 2586481169 q p rfl)
theorem y_468(h0:a<b):(((2*(((a-0):Nat):Int))+(((b-a):Nat):Int))-1)=(((a:Int)+(b:Int))-1):=aj ((gP b a).elim (λu1=>dh 0x2b082ea4862236f4e471197c72242311 (b-a) a b (a-0) rfl u1.2 (cZ a 0)) (λu1=>(b6 2836699666 a b rfl h0 u1.1).elim)) (dh 0x270ac40068a482238f4e4484711b7972311 a (a-0) b (b-a) rfl (fG a 0) (fG b a))
theorem y_469(h0:a<b):(((a:Int)+(b:Int))-1)=((2*((a:Int)-1))+((((b-a):Nat):Int)+1)):=aj (bX 0x5d14884469ca236e644851197b72311 b (b-a) a rfl (fG b a)) ((gP b a).elim (λu1=>bX 0x5d490c446de9c8e232e511a73224211 (b-a) a b rfl u1.2) (λu1=>(b6 2836699666 a b rfl h0 u1.1).elim))
theorem y_470:(a+(b+1))-1=((a+1)+b)-1:=av ((gP (a+(b+1)) 1).elim (λu1=>dh 0x88e15c4688842236545119218c910 ((a+(b+1))-1) a b (((a+1)+b)-1) rfl u1.2 (fG ((a+1)+b) 1)) (λu1=>b6 421046544 ((a+(b+1))-1) (((a+1)+b)-1) rfl u1.2)) ((gP ((a+1)+b) 1).elim (λu2=>dh 0x88e1446ca8842e23445119218c910 (((a+1)+b)-1) a b ((a+(b+1))-1) rfl u2.2 (fG (a+(b+1)) 1)) (λu2=>b6 421046544 (((a+1)+b)-1) ((a+(b+1))-1) rfl u2.2))
theorem y_471:(a+b)-a=b:=av ((gP (a+b) a).elim (λu1=>bX 0xba2a9218b910 ((a+b)-a) a b rfl u1.2) (λu1=>b6 421046544 ((a+b)-a) b rfl u1.2)) (bX 0x9b2a9210ba10 a b ((a+b)-a) rfl (fG (a+b) a))
theorem B8:((p+((1:Nat):Int))-1)=p:=aj (cN 41932058862353 p rfl) (cN 37594244200721 p rfl)
theorem B7:(p+q)-p=q:=aj (eW 2846434065 p q rfl) (eW 2845980945 q p rfl)
theorem y_474:(p+q)-q=p:=aj (eW 2594775825 p q rfl) (eW 2861709585 p q rfl)
theorem y_475:((0+a)-1)-b=(a-1)-b:=by lia
theorem y_476:(p-1)-q=(((p*1)-q)-((1:Nat):Int)):=aj (eW 0x445ea62a6751193311 p q rfl) (eW 0x54464ce22f53153311 p q rfl)
theorem y_477(h0:2<=a):((a:Int)-1)=(((a-1):Nat):Int):=aj (b6 0x223452214f1197311 a (a-1) rfl (fG a 1)) ((gP a 1).elim (λu1=>b6 0x2a23243111a739711 (a-1) a rfl u1.2) (λu1=>(cV 20083838621970 a rfl h0 u1.1).elim))
theorem yT:a-0=a:=av (b6 2836441360 (a-0) a rfl (cZ a 0)) (b6 112358107408 a (a-0) rfl (fG a 0))
theorem wq(h0:a-b=c+1):a-(b+1)=c:=av ((gP a (b+1)).elim (λu1=>gk 0x324b44362385643111a2918ab10 (a-b) c (a-(b+1)) b a rfl h0 u1.2 (fG a b)) (λu1=>b6 421046544 (a-(b+1)) c rfl u1.2)) ((gP a b).elim (λu2=>gk 0x22365a582197243111a291cda10 (a-b) c b a (a-(b+1)) rfl h0 u2.2 (fG a (b+1))) (λu2=>(b6 300864904370458 (a-b) c rfl h0 u2.2).elim))
theorem y_480(h0:b<=a):a-(a-b)=b:=av ((gP a (a-b)).elim (λu1=>dh 0xca2b10ba9218c910 (a-(a-b)) (a-b) a b rfl u1.2 (fG a b)) (λu1=>b6 421046544 (a-(a-b)) b rfl u1.2)) ((gP a b).elim (λu2=>dh 0x9c2b10ba9218ca10 (a-b) b a (a-(a-b)) rfl u2.2 (fG a (a-b))) (λu2=>dh 0xbc2a1001b18a910c910 b a (a-b) (a-(a-b)) rfl h0 u2.2 (fG a (a-b))))
theorem y_481:(p-((0:Nat):Int))=p:=aj (cN 2417464081 p rfl) (cN 24721681 p rfl)
theorem y_482:(p-(((a+1):Nat):Int))=((p-(a:Int))-1):=aj (lL 0x2232f267119279311 a p rfl) (lL 0x22324f27119793311 a p rfl)
theorem AG:p-p=0:=aj (cN 1676049 p rfl) (cN 160629009 p rfl)
theorem B6:(2*p)/2=p:=by lia
theorem y_485(h0:¬(p<0)):(((2*p.natAbs):Nat):Int)=2*p:=aj ((jy p).elim (λu1=>lL 0x9972992249224711 p.natAbs p rfl u1.1) (λu1=>lL 0x9897290194792249224711 p.natAbs p rfl h0 u1.1)) (lL 0x9792192247922411 p.natAbs p rfl (km p))
theorem y_486(h0:0<=p):((p.natAbs:Nat):Int)=p:=aj ((jy p).elim (λu1=>lL 659035887377 p.natAbs p rfl u1.1) (λu1=>lL 0x9897199012199711 p.natAbs p rfl h0 u1.1)) (lL 650974427409 p.natAbs p rfl (km p))
theorem y_488(h0:¬(p<0)):((p.natAbs:Nat):Int)=p:=aj ((jy p).elim (λu1=>lL 659035887377 p.natAbs p rfl u1.1) (λu1=>lL 0x9897190192799711 p.natAbs p rfl h0 u1.1)) (lL 650974427409 p.natAbs p rfl (km p))
theorem y_493(h0:a+1=b):(a:Int)=((b:Int)-1):=aj (b6 0x2a23243111a739711 a b rfl h0) (b6 0x2a2324392f11a7311 a b rfl h0)
theorem y_494(h0:1<=a):max a 1=a:=av ((maxC a 1).elim (λu1=>b6 0x223431311109a10 a (max a 1) rfl h0 u1.1) (λu1=>b6 2836965648 (max a 1) a rfl u1.1)) ((maxC a 1).elim (λu2=>b6 0x2234211191c9a10 (max a 1) a rfl u2.1 u2.2) (λu2=>b6 2837223952 (max a 1) a rfl u2.1))
theorem y_495(h0:a<=b):min a b=a:=av (b6 2836441360 (min a b) a rfl (dN a b)) ((minC a b).elim (λu1=>b6 2837223952 (min a b) a rfl u1.1) (λu1=>bX 0xab1ca910b910 a b (min a b) rfl h0 u1.1))
theorem B5(h0:a=b)(h1:c=a):min a b=c:=av (bX 0xab10a91c9b10 c a (min a b) rfl h1 (dN a b)) ((minC a b).elim (λu1=>bX 0xab1ca918b910 c a (min a b) rfl h1 u1.1) (λu1=>dh 0xac1c9b18a918cb10 a b c (min a b) rfl h0 h1 u1.1))
theorem y_497(h0:p<0):(-(((2*p.natAbs):Nat):Int))=2*p:=aj (lL 0x979821922492247811 p.natAbs p rfl (kK p)) ((jy p).elim (λu1=>(cN 6733496595 p rfl h0 u1.2).elim) (λu1=>lL 0x989729922478922411 p.natAbs p rfl u1.1))
theorem y_498(h0:p<0):(-((p.natAbs:Nat):Int))=p:=aj (lL 0x979811997811 p.natAbs p rfl (kK p)) ((jy p).elim (λu1=>(cN 6733496595 p rfl h0 u1.2).elim) (λu1=>lL 0x989719978911 p.natAbs p rfl u1.1))
theorem y_500:(((a:Int)+1)-1).toNat=a:=av ((pT (((a:Int)+1)-1)).elim (λu1=>b6 0x22311a7239719a910 ((((a:Int)+1)-1).toNat) a rfl u1.1) (λu1=>b6 421046544 ((((a:Int)+1)-1).toNat) a rfl u1.1)) (b6 0x29e2311972311a910 a ((((a:Int)+1)-1).toNat) rfl (bT (((a:Int)+1)-1)))
theorem y_501:(a:Int).toNat=a:=av ((pT (a:Int)).elim (λu1=>b6 719794579728 ((a:Int).toNat) a rfl u1.1) (λu1=>b6 421046544 ((a:Int).toNat) a rfl u1.1)) (b6 719794055440 a ((a:Int).toNat) rfl (bT (a:Int)))
theorem y_502(h0:0<b)(h1:b=0):a=0:=av ((cV 618764704026 b rfl h0 h1).elim) (cV 590096 a rfl)
theorem y_503(h0:b<1+1)(h1:a<b):a=0:=av (b6 0x268522311291401a10 b a rfl h0 h1) (cV 590096 a rfl)
theorem y_504(h0:a<=0):a=0:=av (cV 6727670032 a rfl h0) (cV 590096 a rfl)
theorem y_505(h0:(a:Int)=0):a=0:=av (cV 109279451408 a rfl h0) (cV 590096 a rfl)
theorem y_506(h0:a<1+1)(h1:b<a):a=1:=av (cV 0x44622522911910 a rfl h0) (b6 90774507792 b a rfl h1)
theorem y_507(h0:b<0):a=1:=av ((cV 6422 b rfl h0).elim) ((cV 6422 b rfl h0).elim)
theorem y_508(h0:1<=a)(h1:¬(1<a)):a=1:=av (cV 2620514179344 a rfl h1) (cV 2620501725456 a rfl h0)
theorem y_509(h0:b<a):a=(b+1)+((a-b)-1):=av (dh 0x324ac422345221511c22b10 (a-b) ((a-b)-1) a b rfl (fG (a-b) 1) (fG a b)) ((gP (a-b) 1).elim (λu1=>(gP a b).elim (λu2=>dh 0x32e8862a2324319311b2210 ((a-b)-1) (a-b) b a rfl u1.2 u2.2) (λu2=>(b6 2836699666 b a rfl h0 u2.1).elim)) (λu1=>bX 0x36315229571192210 b a ((a-b)-1) rfl h0 u1.2))
theorem y_510(h0:a=(b+1)+c):a=b+(c+1):=av (bX 0x2e2344523111b2a2910 a b c rfl h0) (bX 0x2e23445239311b2a210 a b c rfl h0)
theorem y_511(h0:a<b+1)(h1:b<=a):a=b:=av (b6 18804056041744 a b rfl h0) (b6 2836441360 b a rfl h1)
theorem y_512(h0:c<d)(h1:e<d)(h2:f+d<=g)(h3:f+c=i)(h4:(j+i)+1=(2*(i-c))+d)(h5:g+e=k)(h6:(l+k)+1=(2*(k-e))+d)(h7:(k<i/\(¬(l<j)))\/((¬(k<i))/\l<j)):a=b:=av (h7.elim (λu1=>(oP 0xfec218d9b21ccab210a914df16 c d f g i e k rfl h0 h2 h3 h5 u1.1).elim) (λu1=>(gP i c).elim (λu2=>(fZ 0x3b5c08a3e4052a80890a230120443901384314e0448511ef2218edb21ccab210a9149a028022 [e,d,f,g,c,i,j,(i-c),k,l,(k-e)] [] rfl h1 h2 h3 h4 h5 h6 u1.2 u2.2 (fG k e)).elim) (λu2=>(fZ 0x7ca360052a40890a22e1004438e1384315e448511ed2218cab210a91499027022 [e,d,f,g,j,i,(i-c),k,l,(k-e)] [] rfl h1 h2 h4 h5 h6 u1.2 u2.2 (fG k e)).elim))) (h7.elim (λu3=>(oP 0xfec218d9b21ccab210a914df16 c d f g i e k rfl h0 h2 h3 h5 u3.1).elim) (λu3=>(gP i c).elim (λu4=>(fZ 0x3b5c08a3e4052a80890a230120443901384314e0448511ef2218edb21ccab210a9149a028022 [e,d,f,g,c,i,j,(i-c),k,l,(k-e)] [] rfl h1 h2 h3 h4 h5 h6 u3.2 u4.2 (fG k e)).elim) (λu4=>(fZ 0x7ca360052a40890a22e1004438e1384315e448511ed2218cab210a91499027022 [e,d,f,g,j,i,(i-c),k,l,(k-e)] [] rfl h1 h2 h4 h5 h6 u3.2 u4.2 (fG k e)).elim)))
theorem y_513(h0:c<d)(h1:e<d)(h2:f+d<=g)(h3:f+e=i)(h4:(j+i)+1=(2*(i-e))+d)(h5:g+c=k)(h6:(l+k)+1=(2*(k-c))+d)(h7:(i<k/\(¬(j<l)))\/((¬(i<k))/\j<l)):a=b:=av (h7.elim (λu1=>(gP i e).elim (λu2=>(fZ 0x3b5c08a243c5aa80890a230120443901384314e0448511ef2218edb21ccab210a9149a028022 [c,d,f,g,e,i,j,(i-e),k,l,(k-c)] [] rfl h0 h2 h3 h4 h5 h6 u1.2 u2.2 (fG k c)).elim) (λu2=>(fZ 0x7ca20345aa40890a22e1004438e1384315e448511ed2218cab210a91499027022 [c,d,f,g,j,i,(i-e),k,l,(k-c)] [] rfl h0 h2 h4 h5 h6 u1.2 u2.2 (fG k c)).elim)) (λu1=>(oP 0xed16d9b21ccab210a914efc21a e d f g i k c rfl h1 h2 h3 u1.1 h5).elim)) (h7.elim (λu3=>(gP i e).elim (λu4=>(fZ 0x3b5c08a243c5aa80890a230120443901384314e0448511ef2218edb21ccab210a9149a028022 [c,d,f,g,e,i,j,(i-e),k,l,(k-c)] [] rfl h0 h2 h3 h4 h5 h6 u3.2 u4.2 (fG k c)).elim) (λu4=>(fZ 0x7ca20345aa40890a22e1004438e1384315e448511ed2218cab210a91499027022 [c,d,f,g,j,i,(i-e),k,l,(k-c)] [] rfl h0 h2 h4 h5 h6 u3.2 u4.2 (fG k c)).elim)) (λu3=>(oP 0xed16d9b21ccab210a914efc21a e d f g i k c rfl h1 h2 h3 u3.1 h5).elim))
theorem y_514(h0:(b-a)+(a-b)<=(b-b)+(b-b)):a=b:=av ((gP b b).elim (λu1=>gk 0xca2d10ccb228bb2a9210cd10 (b-a) (a-b) (b-b) b a rfl h0 u1.2 (fG a b)) (λu1=>gk 0xda2c1001b28bb2a9210dc10 (b-a) (a-b) (b-b) a b rfl h0 u1.2 (fG a b))) ((gP b b).elim (λu2=>gk 0xd92c10ccb228bb2a9210dc10 (b-a) (a-b) (b-b) b a rfl h0 u2.2 (fG b a)) (λu2=>gk 0xd92c1001b28bb2a9210dc10 (b-a) (a-b) (b-b) b a rfl h0 u2.2 (fG b a)))
theorem yS(h0:a<=b)(h1:b-a=0):a=b:=av (b6 2836441360 a b rfl h0) (bX 0xb92a1001918ba10 (b-a) b a rfl h1 (fG b a))
theorem vC(h0:a<=b)(h1:¬(a<b)):a=b:=av (b6 2836441360 a b rfl h0) (b6 2836830736 a b rfl h1)
theorem y_517(h0:a<=b)(h1:¬(a+1<=b)):a=b:=av (b6 2836441360 a b rfl h0) (b6 23165209319952 a b rfl h1)
theorem B4(h0:2*a=2*b):a=b:=av (b6 0xa224922418a920 a b rfl h0) (b6 0xa22492241c9a20 a b rfl h0)
theorem y_519(h0:(a:Int)=(b:Int)):a=b:=av (b6 719794579728 a b rfl h0) (b6 719794838032 a b rfl h0)
theorem AF(h0:a=c)(h1:b=c):a=b:=av (bX 0xab1ca918b910 a c b rfl h0 h1) (bX 0xab18a91c9b10 a c b rfl h0 h1)
theorem sW(h0:a=c)(h1:b=d)(h2:c=d):a=b:=av (dh 0xca18cb1ca918b910 a c b d rfl h0 h1 h2) (dh 0xca1ccb18a91c9b10 a c b d rfl h0 h1 h2)
theorem y_522(h0:a=c)(h1:b=d)(h2:d=c):a=b:=av (dh 0xac1ccb1ca918b910 a c b d rfl h0 h1 h2) (dh 0xac18cb18a91c9b10 a c b d rfl h0 h1 h2)
theorem y_523(h0:a=c)(h1:c=b):a=b:=av (bX 0xba18a918b910 a c b rfl h0 h1) (bX 0xba1ca91c9b10 a c b rfl h0 h1)
theorem y_524(h0:c=a)(h1:c=b):a=b:=av (bX 0xb918a91cba10 c a b rfl h0 h1) (bX 0xb91ca918ab10 c a b rfl h0 h1)
theorem y_525(h0:p=0)(h1:p=1\/p=-1):a=b:=av (h1.elim (λu1=>(cN 13475322143 p rfl h0 u1).elim) (λu1=>(cN 215739369755 p rfl h0 u1).elim)) (h1.elim (λu2=>(cN 13475322143 p rfl h0 u2).elim) (λu2=>(cN 215739369755 p rfl h0 u2).elim))
theorem B3(h0:0<q)(h1:q=0):p=0:=aj ((cN 618765752603 q rfl h0 h1).elim) ((cN 618765752603 q rfl h0 h1).elim)
theorem y_528(h0:a<0):p=0:=by omega
theorem y_529(h0:0<=p)(h1:0<=q)(h2:r*0=(2*p)+(2*(4*q))):p=0:=aj (pj 0x9424224b2242a051d9018101b21 q r p rfl h1 h2) (cN 618762141969 p rfl h0)
theorem y_530(h0:0<=p)(h1:0<=q)(h2:r*0=(2*q)+(2*(4*p))):p=0:=aj (pj 0xb42422492242a051d9012101b81 q r p rfl h1 h2) (cN 618762141969 p rfl h0)
theorem y_531(h0:0<=p)(h1:0<=q)(h2:p+q=0):p=0:=aj (eW 0x19a2199011101a11 q p rfl h1 h2) (cN 618762141969 p rfl h0)
theorem y_532(h0:0<=p)(h1:0<=q)(h2:q+p=0):p=0:=aj (eW 0x1a92199011101a11 q p rfl h1 h2) (cN 618762141969 p rfl h0)
theorem y_533(h0:2*p=0):p=0:=aj (cN 27634919545121 p rfl h0) (cN 27634924323105 p rfl h0)
theorem y_534(h0:2*q=p)(h1:q=0):p=0:=aj (eW 0x1929a92241d01a11 q p rfl h0 h1) (eW 0x192da922419a0111 q p rfl h0 h1)
theorem y_535(h0:4*p=0):p=0:=aj (cN 27772358498625 p rfl h0) (cN 27772363276609 p rfl h0)
theorem y_537(h0:p=2*0):p=0:=aj (cN 19948270262545 p rfl h0) (cN 19948275040529 p rfl h0)
theorem y_538(h0:p=(2*0)+(2*(q*(r*0)))):p=0:=by lia
theorem y_546(h0:q=1)(h1:q=p):p=1:=aj (eW 0x2a4762323311a11 q p rfl h0 h1) (eW 0x2a4662323b51111 q p rfl h0 h1)
theorem y_548(h0:p=0\/p=1)(h1:q=1)(h2:(p+q)+r≠2)(h3:s=1)(h4:s=r):p=1:=aj (h0.elim (λu1=>cN 13475322129 p rfl u1) (λu1=>cN 2349937531153 p rfl u1)) (h0.elim (λu2=>(aT h2).elim (λu3=>(gW 0x7076e8662343b1191d221b9c2217 q s r p rfl h1 h3 h4 u2 u3).elim) (λu3=>(gW 0x7066e8762343311919b9c2222117 q s r p rfl h1 h3 h4 u2 u3).elim)) (λu2=>cN 2349946048785 p rfl u2))
theorem y_549(h0:p=0\/p=1)(h1:q=1)(h2:(q+p)+r≠2)(h3:r=1):p=1:=aj (h0.elim (λu1=>cN 13475322129 p rfl u1) (λu1=>cN 2349937531153 p rfl u1)) (h0.elim (λu2=>(aT h2).elim (λu3=>(pj 0x6c762343b1191d221ab92217 q r p rfl h1 h3 u2 u3).elim) (λu3=>(pj 0x6c662343311919ab92222117 q r p rfl h1 h3 u2 u3).elim)) (λu2=>cN 2349946048785 p rfl u2))
theorem y_550(h0:p=0\/p=1)(h1:q=1)(h2:r=1)(h3:(s+r)+p≠2)(h4:q=s):p=1:=aj (h0.elim (λu1=>cN 13475322129 p rfl u1) (λu1=>cN 2349937531153 p rfl u1)) (h0.elim (λu2=>(aT h3).elim (λu3=>(gW 0x7076e4662343b1191d221cab2217 q r s p rfl h1 h2 h4 u2 u3).elim) (λu3=>(gW 0x7066e4762343311919cab2222117 q r s p rfl h1 h2 h4 u2 u3).elim)) (λu2=>cN 2349946048785 p rfl u2))
theorem y_551(h0:p=0\/p=1)(h1:q=1)(h2:r=1)(h3:p=s)(h4:(r+t)+s≠2)(h5:q=t):p=1:=aj (h0.elim (λu1=>cN 13475322129 p rfl u1) (λu1=>cN 2349937531153 p rfl u1)) (h0.elim (λu2=>(aT h4).elim (λu3=>(yK 0x6c7764672c662343b1191d221cda2217 q r p s t rfl h1 h2 h3 h5 u2 u3).elim) (λu3=>(yK 0x6c6764772c762343311919cda2222117 q r p s t rfl h1 h2 h3 h5 u2 u3).elim)) (λu2=>cN 2349946048785 p rfl u2))
theorem y_552(h0:p=0\/p=1)(h1:q=1)(h2:r=1)(h3:p=s)(h4:(s+t)+q≠2)(h5:r=t):p=1:=aj (h0.elim (λu1=>cN 13475322129 p rfl u1) (λu1=>cN 2349937531153 p rfl u1)) (h0.elim (λu2=>(aT h4).elim (λu3=>(yK 0x6c7768672c662343b1191d2219dc2217 q r p s t rfl h1 h2 h3 h5 u2 u3).elim) (λu3=>(yK 0x6c6768772c7623433119199dc2222117 q r p s t rfl h1 h2 h3 h5 u2 u3).elim)) (λu2=>cN 2349946048785 p rfl u2))
theorem y_553(h0:p=0\/p=1)(h1:q=1)(h2:r=1)(h3:p=s)(h4:q=t)(h5:(v+s)+t≠2)(h6:r=v):p=1:=aj (h0.elim (λu1=>cN 13475322129 p rfl u1) (λu1=>cN 2349937531153 p rfl u1)) (h0.elim (λu2=>(aT h5).elim (λu3=>(fZ 0x6c77a86764672c662343b1191d221dce2217 [] [q,r,p,s,t,v] rfl h1 h2 h3 h4 h6 u2 u3).elim) (λu3=>(fZ 0x6c67a87764772c762343311919dce2222117 [] [q,r,p,s,t,v] rfl h1 h2 h3 h4 h6 u2 u3).elim)) (λu2=>cN 2349946048785 p rfl u2))
theorem y_554:p=0+p:=aj (cN 151070993 p rfl) (cN 160436753 p rfl)
theorem y_555:p=(p-q)+q:=aj (eW 2861771025 p q rfl) (eW 2594779665 p q rfl)
theorem B2(h0:-p=1):p=-1:=aj (cN 601640009828625 p rfl h0) (cN 601639877679121 p rfl h0)
theorem y_560(h0:2*p=r)(h1:2*q=r):p=q:=aj (pj 0xab2241da922419b921 p r q rfl h0 h1) (pj 0xab22419a92241d9b21 p r q rfl h0 h1)
theorem y_561(h0:p-q=0):p=q:=aj (eW 114137082129 p q rfl h0) (eW 114137340433 p q rfl h0)
theorem y_563(h0:q=p):p=q:=aj (eW 2837289489 q p rfl h0) (eW 2837031185 q p rfl h0)
theorem B1(h0:r=s)(h1:(t=1/\(p=s/\q=r))\/((t=v/\(p=r/\q=s))\/((t=1/\(p=-r/\q=-s))\/(t=v/\(p=-s/\q=-r))))):p=q:=aj (h1.elim (λu1=>gW 0x9c1dab19a91dcb11 r s p q rfl h0 u1.2.1 u1.2.2) (λu1=>u1.elim (λu2=>gW 0xac1d9b19a919cb11 r s p q rfl h0 u2.2.1 u2.2.2) (λu2=>u2.elim (λu3=>gW 0xa8c1d98b19a91dcb11 r s p q rfl h0 u3.2.1 u3.2.2) (λu3=>gW 0x98c1da8b19a919cb11 r s p q rfl h0 u3.2.1 u3.2.2)))) (h1.elim (λu4=>gW 0x9c19ab1da919bc11 r s p q rfl h0 u4.2.1 u4.2.2) (λu4=>u4.elim (λu5=>gW 0xac199b1da91dbc11 r s p q rfl h0 u5.2.1 u5.2.2) (λu5=>u5.elim (λu6=>gW 0xa8c1998b1da919bc11 r s p q rfl h0 u6.2.1 u6.2.2) (λu6=>gW 0x98c19a8b1da91dbc11 r s p q rfl h0 u6.2.1 u6.2.2))))
theorem y_565(h0:p=1\/p=-1):-0x10000000000000000< -p/\-p<0x10000000000000000:=⟨h0.elim (λu1=>cN 0x223233300001000000000000000091815 p rfl u1) (λu1=>cN 0x2231233300001000000000000000091815 p rfl u1),h0.elim (λu2=>cN 0x22323a00010000000000000000919815 p rfl u2) (λu2=>cN 0x223123a00010000000000000000919815 p rfl u2)⟩
theorem y_566(h0:a<0x10000000000000000)(h1:p.natAbs<=a):-0x10000000000000000<p/\p<0x10000000000000000:=⟨qF 0x29e60466840000200000000000000012322920001000000000000000091815 a p.natAbs p rfl h0 h1 (kK p),qF 0x29e446684000020000000000000001232280001000000000000000091915 a p.natAbs p rfl h0 h1 (km p)⟩
theorem y_567(h0:a<=1000000)(h1:b<(((a:Int)+1)-1).toNat)(h2:(((b+1):Nat):Int)=p):-0x10000000000000000<p/\p<0x10000000000000000:=⟨lL 0x262324e3320001000000000000000091815 b p rfl h2,(pT (((a:Int)+1)-1)).elim (λu1=>wl 0x11188cb91db8ccc4689c76e8501e8480a32200001000000000000000091915 a b ((((a:Int)+1)-1).toNat) p rfl h0 h1 h2 u1.1) (λu1=>(b6 45386570266 b ((((a:Int)+1)-1).toNat) rfl h1 u1.1).elim)⟩
theorem B0(h0:p=1\/p=-1):-0x10000000000000000<p/\p<0x10000000000000000:=⟨h0.elim (λu1=>cN 0x22323b20001000000000000000091815 p rfl u1) (λu1=>cN 0x223123b20001000000000000000091815 p rfl u1),h0.elim (λu2=>cN 0x2232320001000000000000000091915 p rfl u2) (λu2=>cN 0x22312320001000000000000000091915 p rfl u2)⟩
theorem y_569(h0:a<b)(h1:d<c+1)(h2:b<d):a<b/\b<=c:=⟨b6 2836703508 a b rfl h0,bX 0x1362911a2914ab10 d c b rfl h1 h2⟩
theorem y_570(h0:b<c+1)(h1:a<b):a<b/\b<=c:=⟨b6 2836703508 a b rfl h1,b6 18804056041744 b c rfl h0⟩
theorem y_571(h0:b<c+1)(h1:a<d)(h2:d<b):a<b/\b<=c:=⟨bX 0xba14a914b914 a d b rfl h1 h2,b6 18804056041744 b c rfl h0⟩
theorem y_572(h0:b<c+1)(h1:d<b)(h2:d=a):a<b/\b<=c:=⟨bX 0xb91ca914ab14 d b a rfl h1 h2,b6 18804056041744 b c rfl h0⟩
theorem y_575:0<=p%2/\p%2<=1:=by lia
theorem y_576(h0:0<=p/\p<=q):0<=p+1/\p<=q:=⟨cN 5068899222683921 p rfl h0.1,eW 2836506897 p q rfl h0.2⟩
theorem y_577(h0:-12<=p/\p<=12):0<=p+12/\p+12<=24:=⟨cN 0x9c21811c21920111 p rfl h0.1,cN 0x18432221831c219211 p rfl h0.2⟩
theorem y_578(h0:q=0\/q=1)(h1:r=0\/r=1)(h2:(q+r)+s=p)(h3:s=0\/s=1):0<=p/\p<4:=⟨h0.elim (λu1=>h1.elim (λu2=>h3.elim (λu3=>gW 0x1b1d01a1d0191dcba92219c0111 q r s p rfl h2 u1 u2 u3) (λu3=>gW 0x111b1d01a1d0191dcba92219c0111 q r s p rfl h2 u1 u2 u3)) (λu2=>h3.elim (λu4=>gW 0x363b11a1d0191dcba92219c0111 q r s p rfl h2 u1 u2 u4) (λu4=>gW 0x22363b11a1d0191dcba92219c0111 q r s p rfl h2 u1 u2 u4))) (λu1=>h1.elim (λu5=>h3.elim (λu6=>gW 0x363a0343b1191dcba92219c0111 q r s p rfl h2 u1 u5 u6) (λu6=>gW 0x22363a0343b1191dcba92219c0111 q r s p rfl h2 u1 u5 u6)) (λu5=>h3.elim (λu7=>gW 0x6c762343b1191dcba92219c0111 q r s p rfl h2 u1 u5 u7) (λu7=>gW 0x446c762343b1191dcba92219c0111 q r s p rfl h2 u1 u5 u7))),h0.elim (λu8=>h1.elim (λu9=>h3.elim (λE8=>gW 0x1b1901a1901919cba9221d421c15 q r s p rfl h2 u8 u9 E8) (λE8=>gW 0x111b1901a1901919cba9221d421c15 q r s p rfl h2 u8 u9 E8)) (λu9=>h3.elim (λGf=>gW 0x363311a1901919cba9221d421c15 q r s p rfl h2 u8 u9 Gf) (λGf=>gW 0x22363311a1901919cba9221d421c15 q r s p rfl h2 u8 u9 Gf))) (λu8=>h1.elim (λGe=>h3.elim (λHp=>gW 0x36320343311919cba9221d421c15 q r s p rfl h2 u8 Ge Hp) (λHp=>gW 0x2236320343311919cba9221d421c15 q r s p rfl h2 u8 Ge Hp)) (λGe=>h3.elim (λJl=>gW 0x6c662343311919cba9221d421c15 q r s p rfl h2 u8 Ge Jl) (λJl=>gW 0x446c662343311919cba9221d421c15 q r s p rfl h2 u8 Ge Jl)))⟩
theorem y_579(h0:0<=p/\p<=(1*((12:Nat):Int))):0<=p/\p<=12:=⟨cN 618762141969 p rfl h0.1,cN 0x1842f14911c21911 p rfl h0.2⟩
theorem y_580(h0:a<=12)(h1:b=a)(h2:0<=p/\p<=(144*(b:Int))):0<=p/\p<=1728:=⟨cN 618762141969 p rfl h2.1,qF 0x14e90349119a090f8c219090f006c041911 a b p rfl h0 h1 h2.2⟩
theorem y_581(h0:a+1<=12)(h1:0<=p/\p<=((144*(a:Int))+(12*(a:Int)))):0<=p/\p<=(144*(((a+1):Nat):Int)):=⟨cN 618762141969 p rfl h1.1,lL 0x97c2497481a1488e10c464b022324e9034911 a p rfl h0 h1.2⟩
theorem y_582(h0:0<=p/\p<=q):0<=p/\p<=q+1:=⟨cN 618762141969 p rfl h0.1,eW 23236596869393 p q rfl h0.2⟩
theorem y_583(h0:a+1<=12)(h1:0<=p/\p<=((q+(12*(a:Int)))+(a:Int))):0<=p/\p<=(q+(12*(((a+1):Nat):Int))):=⟨cN 618762141969 p rfl h1.1,fZ 0x25e5f09288a44708623242111927c24a2911 [a] [p,q] rfl h0 h1.2⟩
theorem y_584(h0:0<=p/\p<=((q+(a:Int))+1)):0<=p/\p<=(q+(((a+1):Nat):Int)):=⟨cN 618762141969 p rfl h0.1,fZ 0x2232f44522311927a2911 [a] [p,q] rfl h0.2⟩
theorem y_585(h0:0<=p)(h1:b<=a)(h2:p<=(1*(c:Int)))(h3:c=b):0<=p/\p<=(a:Int):=⟨cN 618762141969 p rfl h0,wl 0x136316f14911a910a7911 b a c p rfl h1 h2 h3⟩
theorem y_586(h0:0<=p/\p<=2):0<=p/\(p.toNat<((0+1)+1)+1/\p<0x8000000000000000):=⟨cN 618762141969 p rfl h0.1,⟨(pT p).elim (λu1=>lL 0x4cb8c910c88c46231101222914 p.toNat p rfl h0.2 u1.1) (λu1=>cV 0xc8c446231101222914 p.toNat rfl u1.1),cN 0x221911800000000000000081915 p rfl h0.2⟩⟩
theorem y_587(h0:0<=p/\p<=((12:Nat):Int))(h1:6<=b)(h2:b<=12)(h3:a=b):-12<=(((a:Int)-1)-p)/\(((a:Int)-1)-p)<=12:=⟨qF 0x134392c4221842f223311a733c21811 b a p rfl h0.2 h1 h3,qF 0x1343184322120223843311a73311 b a p rfl h0.1 h2 h3⟩
theorem y_588(h0:a<=12)(h1:0<=(p+(12*(a:Int)))/\(p+(12*(a:Int)))<=(24*((12:Nat):Int))):-144<=p/\p<=288:=⟨lL 0x12f84924022384338129031811 a p rfl h0 h1.1,lL 0x3085c30692f84924232031911 a p rfl h1.2⟩
theorem y_589(h0:a<=12)(h1:b=a)(h2:0<=p/\p<=(144*(b:Int))):-0x8000000000000000<=p/\p<0x8000000000000000:=⟨cN 0x901119800000000000000081811 p rfl h2.1,qF 0x14e90349119a090f8c219090f0800000000000000081915 a b p rfl h0 h1 h2.2⟩
theorem BZ(h0:0<=p/\p<=1):-0x8000000000000000<=p/\p<0x8000000000000000:=⟨cN 0x901119800000000000000081811 p rfl h0.1,cN 0x111911800000000000000081915 p rfl h0.2⟩
theorem y_591(h0:0<=p/\p<=12):-0x8000000000000000<=p/\p<0x8000000000000000:=⟨cN 0x901119800000000000000081811 p rfl h0.1,cN 0xc21911800000000000000081915 p rfl h0.2⟩
theorem y_592(h0:0<=p/\p<=(1*((60:Nat):Int))):-0x8000000000000000<=p/\p<0x8000000000000000:=⟨cN 0x901119800000000000000081811 p rfl h0.1,cN 0x7862f14911800000000000000081915 p rfl h0.2⟩
theorem y_593(h0:0<=p/\p<=(12*((12:Nat):Int))):-0x8000000000000000<=p/\p<0x8000000000000000:=⟨cN 0x901119800000000000000081811 p rfl h0.1,cN 0xc217c24911800000000000000081915 p rfl h0.2⟩
theorem y_594(h0:0<=p/\p<=(1728*((4:Nat):Int))):-0x8000000000000000<=p/\p<0x8000000000000000:=⟨cN 0x901119800000000000000081811 p rfl h0.1,cN 0x421706c044911800000000000000081915 p rfl h0.2⟩
theorem y_595(h0:0<=p/\p<=((12:Nat):Int)):-0x8000000000000000<=p/\p<0x8000000000000000:=⟨cN 0x901119800000000000000081811 p rfl h0.1,cN 0xc217911800000000000000081915 p rfl h0.2⟩
theorem y_596(h0:-12<=p/\p<=12):-0x8000000000000000<=p/\p<0x8000000000000000:=⟨cN 0x9c218119800000000000000081811 p rfl h0.1,cN 0xc21911800000000000000081915 p rfl h0.2⟩
theorem y_597(h0:-144<=p/\p<=288):-0x8000000000000000<=p/\p<0x8000000000000000:=⟨cN 0x1290318119800000000000000081811 p rfl h0.1,cN 0x12031911800000000000000081915 p rfl h0.2⟩
theorem y_598(h0:d<c)(h1:a+d=b):a<=b/\b<a+c:=⟨bX 801315010832 a d b rfl h1,dh 0xc9b21ca914ab2c14 d c a b rfl h0 h1⟩
theorem y_599(h0:q<r)(h1:p<=q):p<=q/\q<r:=⟨eW 2836506897 p q rfl h1,eW 2836769045 q r rfl h0⟩
theorem BY(h0:p=1\/p=-1):(p=1\/p=-1)/\(-p=1\/p=1):=⟨aO λu1=>h0.elim (λu2=>(aT (λx=>u1 (.inl x))).elim (λu3=>cN 2349945919767 p rfl u2 u3) (λu3=>cN 2349937660183 p rfl u2 u3)) (λu2=>(aT (λx=>u1 (.inr x))).elim (λu4=>cN 601511160809751 p rfl u2 u4) (λu4=>cN 601511028660247 p rfl u2 u4)),aO λu5=>h0.elim (λu6=>(aT (λx=>u5 (.inr x))).elim (λu7=>cN 2349945919767 p rfl u6 u7) (λu7=>cN 2349937660183 p rfl u6 u7)) (λu6=>(aT (λx=>u5 (.inl x))).elim (λu8=>cN 601511026595863 p rfl u6 u8) (λu8=>cN 601511162876183 p rfl u6 u8))⟩
theorem y_601:(((1-p)+(1-q))+(1-r)=s↔(p+q)+r=3-s):=⟨λu1=>aj (gW 0x65c44ea2273113221dc3213ba92211 p q r s rfl u1) (gW 0x65c44ea22731132219ba922c321311 p q r s rfl u1),λu1=>aj (gW 0x61909dd4910ee5c44ea22731132211 p q r s rfl u1) (gW 0x61909dd4910cdc44ea227311322c11 p q r s rfl u1)⟩
theorem y_602(h0:(a+f)+1=e):((a+b)+1=c+d↔b+e=(f+c)+d):=⟨λu1=>av (mm 0x3b4a23924431711a9221ceda22bc210 a f e b c d rfl h0 u1) (mm 0x3b4a23924439711a92218bc2eda2210 a f e b c d rfl h0 u1),λu1=>av (mm 0x3b688af0862e23524431da511c92210 a f e b c d rfl h0 u1) (mm 0x3b688af0872e2352443911c922ed210 a f e b c d rfl h0 u1)⟩
theorem y_603(h0:e<=d):((a:Int)=((((b:Int)-(c:Int))-(2*((d:Int)-(e:Int))))+(d:Int))↔d+b=(a+(2*(d-e)))+c):=⟨λu1=>av (mm 0xde2c20c7d7c73224b7a7332971dbe224922ac210 a b c d e (d-e) rfl u1 (fG d e)) ((gP d e).elim (λu2=>mm 0xcde228c7d7c73224b7a73329719ac2be22492210 a b c d e (d-e) rfl u1 u2.2) (λu2=>mm 0x1e28a797a73224d7c7332b719a920ca2de224b2210 e d a b c (d-e) rfl h0 u1 u2.2)),λu1=>aj (mm 0xec2920dc224b22a921c97e7973224d7a7332b711 d b a (d-e) c e rfl u1 (fG d e)) ((gP d e).elim (λu3=>mm 0x9ec228dc224b22a9218b797e7973224d7a733211 d b a (d-e) c e rfl u1 u3.2) (λu3=>mm 0x1d28ed224c22ba218a920c7a797a73224e7b733211 e d b a (d-e) c rfl h0 u1 u3.2))⟩
theorem y_604(h0:c<=b):((a:Int)=((((2*((b:Int)-(c:Int)))+(d:Int))-1)-(b:Int))↔(a+b)+1=(2*(b-c))+d):=⟨λu1=>av (gk 0x2f4a8829e238f6f4e64484672e339a448511a92210 a b c d (b-c) rfl u1 (fG b c)) ((gP b c).elim (λu2=>gk 0x2af48a29e238f6f4e64484672e3b11a922cd224210 a b c d (b-c) rfl u1 u2.2) (λu2=>gk 0x74a29e238f2f4e64484676e3b524111ab22cd224210 c b a d (b-c) rfl h0 u1 u2.2)),λu1=>aj ((gP b c).elim (λu3=>gk 0x2b6c8a32c890a235244314f11c7d7a732242339711 a b (b-c) d c rfl u1 u3.2) (λu3=>gk 0x70a370890a2356443152414f11d797a73224233b711 c b a (b-c) d rfl h0 u1 u3.2)) (gk 0x36ca8832c890a235244392f4f11c7d7a7322423311 a b (b-c) d c rfl u1 (fG b c))⟩
theorem y_605(h0:s<t)(h1:(p=1/\(q=t/\r=s))\/((p=-1/\(q=s/\r=t))\/((p=1/\(q=-s/\r=-t))\/(p=-1/\(q=-t/\r=-s))))):(-p=1↔q<r):=⟨λu1=>h1.elim (λu2=>(cN 37602500614431 p rfl u1 u2.1).elim) (λu2=>u2.elim (λu3=>gW 0xac1d9b19a915cb15 s t q r rfl h0 u3.2.1 u3.2.2) (λu3=>u3.elim (λu4=>(cN 37602500614431 p rfl u1 u4.1).elim) (λu4=>gW 0x98c1da8b19a915cb15 s t q r rfl h0 u4.2.1 u4.2.2))),λu1=>aj (h1.elim (λu5=>cN 37599134717969 p rfl u5.1) (λu5=>u5.elim (λu6=>cN 601511160813585 p rfl u6.1) (λu6=>u6.elim (λu7=>cN 37599134717969 p rfl u7.1) (λu7=>cN 601511160813585 p rfl u7.1)))) (h1.elim (λu8=>(gW 0xab1dcb15a9159c1b s t q r rfl h0 u1 u8.2.1 u8.2.2).elim) (λu8=>u8.elim (λu9=>cN 601511028658449 p rfl u9.1) (λu9=>u9.elim (λE8=>(gW 0x98b1dcb15a915a8c1b s t q r rfl h0 u1 E8.2.1 E8.2.2).elim) (λE8=>cN 601511028658449 p rfl E8.1))))⟩
theorem y_606(h0:s<t)(h1:(p=1/\(q=s/\r=t))\/((p=-1/\(q=t/\r=s))\/((p=1/\(q=-t/\r=-s))\/(p=-1/\(q=-s/\r=-t))))):(p=1↔q<r):=⟨λu1=>h1.elim (λu2=>gW 0xac1d9b19a915cb15 s t q r rfl h0 u2.2.1 u2.2.2) (λu2=>u2.elim (λu3=>(cN 37599134714139 p rfl u1 u3.1).elim) (λu3=>u3.elim (λu4=>gW 0x98c1da8b19a915cb15 s t q r rfl h0 u4.2.1 u4.2.2) (λu4=>(cN 37599134714139 p rfl u1 u4.1).elim))),λu1=>aj (h1.elim (λu5=>cN 2349937531153 p rfl u5.1) (λu5=>u5.elim (λu6=>cN 37594439162129 p rfl u6.1) (λu6=>u6.elim (λu7=>cN 2349937531153 p rfl u7.1) (λu7=>cN 37594439162129 p rfl u7.1)))) (h1.elim (λu8=>cN 2349946048785 p rfl u8.1) (λu8=>u8.elim (λu9=>(gW 0xab1dcb15a9159c1b s t q r rfl h0 u1 u9.2.1 u9.2.2).elim) (λu9=>u9.elim (λE8=>cN 2349946048785 p rfl E8.1) (λE8=>(gW 0x98b1dcb15a915a8c1b s t q r rfl h0 u1 E8.2.1 E8.2.2).elim))))⟩
theorem y_607(h0:c<0):(0<=a->((a<b->A))):=by omega
theorem y_608(h0:a<=b)(h1:c<a-d)(h2:d+c=b):(A->B):=λu1=>kY ((gP a d).elim (λu2=>gk 0xabd21ccb14a9109dc21a a b c (a-d) d rfl h0 h1 h2 u2.2) (λu2=>b6 45386570266 c (a-d) rfl h1 u2.2))
theorem y_612(h0:a<=16777216):¬((0x8000000000000000-1)/8<a):=by lia
theorem y_616(h0:¬(a<c))(h1:b<c/\A):¬(a<b):=bX 0xab14a916b916 a c b rfl h0 h1.1
theorem pn:0<p->¬(p<0):=cN 618765752599 p rfl
theorem wo:q<p->¬(p<q):=eW 2836765207 q p rfl
theorem y_627(h0:a<0x4000000000000):¬(0x10000000000000000000000000000000000000000000000000000000000000000000000000000000000000000000000000000000000000000000000000000000000000000000000000000000000000000000000000000000000000000000000000000000000000000000000000000000000000000000000000000000000000000-0x400000000000000000000000000000000000000000000000000000000000000000000000000000000000000000000000000000000000000000000000000000000000000000000000000000000000000000000000000000000000000000000000000000000000000000000000000000000000000000000000000<=a):=by lia
theorem y_640(h0:a<c)(h1:c<d)(h2:d<e)(h3:e<b):¬(a-1=b):=mm 0x9e10dc14cb14ba14a914de1e a c d e b (a-1) rfl h0 h1 h2 h3 (cZ a 1)
theorem y_642(h0:¬(p=q)):¬(-p=-q):=(aT h0).elim (λu1=>eW 726212843547 p q rfl u1) (λu1=>eW 726211799071 q p rfl u1)
theorem y_644(h0:1<=b)(h1:¬(a=b)):¬(a=1+(b-1)):=(gP b 1).elim (λu1=>(aI h1).elim (λu2=>bX 0x2ac52a2324393112b1e (b-1) b a rfl u1.2 u2) (λu2=>bX 0x2e852a2324313112b1a (b-1) b a rfl u1.2 u2)) (λu1=>(aI h1).elim (λu3=>bX 0x26852232217112a1e b a (b-1) rfl u1.1 u3) (λu3=>bX 0x2e45006862622215112b1a b (b-1) a rfl h0 u1.2 u3))
theorem mh(h0:a<b):¬(a=b):=by lia
theorem y_660:a<c->c<d->d+1<e->e<f->f<g->g<b->¬(a=b):=oP 0x1fc29da29b829911b214ba14a914f91e a c d e f g b rfl
theorem y_661:a<c->c<d->d+1<e->e<f->f<g->g<i->i<b->¬(a=b):=fZ 0xe1e29fc29da29b829911b214ba14a9147091e [a,c,d,e,f,g,i,b] [] rfl
theorem y_664:a<c->c<d->d<e->e+1<f->f<g->g<i->i<b->¬(a=b):=fZ 0xe1e29fc29da29b11c214cb14ba14a9147091e [a,c,d,e,f,g,i,b] [] rfl
theorem y_665:a<c->c<d->d<e->e+1<f->f<g->g<i->i<j->j<b->¬(a=b):=fZ 0x100e028e1e29fc29da29b11c214cb14ba14a9148091e [a,c,d,e,f,g,i,j,b] [] rfl
theorem vB:a<c->c<=b->¬(a=b):=bX 0xba10a914b91e a c b rfl
theorem y_669:a<c->c<=d->d<=e->e<=b->¬(a=b):=gk 0xdc10cb10ba10a914d91e a c d e b rfl
theorem y_678:b<c->c<d->d+1<e->e<f->f<g->g<a->¬(a=b):=oP 0x1fc29da29b829911b214ba14a9149f1a b c d e f g a rfl
theorem y_680:b<c->d<a->e<d->f<=e->g<=f->(c+1)+2=g->¬(a=b):=oP 0x1e44311a2218ef10de10bd14cb14a9149c1a b c d a e f g rfl
theorem y_681:b<c->d<a->e<=d->f<=e->(c+1)+2=f->¬(a=b):=mm 0x1c44311a2218de10bd10cb14a9149c1a b c d a e f rfl
theorem sV:b<c->c<=a->¬(a=b):=bX 0xba10a9149b1a b c a rfl
theorem y_686(h0:b<=c)(h1:¬(d<=a/\a<=c))(h2:b=(d+1)+e):¬(a=b):=(naC h1).elim (λu1=>dh 0x19425711a2291c9c1e b d e a rfl h2 u1) (λu1=>bX 0xab12a9109b1a b c a rfl h0 u1)
theorem yR(h0:a=c)(h1:b=d)(h2:¬(c=d)):¬(a=b):=(aI h2).elim (λu1=>dh 0xca14cb1ca918b91e a c b d rfl h0 h1 u1) (λu1=>dh 0xac14cb18a91cb91a a c b d rfl h0 h1 u1)
theorem BX(h0:¬(b<=a/\a<=b+c)):¬(a=b):=(naC h0).elim (λu1=>b6 2836568606 b a rfl u1) (λu1=>bX 799553005850 a b c rfl u1)
theorem y_695(h0:r<s)(h1:(t=1/\(p=r/\q=s))\/((t=v/\(p=s/\q=r))\/((t=1/\(p=-s/\q=-r))\/(t=v/\(p=-r/\q=-s))))):¬(p=q):=by lia
theorem y_696(h0:r<s)(h1:(t=1/\(p=s/\q=r))\/((t=v/\(p=r/\q=s))\/((t=1/\(p=-r/\q=-s))\/(t=v/\(p=-s/\q=-r))))):¬(p=q):=by lia
theorem y_706:0<a\/a=0:=aO λu1=>(aI (λx=>u1 (.inr x))).elim (λu2=>cV 6422 a rfl u2) (λu2=>cV 618767384854 a rfl (λx=>u1 (.inl x)) u2)
theorem y_707(h0:b<=c)(h1:c<=a):0<a\/b=0:=aO λu1=>(aI (λx=>u1 (.inr x))).elim (λu2=>cV 6422 b rfl u2) (λu2=>bX 0xb0116ba10a91090116 b c a rfl h0 h1 (λx=>u1 (.inl x)) u2)
theorem BW(h0:p=1\/p=-1):-p=1\/-p=-1:=aO λu1=>h0.elim (λu2=>(aT (λx=>u1 (.inr x))).elim (λu3=>cN 601584007944215 p rfl u2 u3) (λu3=>cN 601586188490775 p rfl u2 u3)) (λu2=>(aT (λx=>u1 (.inl x))).elim (λu4=>cN 601511026595863 p rfl u2 u4) (λu4=>cN 601511162876183 p rfl u2 u4))
theorem y_709(h0:a<2):a=0\/a=1:=aO λu1=>(aI (λx=>u1 (.inl x))).elim (λu2=>cV 6422 a rfl u2) (λu2=>(aI (λx=>u1 (.inr x))).elim (λu3=>cV 1237530515734 a rfl u2 u3) (λu3=>cV 4686389383446 a rfl h0 u3))
theorem y_710(h0:0<=p/\p<=1):p=0\/p=1:=aO λu1=>(aT (λx=>u1 (.inl x))).elim (λu2=>cN 618761558295 p rfl h0.1 u2) (λu2=>(aT (λx=>u1 (.inr x))).elim (λu3=>cN 1237532612887 p rfl u2 u3) (λu3=>cN 2349920882967 p rfl h0.2 u3))
theorem y_711(h0:r≠s)(h1:¬(r<s))(h2:¬(s<r)):p=1\/p=q:=aO λu1=>(aT h0).elim (λu2=>eW 2836900119 r s rfl h1 u2) (λu2=>eW 2836900119 s r rfl h2 u2)
theorem y_712(h0:p=1\/p=q):p=1\/p=q:=by omega
theorem y_713(h0:b≠a)(h1:(c+a)+1=(2*(a-e))+f)(h2:(d+b)+1=(2*(b-g))+f)(h3:i+e=a)(h4:i+g=b):(a<b/\(¬(c<d)))\/((¬(a<b))/\c<d):=aO λu1=>(naC (λx=>u1 (.inr x))).elim (λu2=>(naC (λx=>u1 (.inl x))).elim (λu3=>b6 2836834582 a b rfl u3 (eu.mp u2)) (λu3=>(gP b g).elim (λu4=>fZ 0x3a43c8a36453a853a41c08b2a01c08a33c890a23da443196448511a9221c80b2a22 [c,a,(a-e),f,d,b,(b-g),i,e,g] [] rfl h1 h2 h3 h4 (eu.mp u2) (eu.mp u3) u4.2 (fG a e)) (λu4=>oP 0x36453a8533c890a23da443196448511a9221c01f2a c a (a-e) f d b (b-g) rfl h1 h2 (eu.mp u2) (eu.mp u3) u4.2))) (λu2=>(aI h0).elim (λu5=>(gP a e).elim (λu6=>fZ 0x2a02c8a2b853645ba41c08a2a01c08b33c890a23da443996448511a9221890f2e22 [c,a,(a-e),f,d,b,(b-g),i,e,g] [] rfl h1 h2 h3 h4 u2 u5 u6.2 (fG b g)) (λu6=>oP 0x2b853645b3c890a23da443996448511a9221801b2a c a (a-e) f d b (b-g) rfl h1 h2 u2 u5 u6.2)) (λu5=>(naC (λx=>u1 (.inl x))).elim (λu7=>b6 2836834582 a b rfl u7 u5) (λu7=>b6 2836834582 c d rfl u2 (eu.mp u7))))
theorem y_716(h0:a≠2)(h1:a≠b)(h2:a≠c)(h3:a≠d)(h4:a=b\/(a=c\/(a=d\/a=2))):False:=by lia
theorem y_717(h0:2<a)(h1:a<b)(h2:b<c)(h3:c<d)(h4:d<e)(h5:e<f)(h6:g<a)(h7:¬(i=a))(h8:¬(i=b))(h9:j=b\/j=a)(LV:j=f\/(j=e\/(j=d\/(j=i\/(j=g\/j=2))))):False:=h9.elim (λu1=>LV.elim (λu2=>mm 0x9e18dc14cb14ba14a914de1e b c d e f j rfl h2 h3 h4 h5 u1 u2) (λu2=>u2.elim (λu3=>gk 0x9d18cb14ba14a914cd1e b c d e j rfl h2 h3 h4 u1 u3) (λu3=>u3.elim (λu4=>dh 0x9c18ba14a914bc1e b c d j rfl h2 h3 u1 u4) (λu4=>u4.elim (λu5=>(aI h8).elim (λu6=>bX 0xb918a91cab16 j b i rfl u1 u5 u6) (λu6=>bX 0xb91ca918ba16 j b i rfl u1 u5 u6)) (λu5=>u5.elim (λu7=>dh 0xac1c9b14a914bc1a a b g j rfl h1 h6 u1 u7) (λu7=>bX 0xab1ca914922114221b1a a b j rfl h0 h1 u1 u7)))))) (λu1=>LV.elim (λu8=>oP 0x9f18ed14dc14cb14ba14a914ef1e a b c d e f j rfl h1 h2 h3 h4 h5 u1 u8) (λu8=>u8.elim (λu9=>mm 0x9e18dc14cb14ba14a914de1e a b c d e j rfl h1 h2 h3 h4 u1 u9) (λu9=>u9.elim (λE8=>gk 0x9d18cb14ba14a914cd1e a b c d j rfl h1 h2 h3 u1 E8) (λE8=>E8.elim (λGf=>(aI h7).elim (λGe=>bX 0xb918a91cab16 j a i rfl u1 Gf Ge) (λGe=>bX 0xb91ca918ba16 j a i rfl u1 Gf Ge)) (λGf=>Gf.elim (λHp=>bX 0xab1ca9149b1a g a j rfl h6 u1 Hp) (λHp=>b6 0x9a1c922114221a1a a j rfl h0 u1 Hp))))))
theorem y_719:a+1<b->b<c->c<d->d<e->e<f->g<a->i<g->f<=j->j=i->False:=fZ 0x101c21ee0293e29da29b82996297429511921470801a [a,b,c,d,e,f,g,i,j] [] rfl
theorem y_720(h0:(a+1)-1<a):False:=b6 0x2a452232511a212 ((a+1)-1) a rfl h0 (fG (a+1) 1)
theorem y_723(h0:a<b)(h1:b<c)(h2:c<d)(h3:d<e)(h4:f<a)(h5:g<a)(h6:i=e\/i=d)(h7:i=c\/(i=b\/(i=a\/(i=f\/(i=g\/i=2))))):False:=h6.elim (λu1=>h7.elim (λu2=>dh 0xbc1cba14a9149c1a c d e i rfl h2 h3 u1 u2) (λu2=>u2.elim (λu3=>gk 0xcd1ccb14ba14a9149d1a b c d e i rfl h1 h2 h3 u1 u3) (λu3=>u3.elim (λu4=>mm 0xde1cdc14cb14ba14a9149e1a a b c d e i rfl h0 h1 h2 h3 u1 u4) (λu4=>u4.elim (λu5=>oP 0xdf1c9e14dc14cb14ba14a914ef1a a b c d e f i rfl h0 h1 h2 h3 h4 u1 u5) (λu5=>u5.elim (λu6=>oP 0xdf1c9e14dc14cb14ba14a914ef1a a b c d e g i rfl h0 h1 h2 h3 h5 u1 u6) (λu6=>gk 0xcd1ccb14ba14a914221d1a b c d e i rfl h1 h2 h3 u1 u6)))))) (λu1=>h7.elim (λu7=>bX 0xab1ca9149b1a c d i rfl h2 u1 u7) (λu7=>u7.elim (λu8=>dh 0xbc1cba14a9149c1a b c d i rfl h1 h2 u1 u8) (λu8=>u8.elim (λu9=>gk 0xcd1ccb14ba14a9149d1a a b c d i rfl h0 h1 h2 u1 u9) (λu9=>u9.elim (λE8=>mm 0xce1c9d14cb14ba14a914de1a a b c d f i rfl h0 h1 h2 h4 u1 E8) (λE8=>E8.elim (λGf=>mm 0xce1c9d14cb14ba14a914de1a a b c d g i rfl h0 h1 h2 h5 u1 Gf) (λGf=>gk 0xcd1ccb14ba14a914221d1a a b c d i rfl h0 h1 h2 u1 Gf))))))
theorem y_724(h0:a<b)(h1:b<c)(h2:c<d)(h3:e<=a)(h4:f<e)(h5:f=d-1):False:=oP 0x1fc39bc293a2196297429522911f2c12 a b c d e f (d-1) rfl h0 h1 h2 h3 h4 h5 (fG d 1)
theorem y_725:a<b->b<c->c<d->e<=a->f<e->f=d->False:=mm 0xde149d10cb14ba14a914ce1e a b c d e f rfl
theorem y_726:a<b->b<c->c<d->e<=a->f<e->g=d+1->g<=i->f=i->False:=fZ 0xe1e2111c2f1cde149d10cb14ba14a91470e1e [a,b,c,d,e,f,g,i] [] rfl
theorem y_729:a<b->b<c->d<=a->e<=d->f<e->g=c+1->g<=i->i<j->f=j->False:=fZ 0x100e028e1e2111b2f1cde14cd109c10ba14a91480e1e [a,b,c,d,e,f,g,i,j] [] rfl
theorem y_730:a<b->b<c->d<=a->e<=d->f<e->g=c+1->g<=i->f=i->False:=fZ 0xe1e2111b2f1cde14cd109c10ba14a91470e1e [a,b,c,d,e,f,g,i] [] rfl
theorem y_734(h0:a<b)(h1:b<c)(h2:c=b\/c=a):False:=h2.elim (λu1=>b6 2836699674 b c rfl h1 u1) (λu1=>bX 0xba14a9149b1a a b c rfl h0 h1 u1)
theorem y_735:a<b->c<a->d<c->e<d->b<=f->f=e->False:=mm 0xea10cd14bc149b14a914de1a a b c d e f rfl
theorem y_736:a<b->c<a->d<c->e<d->f=b->f<=g->g=e->False:=oP 0xfe10ae1ccd14bc149b14a914df1a a b c d e f g rfl
theorem BV(h0:a<b)(h1:c<b)(h2:b<=d)(h3:d=a\/d=c):False:=h3.elim (λu1=>bX 0xba10a9149b1a a b d rfl h0 h2 u1) (λu1=>bX 0xba10a9149b1a c b d rfl h1 h2 u1)
theorem qj:a<b->b<=a->False:=b6 2836699666 a b rfl
theorem y_744:a<b->b<=c->c<=d->d<=e->e<=f->f=a->False:=mm 0xed10dc10cb10ba10a9149e1a a b c d e f rfl
theorem sU:a<b->b<=c->a=c->False:=bX 0xba10a914b91e a b c rfl
theorem rj:a<b->b<=c->c=a->False:=bX 0xba10a9149b1a a b c rfl
theorem y_748(h0:a<b)(h1:c<=a)(h2:d<c)(h3:d=b-1):False:=gk 0x1b83978293621522911d2a12 a b c d (b-1) rfl h0 h1 h2 h3 (fG b 1)
theorem y_750:a<b->c<=a->d<c->e=b+1->e<=f->d=f->False:=mm 0x1da2111a2d1cbc149b10a914ec1e a b c d e f rfl
theorem y_760(h0:a<b)(h1:(c<d↔a<b))(h2:¬(c<d)):False:=(iffC h1).elim (λu1=>b6 2836834582 c d rfl h2 u1.1) (λu1=>b6 2836834582 a b rfl u1.2 h0)
theorem y_761(h0:1<=a)(h1:a<=b)(h2:a-1=b):False:=(gP a 1).elim (λu1=>bX 0x156395221311b21a a b (a-1) rfl h1 h2 u1.2) (λu1=>bX 0x1563952213111001b1a a b (a-1) rfl h0 h1 h2 u1.2)
theorem y_762(h0:a<=a-1)(h1:b<a):False:=(gP a 1).elim (λu1=>b6 23236092994074 a (a-1) rfl h0 u1.2) (λu1=>bX 0x9b14a91001a1a a (a-1) b rfl h0 h1 u1.2)
theorem BU(h0:2*p=0)(h1:¬(p=0)):False:=by omega
theorem y_767(h0:p=0)(h1:p=1\/p=-1):False:=h1.elim (λu1=>cN 13475322143 p rfl h0 u1) (λu1=>cN 215739369755 p rfl h0 u1)
theorem y_768(h0:a<a/\A):False:=cV 39190 a rfl h0.1
theorem AE(h0:0<a)(h1:a=0):A:=by omega
theorem BS(h0:a<0):A:=by omega
theorem y_771(h0:a<1)(h1:b<a):A:=kY (b6 73435224598 a b rfl h0 h1)
theorem y_772(h0:a<b)(h1:b<=a):A:=by omega
theorem BR(h0:a<b)(h1:b<=c)(h2:c<=a):A:=kY (bX 0xba10a9149b12 a b c rfl h0 h1 h2)
theorem y_774(h0:a<b)(h1:b-1=c)(h2:¬(a<c))(h3:¬(c=a)):A:=kY ((aI h3).elim (λu1=>dh 0x138299631522911b2a12 a b (b-1) c rfl h0 h1 u1 (fG b 1)) (λu1=>b6 2836834582 a c rfl h2 u1))
theorem BQ(h0:a<b)(h1:b-a=0):A:=kY (bX 7626938845440530 a b (b-a) rfl h0 h1 (fG b a))
end
end
variable{A:Around}{w:World}{K:Frag}{M:Model}{D:GD}{B' ms ws zs:List Int}{rows:List (List Int)}{ks:List (Int×Int)}{ki:Nat->List Int}{ct:Nat->Tok}{TK:Nat->Nat->Tok}{P:Addr}{params:Arguments}{scope:Scope}{cenv env:Env}{fr:List Env}{B:Heap}{Dr:Shared}{s0:Heap}{lo:Nat}{fp wr:List Nat}{G:Cx}{cl:List (Str×Addr)}{cm:Str->Option Value}{cell:Nat}{R:Result->Shared->Prop}{E Q:Value->Shared->Prop}{Γ Γ':Ctx}{ch:List Nat}{c:Int}{r:List Int}{C:Nat}{β α:Type}{ds:List Dt}{Es I:Nat}{St:Nat->Heap->Prop}{T:Nat->Nat}{Lk:Prop}{EM EK tk:Value}{t':Nat}{r':List Int}{args:Args}{mx my:Int}{L pp:Nat}{ch':List Nat}{cg ck cv El Eo D2 Ew:Value}{sN:Int}{L0 LI:Nat}{row f1:Value}{Kx σ:Nat->Nat}{Rs jr:Nat}{sp:List (Bool×Nat)}{elt iter target test e e2:Expr}{es elts:List Expr}{body orelse rest:List Stmt}{apos EN p p1 p2 px py F' tp Fy:Pos}{name q qual sn x:Str}{y:UInt64}{u z:Int}{f:Nat->Int}{d:Dt}{it:Option Nat}{DB:Nat->Array Value}{items Dx ps xs:Array Value}{i j k ll g:Nat}{DW oz:Obj}{s C' s':Shared}{DA h hc hx h':Heap}
section
@[irreducible] def prog:Program:=dM
open PySem.Float64
noncomputable def FQ(x:UInt64)(z:Int):Prop:=(∃a m e,decode x=.fin a m e)/\2*val x=z*2^1074
theorem mQ{a b:Nat}(h:a<=b):(2:Nat)^a*2^(b-a)=2^b:=by rw [<-gh];congr 1;exact y_457 h
theorem V_half(n:Nat)(h:n<2^53):∃t,2*V t=n*2^1074/\t<infMag:=by
 have OW:V 0=0:=by decide
 by_cases h0:n=0
 ·exact⟨0,by rw [h0,OW];simp,by decide⟩
 ·-- find j with 2^52<=n*2^j<2^53
  have hl:n.log2<53:=(Nat.log2_lt h0).mpr h
  have h1:2^n.log2<=n:=Nat.log2_self_le h0
  have h2:n<2^(n.log2+1):=Nat.lt_log2_self
  have VC:(2:Nat)^n.log2*2^(52-n.log2)=2^52:=mQ (cV 0x6a632283431910 n.log2 rfl hl)
  have VB:(2:Nat)^(n.log2+1)*2^(52-n.log2)=2^53:=by
   rw [<-gh];congr 1;exact y_433 hl
  have q1:2^52<=n*2^(52-n.log2):=by rw [<-VC];exact fB _ h1
  have q2:n*2^(52-n.log2)<=2^53:=by rw [<-VB];exact fB _ (aJ h2)
  refine⟨(1073-(52-n.log2))*2^52+n*2^(52-n.log2),?_,?_⟩
  ·rw [V_at q2 (.inl q1)]
   have:(2:Nat)^(52-n.log2)*2^(1073-(52-n.log2))=2^1073:=mQ (cV 0x3431910043141910 ((52:Nat)-n.log2) rfl (cZ (52:Nat) n.log2))
   rw [fM,this,show (1074:Nat)=1073+1 from rfl,Nat.pow_succ]
   generalize (2:Nat)^1073=K
   rw [<-fM,<-fM];exact y_422
  ·have hi:infMag=2047*2^52:=rfl
   rw [hi]
   have:(1073-(52-n.log2))<=1073:=cZ _ _
   generalize (1073-(52-n.log2))=c at *
   generalize n*2^(52-n.log2)=q at *
   have:c*2^52<=1073*2^52:=fB _ this
   exact y_67 ‹_› q2
theorem FQ.of_right{r:UInt64}{neg:Bool}{W D:Nat}(hr:Right r neg W D)(hD:0<D){n:Nat}(hn:n<2^53)(hW:2*W=D*(n*2^1074)):FQ r (sgn neg n):=by
 obtain⟨t,rfl,E0,Mv,MT⟩:=hr
 obtain⟨t0,RM,V3⟩:=V_half n hn
 have hW0:W=D*V t0:=by
  have:2*W=2*(D*V t0):=by rw [hW,<-RM];generalize V t0=v;rw [Nat.mul_left_comm]
  exact B4 this
 have EW:t<infMag:=by
  rcases Nat.lt_or_ge t infMag with h|h
  ·exact h
  ·have:t=infMag:=av E0 h
   have h3:=Mv.mp this
   rw [hW] at h3
   have h4:D*(n*2^1074)<D*((2^54-1)*2^2045):=by
    refine Nat.mul_lt_mul_of_pos_left ?_ hD
    have a1:n*2^1074<2^53*2^1074:=Nat.mul_lt_mul_of_pos_right hn (iM _)
    have a2:(2:Nat)^53*2^1074=2^1127:=by rw [<-gh]
    have a3:(2:Nat)^1127<=2^2045:=iA (by decide) (by decide)
    have a4:1*(2:Nat)^2045<=(2^54-1)*2^2045:=fB _ (by decide)
    exact y_64 hn
   exact y_206 this h4 hW Mv
 obtain⟨hb,_⟩:=MT EW t0
 have hVt:D*V t=W:=by
  rw [hW0] at hb ⊢
  unfold dist at hb
  exact y_514 hb
 have hV:V t=V t0:=by
  rw [hW0] at hVt
  exact Nat.eq_of_mul_eq_mul_left hD hVt
 obtain⟨m,e,hd,hv⟩:=decode_pack neg EW
 refine⟨⟨neg,m,e,hd⟩,?_⟩
 rw [val_pack neg EW,hV]
 have:((2*V t0:Nat):Int)=((n*2^1074:Nat):Int):=by rw [RM]
 rw [fV,fV,Int.natCast_pow] at this
 unfold sgn
 generalize ((2:Nat):Int)^1074=K at *
 cases neg
 ·simpa using this
 ·simp only [if_true];rw [lY,gj];congr 1
theorem l9(i:Int):sgn (decide (i<0)) i.natAbs=i:=by
 unfold sgn
 by_cases h:i<0
 ·simp only [h,decide_true,if_true];exact y_498 h
 ·simp only [h,decide_false,cB,if_false];exact y_488 h
theorem FQ.zero(b:Bool):FQ (ba b) 0:=by
 have hz:ba b=pack b 0:=by cases b<;>rfl
 have h0:(0:Nat)<infMag:=by decide
 obtain⟨m,e,hd,hv⟩:=decode_pack b h0
 have OW:V 0=0:=by decide
 rw [hz]
 refine⟨⟨b,m,e,hd⟩,?_⟩
 rw [val_pack b h0,OW]
 unfold sgn
 cases b<;>simp
theorem FQ.ofInt{i:Int}(h:i.natAbs<2^52):FQ (Float64.ofInt i) (2*i):=by
 have:=FQ.of_right (ofInt_right i) (by decide) (n:=2*i.natAbs) (by exact cV 0x1000000000000081924002000000000000081922414 (bZ i) rfl h) (by generalize (2:Nat)^1074=K;rw [Nat.one_mul,fM])
 have e:sgn (decide (i<0)) (2*i.natAbs)=2*i:=by
  unfold sgn
  by_cases h:i<0
  ·simp only [h,decide_true,if_true];exact y_497 h
  ·simp only [h,decide_false,cB,if_false];exact y_485 h
 rw [e] at this;exact this
theorem w7:(0:Int)<2^1074:=Int.pow_pos (by decide)
theorem g9{v:Int}(h:2*v=z*2^1074):2*v.natAbs=z.natAbs*2^1074:=by
 have h1:(2*v).natAbs=(z*2^1074).natAbs:=by rw [h]
 rw [dt,dt,Int.natAbs_pow] at h1
 exact h1
theorem eH{v:Int}(h:2*v=z*2^1074):(v<0↔z<0)/\(v=0↔z=0):=by
 have hp:=w7
 generalize (2:Int)^1074=K at *
 constructor
 ·constructor
  ·intro hv
   by_cases hz:z<0
   ·exact hz
   ·have:=gO (show 0<=z by exact cN 6735593745 z rfl hz) (Int.le_of_lt hp);exact(eW 0xa011101925a92241f v (z*K) rfl hv this h).elim
  ·intro hz
   have:=fH hz hp;exact eW 0x9a224190191501a25 (z*K) v rfl this h
 ·constructor
  ·intro hv
   have:z*K=0:=by exact y_534 h hv
   rcases e9.mp this with hh|hh
   ·exact hh
   ·exact B3 hp hh
  ·intro hz
   rw [hz,gN] at h;exact y_533 h
theorem FQ.add{x:UInt64}(hx:FQ x z)(hy:FQ y u)(hb:(z+u).natAbs<2^53):FQ (Float64.add x y) (z+u):=by
 obtain⟨⟨a,m,e,dx⟩,vx⟩:=hx
 obtain⟨⟨b,k,f,dy⟩,vy⟩:=hy
 obtain⟨r0,r1⟩:=add_right dx dy
 have hs:2*(val x+val y)=(z+u)*2^1074:=by rw [fD,vx,vy,iD]
 by_cases h0:val x+val y=0
 ·rw [r0 h0,(eH hs).2.mp h0]
  exact FQ.zero _
 ·have:=FQ.of_right (r1 h0) (by decide) hb (by rw [Nat.one_mul];exact g9 hs)
  rw [decide_eq_decide.mpr (eH hs).1,l9] at this
  exact this
theorem FQ.sub{x:UInt64}(hx:FQ x z)(hy:FQ y u)(hb:(z-u).natAbs<2^53):FQ (Float64.sub x y) (z-u):=by
 obtain⟨⟨a,m,e,dx⟩,vx⟩:=hx
 obtain⟨⟨b,k,f,dy⟩,vy⟩:=hy
 obtain⟨r0,r1⟩:=sub_right dx dy
 have hs:2*(val x-val y)=(z-u)*2^1074:=by rw [Int.mul_sub,vx,vy,Int.sub_mul]
 by_cases h0:val x-val y=0
 ·rw [r0 h0,(eH hs).2.mp h0]
  exact FQ.zero _
 ·have:=FQ.of_right (r1 h0) (by decide) hb (by rw [Nat.one_mul];exact g9 hs)
  rw [decide_eq_decide.mpr (eH hs).1,l9] at this
  exact this
theorem jF{x:UInt64}{a:Bool}{m:Nat}{e:Int}(h:decode x=.fin a m e)(hv:val x≠0):a=decide (val x<0):=by
 rw [val_eq h] at hv ⊢
 unfold sgn at hv ⊢
 generalize m*2^(e+1074).toNat=p at *
 cases a
 ·simp only [cB,if_false] at hv ⊢
  have:¬((p:Int)<0):=by exact cV 104215 p rfl
  simp [this]
 ·simp only [if_true] at hv ⊢
  have:-(p:Int)<0:=by exact y_138 hv
  exact(decide_eq_true this).symm
theorem tq{v:Int}(hv:v≠0)(hu:u≠0):sgn (decide (v<0) != decide (u<0)) (v.natAbs*u.natAbs)=v*u:=by
 rw [<-dt]
 have:(decide (v<0) != decide (u<0))=decide (v*u<0):=by
  rcases aT hv with h1|h1<;>rcases aT hu with h2|h2
  ·have:=jD h1 h2
   simp [h1,h2,show ¬v*u<0 by exact pn this]
  ·have:=fH h1 h2
   simp [h1,show ¬u<0 by exact pn h2,this]
  ·have:=jE h1 h2
   simp [h2,show ¬v<0 by exact pn h1,this]
  ·have:=Int.mul_pos h1 h2
   simp [show ¬v<0 by exact pn h1,show ¬u<0 by exact pn h2,show ¬v*u<0 by exact pn this]
 rw [this,l9]
theorem FQ.mul{x:UInt64}{w:Int}(hx:FQ x z)(hy:FQ y u)(hw:2*w=z*u)(hb:w.natAbs<2^53):FQ (Float64.mul x y) w:=by
  obtain⟨⟨a,m,e,dx⟩,vx⟩:=hx
  obtain⟨⟨b,k,f,dy⟩,vy⟩:=hy
  have nx:=g9 vx
  have ny:=g9 vy
  have hr:=mul_right dx dy
  have Ng:2*w.natAbs=z.natAbs*u.natAbs:=by
    have:(2*w).natAbs=(z*u).natAbs:=by rw [hw]
    rw [dt,dt] at this;exact this
  have:=FQ.of_right hr (iM _) hb (by
    have h4:4*((val x).natAbs*(val y).natAbs)=(2*w.natAbs)*(2^1074*2^1074):=by
      rw [Ng]
      calc 4*((val x).natAbs*(val y).natAbs)=(2*(val x).natAbs)*(2*(val y).natAbs):=by
            generalize (val x).natAbs=p;generalize (val y).natAbs=q
            rw [Nat.mul_mul_mul_comm]
        _=_:=by rw [nx,ny];generalize (2:Nat)^1074=K;ac_rfl
    have h5:(2^1074*(w.natAbs*2^1074))*2=(2*w.natAbs)*(2^1074*2^1074):=by generalize (2:Nat)^1074=K;ac_rfl
    generalize (2*w.natAbs)*(2^1074*2^1074)=R at *
    generalize 2^1074*(w.natAbs*2^1074)=R2 at *
    exact y_420 h4 h5)
  by_cases h0:w=0
  · subst h0
    have e0:sgn (a != b) (bZ 0)=0:=by unfold sgn;split<;>simp
    rw [e0] at this;exact this
  · have hz:z≠0:=λh=>by rw [h,gN] at hw;exact BU hw h0
    have hu:u≠0:=λh=>by rw [h,Int.mul_zero] at hw;exact BU hw h0
    have F0:val x≠0:=λh=>hz ((eH vx).2.mp h)
    have Lp:val y≠0:=λh=>hu ((eH vy).2.mp h)
    rw [jF dx F0,jF dy Lp,decide_eq_decide.mpr (eH vx).1,decide_eq_decide.mpr (eH vy).1] at this
    have e1:=tq hz hu
    have:sgn (decide (z<0) != decide (u<0)) w.natAbs=w:=by
      generalize (decide (z<0) != decide (u<0))=q at *
      unfold sgn at e1 ⊢
      rw [<-Ng,<-hw] at e1
      split at e1<;>split<;>first|contradiction|lia
    rename_i h6
    rw [this] at h6;exact h6
theorem FQ.isZero{x:UInt64}(hx:FQ x z):gH x=decide (z=0):=by
 obtain⟨⟨a,m,e,dx⟩,vx⟩:=hx
 have hv:=val_eq dx
 have h0:=(eH vx).2
 unfold gH
 rw [dx]
 have hm:val x=0↔m=0:=by
  rw [hv]
  have:0<2^(e+1074).toNat:=iM _
  constructor
  ·intro h
   have:=congrArg bZ h
   rw [sgn_natAbs] at this
   rcases Nat.mul_eq_zero.mp this with h1|h1
   ·exact h1
   ·exact y_502 ‹_› h1
  ·rintro rfl;unfold sgn;simp
 by_cases hz:z=0
 ·have:=hm.mp (h0.mpr hz);subst this;simp [hz]
 ·have:m≠0:=λh=>hz (h0.mp (hm.mpr h))
  cases m with
  |zero=>exact absurd rfl this
  |succ n=>simp [hz]
theorem FQ.div{x:UInt64}{w:Int}(hx:FQ x z)(hy:FQ y u)(hu:u≠0)(hw:w*u=2*z)(hb:w.natAbs<2^53):FQ (Float64.div x y) w:=by
 have Sx:=hy.isZero
 obtain⟨⟨a,m,e,dx⟩,vx⟩:=hx
 obtain⟨⟨b,k,f,dy⟩,vy⟩:=hy
 have nx:=g9 vx
 have ny:=g9 vy
 have Lp:val y≠0:=λh=>hu ((eH vy).2.mp h)
 have hk:k≠0:=by
  rintro rfl
  rw [val_eq dy] at Lp
  exact Lp (by unfold sgn;simp)
 have hr:=div_right dx dy hk
 have Ng:w.natAbs*u.natAbs=2*z.natAbs:=by
  have:(w*u).natAbs=(2*z).natAbs:=by rw [hw]
  rw [dt,dt] at this;exact this
 have:=FQ.of_right hr (y_43 hu vy) hb (by
  have h4:2*(2*((val x).natAbs*2^1074))=2*((val y).natAbs*(w.natAbs*2^1074)):=by
   calc 2*(2*((val x).natAbs*2^1074))=2*((2*(val x).natAbs)*2^1074):=by generalize (2:Nat)^1074=K;ac_rfl
    _=(2*z.natAbs)*2^1074*2^1074:=by rw [nx];generalize (2:Nat)^1074=K;ac_rfl
    _=(u.natAbs*2^1074)*(w.natAbs*2^1074):=by rw [<-Ng];generalize (2:Nat)^1074=K;ac_rfl
    _=2*((val y).natAbs*(w.natAbs*2^1074)):=by rw [<-ny];generalize (2:Nat)^1074=K;ac_rfl
  exact B4 h4)
 by_cases h0:w=0
 ·subst h0
  have e0:sgn (a != b) (bZ 0)=0:=by unfold sgn;split<;>simp
  rw [e0] at this;exact this
 ·have hz:z≠0:=λh=>by
   rw [h] at hw
   rcases e9.mp (show w*u=0 by exact y_537 hw) with h1|h1
   ·exact h0 h1
   ·exact hu h1
  have F0:val x≠0:=λh=>hz ((eH vx).2.mp h)
  rw [jF dx F0,jF dy Lp,decide_eq_decide.mpr (eH vx).1,decide_eq_decide.mpr (eH vy).1] at this
  have hs:(decide (z<0) != decide (u<0))=decide (w<0):=by
   rcases aT h0 with h1|h1<;>rcases aT hu with h2|h2
   ·have:=jD h1 h2
    simp [h1,h2,show ¬z<0 by exact eW 0xa2249199011501a27 (w*u) z rfl this hw]
   ·have:=fH h1 h2
    simp [h1,show ¬u<0 by exact pn h2,show z<0 by exact eW 0xa22491d0191501a25 (w*u) z rfl this hw]
   ·have:=jE h1 h2
    simp [h2,show ¬w<0 by exact pn h1,show z<0 by exact eW 0xa22491d0191501a25 (w*u) z rfl this hw]
   ·have:=Int.mul_pos h1 h2
    simp [show ¬z<0 by exact eW 0xa2249199011501a27 (w*u) z rfl this hw,show ¬u<0 by exact pn h2,show ¬w<0 by exact pn h1]
  rw [hs,l9] at this
  exact this
theorem m7{v w:Int}(h:2*v=z*2^1074)(g:2*w=u*2^1074):compare v w=compare z u:=by
 have hp:=w7
 generalize (2:Int)^1074=K at *
 rcases fo z u with hh|hh|hh
 ·have:=i6 hh hp
  rw [jL.mpr hh,jL.mpr (by exact gW 0xbc2241dba15a922419c925 v (z*K) (u*K) w rfl h this g)]
 ·subst hh
  have:v=w:=y_560 h g
  subst this;simp
 ·have:=i6 hh hp
  rw [jM.mpr hh,jM.mpr (by exact gW 0xbc2241dba15a922419c925 w (u*K) (z*K) v rfl g this h)]
theorem FQ.cmp{x:UInt64}(hx:FQ x z)(hy:FQ y u):Float64.cmp x y=some (compare z u):=by
 obtain⟨⟨a,m,e,dx⟩,vx⟩:=hx
 obtain⟨⟨b,k,f,dy⟩,vy⟩:=hy
 rw [cmp_right dx dy,m7 vx vy]
theorem FQ.cmpInt{x:UInt64}(hx:FQ x z)(i:Int):Float64.cmpInt x i=some (compare z (2*i)):=by
 obtain⟨⟨a,m,e,dx⟩,vx⟩:=hx
 rw [cmpInt_right dx,m7 vx (show 2*(i*2^1074)=(2*i)*2^1074 by rw [dF])]
theorem FQ.fin{x:UInt64}(hx:FQ x z):Float64.isInf x=false/\Float64.isNaN x=false:=by
 obtain⟨⟨a,m,e,dx⟩,vx⟩:=hx
 constructor
 ·unfold Float64.isInf;rw [dx]
 ·unfold Float64.isNaN;rw [dx]
end
section
universe u v w z t s
theorem a3{P0 P1 P2 G:Prop}(h:P0/\P1/\P2)(k:P0->P1->P2->G):G:=k h.1 h.2.1 h.2.2
theorem a4{P0 P1 P2 P3 G:Prop}(h:P0/\P1/\P2/\P3)(k:P0->P1->P2->P3->G):G:=k h.1 h.2.1 h.2.2.1 h.2.2.2
theorem a5{P0 P1 P2 P3 P4 G:Prop}(h:P0/\P1/\P2/\P3/\P4)(k:P0->P1->P2->P3->P4->G):G:=k h.1 h.2.1 h.2.2.1 h.2.2.2.1 h.2.2.2.2
theorem ci{D3:Sort u}{P0 P1:D3->Prop}{G:Prop}(h:∃x0,P0 x0/\P1 x0)(k:∀x0,P0 x0->P1 x0->G):G:=h.elim λx0 h=>k x0 h.1 h.2
theorem kF{D3:Sort u}{P0 P1 P2:D3->Prop}{G:Prop}(h:∃x0,P0 x0/\P1 x0/\P2 x0)(k:∀x0,P0 x0->P1 x0->P2 x0->G):G:=h.elim λx0 h=>k x0 h.1 h.2.1 h.2.2
theorem e1a4{D3:Sort u}{P0 P1 P2 P3:D3->Prop}{G:Prop}(h:∃x0,P0 x0/\P1 x0/\P2 x0/\P3 x0)(k:∀x0,P0 x0->P1 x0->P2 x0->P3 x0->G):G:=h.elim λx0 h=>k x0 h.1 h.2.1 h.2.2.1 h.2.2.2
theorem e1a7{D3:Sort u}{P0 P1 P2 P3 P4 P5 P6:D3->Prop}{G:Prop}(h:∃x0,P0 x0/\P1 x0/\P2 x0/\P3 x0/\P4 x0/\P5 x0/\P6 x0)(k:∀x0,P0 x0->P1 x0->P2 x0->P3 x0->P4 x0->P5 x0->P6 x0->G):G:=h.elim λx0 h=>k x0 h.1 h.2.1 h.2.2.1 h.2.2.2.1 h.2.2.2.2.1 h.2.2.2.2.2.1 h.2.2.2.2.2.2
theorem Dd{D3:Sort u}{Ee:Sort v}{P0:D3->Ee->Prop}{G:Prop}(h:∃x0 x1,P0 x0 x1)(k:∀x0 x1,P0 x0 x1->G):G:=h.elim λx0 h=>h.elim λx1 h=>k x0 x1 h
theorem lF{D3:Sort u}{Ee:Sort v}{P0 P1:D3->Ee->Prop}{G:Prop}(h:∃x0 x1,P0 x0 x1/\P1 x0 x1)(k:∀x0 x1,P0 x0 x1->P1 x0 x1->G):G:=h.elim λx0 h=>h.elim λx1 h=>k x0 x1 h.1 h.2
theorem uh{D3:Sort u}{Ee:Sort v}{P0 P1 P2:D3->Ee->Prop}{G:Prop}(h:∃x0 x1,P0 x0 x1/\P1 x0 x1/\P2 x0 x1)(k:∀x0 x1,P0 x0 x1->P1 x0 x1->P2 x0 x1->G):G:=h.elim λx0 h=>h.elim λx1 h=>k x0 x1 h.1 h.2.1 h.2.2
theorem fL{D3:Sort u}{Ee:Sort v}{P0 P1 P2 P3:D3->Ee->Prop}{G:Prop}(h:∃x0 x1,P0 x0 x1/\P1 x0 x1/\P2 x0 x1/\P3 x0 x1)(k:∀x0 x1,P0 x0 x1->P1 x0 x1->P2 x0 x1->P3 x0 x1->G):G:=h.elim λx0 h=>h.elim λx1 h=>k x0 x1 h.1 h.2.1 h.2.2.1 h.2.2.2
theorem e2a5{D3:Sort u}{Ee:Sort v}{P0 P1 P2 P3 P4:D3->Ee->Prop}{G:Prop}(h:∃x0 x1,P0 x0 x1/\P1 x0 x1/\P2 x0 x1/\P3 x0 x1/\P4 x0 x1)(k:∀x0 x1,P0 x0 x1->P1 x0 x1->P2 x0 x1->P3 x0 x1->P4 x0 x1->G):G:=h.elim λx0 h=>h.elim λx1 h=>k x0 x1 h.1 h.2.1 h.2.2.1 h.2.2.2.1 h.2.2.2.2
theorem e2a6{D3:Sort u}{Ee:Sort v}{P0 P1 P2 P3 P4 P5:D3->Ee->Prop}{G:Prop}(h:∃x0 x1,P0 x0 x1/\P1 x0 x1/\P2 x0 x1/\P3 x0 x1/\P4 x0 x1/\P5 x0 x1)(k:∀x0 x1,P0 x0 x1->P1 x0 x1->P2 x0 x1->P3 x0 x1->P4 x0 x1->P5 x0 x1->G):G:=h.elim λx0 h=>h.elim λx1 h=>k x0 x1 h.1 h.2.1 h.2.2.1 h.2.2.2.1 h.2.2.2.2.1 h.2.2.2.2.2
theorem zD{D3:Sort u}{Ee:Sort v}{EJ:Sort w}{P0:D3->Ee->EJ->Prop}{G:Prop}(h:∃x0 x1 x2,P0 x0 x1 x2)(k:∀x0 x1 x2,P0 x0 x1 x2->G):G:=h.elim λx0 h=>h.elim λx1 h=>h.elim λx2 h=>k x0 x1 x2 h
theorem Dc{D3:Sort u}{Ee:Sort v}{EJ:Sort w}{P0 P1:D3->Ee->EJ->Prop}{G:Prop}(h:∃x0 x1 x2,P0 x0 x1 x2/\P1 x0 x1 x2)(k:∀x0 x1 x2,P0 x0 x1 x2->P1 x0 x1 x2->G):G:=h.elim λx0 h=>h.elim λx1 h=>h.elim λx2 h=>k x0 x1 x2 h.1 h.2
theorem oi{D3:Sort u}{Ee:Sort v}{EJ:Sort w}{P0 P1 P2:D3->Ee->EJ->Prop}{G:Prop}(h:∃x0 x1 x2,P0 x0 x1 x2/\P1 x0 x1 x2/\P2 x0 x1 x2)(k:∀x0 x1 x2,P0 x0 x1 x2->P1 x0 x1 x2->P2 x0 x1 x2->G):G:=h.elim λx0 h=>h.elim λx1 h=>h.elim λx2 h=>k x0 x1 x2 h.1 h.2.1 h.2.2
theorem Da{D3:Sort u}{Ee:Sort v}{EJ:Sort w}{P0 P1 P2 P3:D3->Ee->EJ->Prop}{G:Prop}(h:∃x0 x1 x2,P0 x0 x1 x2/\P1 x0 x1 x2/\P2 x0 x1 x2/\P3 x0 x1 x2)(k:∀x0 x1 x2,P0 x0 x1 x2->P1 x0 x1 x2->P2 x0 x1 x2->P3 x0 x1 x2->G):G:=h.elim λx0 h=>h.elim λx1 h=>h.elim λx2 h=>k x0 x1 x2 h.1 h.2.1 h.2.2.1 h.2.2.2
theorem e3a5{D3:Sort u}{Ee:Sort v}{EJ:Sort w}{P0 P1 P2 P3 P4:D3->Ee->EJ->Prop}{G:Prop}(h:∃x0 x1 x2,P0 x0 x1 x2/\P1 x0 x1 x2/\P2 x0 x1 x2/\P3 x0 x1 x2/\P4 x0 x1 x2)(k:∀x0 x1 x2,P0 x0 x1 x2->P1 x0 x1 x2->P2 x0 x1 x2->P3 x0 x1 x2->P4 x0 x1 x2->G):G:=h.elim λx0 h=>h.elim λx1 h=>h.elim λx2 h=>k x0 x1 x2 h.1 h.2.1 h.2.2.1 h.2.2.2.1 h.2.2.2.2
theorem e3a6{D3:Sort u}{Ee:Sort v}{EJ:Sort w}{P0 P1 P2 P3 P4 P5:D3->Ee->EJ->Prop}{G:Prop}(h:∃x0 x1 x2,P0 x0 x1 x2/\P1 x0 x1 x2/\P2 x0 x1 x2/\P3 x0 x1 x2/\P4 x0 x1 x2/\P5 x0 x1 x2)(k:∀x0 x1 x2,P0 x0 x1 x2->P1 x0 x1 x2->P2 x0 x1 x2->P3 x0 x1 x2->P4 x0 x1 x2->P5 x0 x1 x2->G):G:=h.elim λx0 h=>h.elim λx1 h=>h.elim λx2 h=>k x0 x1 x2 h.1 h.2.1 h.2.2.1 h.2.2.2.1 h.2.2.2.2.1 h.2.2.2.2.2
theorem e3a7{D3:Sort u}{Ee:Sort v}{EJ:Sort w}{P0 P1 P2 P3 P4 P5 P6:D3->Ee->EJ->Prop}{G:Prop}(h:∃x0 x1 x2,P0 x0 x1 x2/\P1 x0 x1 x2/\P2 x0 x1 x2/\P3 x0 x1 x2/\P4 x0 x1 x2/\P5 x0 x1 x2/\P6 x0 x1 x2)(k:∀x0 x1 x2,P0 x0 x1 x2->P1 x0 x1 x2->P2 x0 x1 x2->P3 x0 x1 x2->P4 x0 x1 x2->P5 x0 x1 x2->P6 x0 x1 x2->G):G:=h.elim λx0 h=>h.elim λx1 h=>h.elim λx2 h=>k x0 x1 x2 h.1 h.2.1 h.2.2.1 h.2.2.2.1 h.2.2.2.2.1 h.2.2.2.2.2.1 h.2.2.2.2.2.2
theorem e4a2{D3:Sort u}{Ee:Sort v}{EJ:Sort w}{Gn:Sort z}{P0 P1:D3->Ee->EJ->Gn->Prop}{G:Prop}(h:∃x0 x1 x2 x3,P0 x0 x1 x2 x3/\P1 x0 x1 x2 x3)(k:∀x0 x1 x2 x3,P0 x0 x1 x2 x3->P1 x0 x1 x2 x3->G):G:=h.elim λx0 h=>h.elim λx1 h=>h.elim λx2 h=>h.elim λx3 h=>k x0 x1 x2 x3 h.1 h.2
theorem zC{D3:Sort u}{Ee:Sort v}{EJ:Sort w}{Gn:Sort z}{P0 P1 P2:D3->Ee->EJ->Gn->Prop}{G:Prop}(h:∃x0 x1 x2 x3,P0 x0 x1 x2 x3/\P1 x0 x1 x2 x3/\P2 x0 x1 x2 x3)(k:∀x0 x1 x2 x3,P0 x0 x1 x2 x3->P1 x0 x1 x2 x3->P2 x0 x1 x2 x3->G):G:=h.elim λx0 h=>h.elim λx1 h=>h.elim λx2 h=>h.elim λx3 h=>k x0 x1 x2 x3 h.1 h.2.1 h.2.2
theorem e4a4{D3:Sort u}{Ee:Sort v}{EJ:Sort w}{Gn:Sort z}{P0 P1 P2 P3:D3->Ee->EJ->Gn->Prop}{G:Prop}(h:∃x0 x1 x2 x3,P0 x0 x1 x2 x3/\P1 x0 x1 x2 x3/\P2 x0 x1 x2 x3/\P3 x0 x1 x2 x3)(k:∀x0 x1 x2 x3,P0 x0 x1 x2 x3->P1 x0 x1 x2 x3->P2 x0 x1 x2 x3->P3 x0 x1 x2 x3->G):G:=h.elim λx0 h=>h.elim λx1 h=>h.elim λx2 h=>h.elim λx3 h=>k x0 x1 x2 x3 h.1 h.2.1 h.2.2.1 h.2.2.2
theorem e4a9{D3:Sort u}{Ee:Sort v}{EJ:Sort w}{Gn:Sort z}{P0 P1 P2 P3 P4 P5 P6 P7 P8:D3->Ee->EJ->Gn->Prop}{G:Prop}(h:∃x0 x1 x2 x3,P0 x0 x1 x2 x3/\P1 x0 x1 x2 x3/\P2 x0 x1 x2 x3/\P3 x0 x1 x2 x3/\P4 x0 x1 x2 x3/\P5 x0 x1 x2 x3/\P6 x0 x1 x2 x3/\P7 x0 x1 x2 x3/\P8 x0 x1 x2 x3)(k:∀x0 x1 x2 x3,P0 x0 x1 x2 x3->P1 x0 x1 x2 x3->P2 x0 x1 x2 x3->P3 x0 x1 x2 x3->P4 x0 x1 x2 x3->P5 x0 x1 x2 x3->P6 x0 x1 x2 x3->P7 x0 x1 x2 x3->P8 x0 x1 x2 x3->G):G:=h.elim λx0 h=>h.elim λx1 h=>h.elim λx2 h=>h.elim λx3 h=>k x0 x1 x2 x3 h.1 h.2.1 h.2.2.1 h.2.2.2.1 h.2.2.2.2.1 h.2.2.2.2.2.1 h.2.2.2.2.2.2.1 h.2.2.2.2.2.2.2.1 h.2.2.2.2.2.2.2.2
theorem e5a3{D3:Sort u}{Ee:Sort v}{EJ:Sort w}{Gn:Sort z}{Jf:Sort t}{P0 P1 P2:D3->Ee->EJ->Gn->Jf->Prop}{G:Prop}(h:∃x0 x1 x2 x3 x4,P0 x0 x1 x2 x3 x4/\P1 x0 x1 x2 x3 x4/\P2 x0 x1 x2 x3 x4)(k:∀x0 x1 x2 x3 x4,P0 x0 x1 x2 x3 x4->P1 x0 x1 x2 x3 x4->P2 x0 x1 x2 x3 x4->G):G:=h.elim λx0 h=>h.elim λx1 h=>h.elim λx2 h=>h.elim λx3 h=>h.elim λx4 h=>k x0 x1 x2 x3 x4 h.1 h.2.1 h.2.2
theorem e5a5{D3:Sort u}{Ee:Sort v}{EJ:Sort w}{Gn:Sort z}{Jf:Sort t}{P0 P1 P2 P3 P4:D3->Ee->EJ->Gn->Jf->Prop}{G:Prop}(h:∃x0 x1 x2 x3 x4,P0 x0 x1 x2 x3 x4/\P1 x0 x1 x2 x3 x4/\P2 x0 x1 x2 x3 x4/\P3 x0 x1 x2 x3 x4/\P4 x0 x1 x2 x3 x4)(k:∀x0 x1 x2 x3 x4,P0 x0 x1 x2 x3 x4->P1 x0 x1 x2 x3 x4->P2 x0 x1 x2 x3 x4->P3 x0 x1 x2 x3 x4->P4 x0 x1 x2 x3 x4->G):G:=h.elim λx0 h=>h.elim λx1 h=>h.elim λx2 h=>h.elim λx3 h=>h.elim λx4 h=>k x0 x1 x2 x3 x4 h.1 h.2.1 h.2.2.1 h.2.2.2.1 h.2.2.2.2
theorem e5a6{D3:Sort u}{Ee:Sort v}{EJ:Sort w}{Gn:Sort z}{Jf:Sort t}{P0 P1 P2 P3 P4 P5:D3->Ee->EJ->Gn->Jf->Prop}{G:Prop}(h:∃x0 x1 x2 x3 x4,P0 x0 x1 x2 x3 x4/\P1 x0 x1 x2 x3 x4/\P2 x0 x1 x2 x3 x4/\P3 x0 x1 x2 x3 x4/\P4 x0 x1 x2 x3 x4/\P5 x0 x1 x2 x3 x4)(k:∀x0 x1 x2 x3 x4,P0 x0 x1 x2 x3 x4->P1 x0 x1 x2 x3 x4->P2 x0 x1 x2 x3 x4->P3 x0 x1 x2 x3 x4->P4 x0 x1 x2 x3 x4->P5 x0 x1 x2 x3 x4->G):G:=h.elim λx0 h=>h.elim λx1 h=>h.elim λx2 h=>h.elim λx3 h=>h.elim λx4 h=>k x0 x1 x2 x3 x4 h.1 h.2.1 h.2.2.1 h.2.2.2.1 h.2.2.2.2.1 h.2.2.2.2.2
theorem e5a9{D3:Sort u}{Ee:Sort v}{EJ:Sort w}{Gn:Sort z}{Jf:Sort t}{P0 P1 P2 P3 P4 P5 P6 P7 P8:D3->Ee->EJ->Gn->Jf->Prop}{G:Prop}(h:∃x0 x1 x2 x3 x4,P0 x0 x1 x2 x3 x4/\P1 x0 x1 x2 x3 x4/\P2 x0 x1 x2 x3 x4/\P3 x0 x1 x2 x3 x4/\P4 x0 x1 x2 x3 x4/\P5 x0 x1 x2 x3 x4/\P6 x0 x1 x2 x3 x4/\P7 x0 x1 x2 x3 x4/\P8 x0 x1 x2 x3 x4)(k:∀x0 x1 x2 x3 x4,P0 x0 x1 x2 x3 x4->P1 x0 x1 x2 x3 x4->P2 x0 x1 x2 x3 x4->P3 x0 x1 x2 x3 x4->P4 x0 x1 x2 x3 x4->P5 x0 x1 x2 x3 x4->P6 x0 x1 x2 x3 x4->P7 x0 x1 x2 x3 x4->P8 x0 x1 x2 x3 x4->G):G:=h.elim λx0 h=>h.elim λx1 h=>h.elim λx2 h=>h.elim λx3 h=>h.elim λx4 h=>k x0 x1 x2 x3 x4 h.1 h.2.1 h.2.2.1 h.2.2.2.1 h.2.2.2.2.1 h.2.2.2.2.2.1 h.2.2.2.2.2.2.1 h.2.2.2.2.2.2.2.1 h.2.2.2.2.2.2.2.2
theorem nn{P:Prop}{a:β}(h:none=some a):P:=nomatch h
theorem nb{P:Prop}(h:false=true):P:=nomatch h
theorem zU{a b d:Int}(ha:0<=a)(hb:0<=b)(hc:0<=c)(hd:0<=d)(h:a+b=c+d):a.toNat+b.toNat=c.toNat+d.toNat:=y_452 ha hb hc hd h
theorem CK{a b:Int}{A B N:Nat}(ha:a.natAbs<=A)(hb:b.natAbs<=B)(h:A+B<N:=by decide):(a+b).natAbs<N:=by have:=Int.natAbs_add_le a b;exact y_126 ha h hb
theorem Ah{a b:Int}{A B N:Nat}(ha:a.natAbs<=A)(hb:b.natAbs<=B)(h:A+B<N:=by decide):(a-b).natAbs<N:=y_134 ha h hb
theorem xh{a:Int}{A:Nat}(ha:a.natAbs<A):(2*a).natAbs<=2*A:=y_286 ha
theorem lS{P:α->Prop}:∀x∈([]:List α),P x:=λ_ h=>nomatch h
theorem fQ{P:α->Prop}{a:α}{l:List α}(h:P a)(k:∀x∈l,P x):∀x∈a::l,P x:=List.forall_mem_cons.mpr ⟨h,k⟩
theorem sum4:∀l:List Int,l.length=4->l.sum=l.getD 0 0+l.getD 1 0+l.getD 2 0+l.getD 3 0:=λl h=>by
 match l,h with
 |[a,b,c,d],_=>simp;exact y_461
theorem lt3{P:Nat->Prop}(a:P 0)(b:P 1)(c:P 2)(x:Nat)(h:x<3):P x:=by
 cases x with|zero=>exact a|succ x=>cases x with|zero=>exact b|succ x=>cases x with|zero=>exact c|succ x=>exact absurd h (Nat.not_lt.mpr (Nat.le_add_left 3 x))
theorem lt4{P:Nat->Prop}(a:P 0)(b:P 1)(c:P 2)(d:P 3)(x:Nat)(h:x<4):P x:=by
 cases x with|zero=>exact a|succ x=>exact lt3 (P:=λx=>P (x+1)) b c d x (Nat.lt_of_succ_lt_succ h)
end
noncomputable abbrev UpF(lo:Nat)(h h':Heap):Prop:=∀b o,lo<=b->h.get? b=some o->h'.get? b=some o
noncomputable abbrev Up(h h':Heap):Prop:=∀b o,h.get? b=some o->h'.get? b=some o
theorem Up.from(u:Up h h')(lo:Nat):UpF lo h h':=λb o _ e=>u b o e
theorem df{a:Addr}(ha:h.objs.size<=a):h.get? a=none:=by
 cases e:h.get? a with
 |none=>rfl
 |some o=>exact absurd (aX e) (Nat.not_lt.mpr ha)
inductive Dt where
 |int (i:Int)
 |bool (b:Bool)
 |flt (z:Int)
 |comp (ks:List (Int×Int))
 |is (v:Value)
 |lst (l:List Dt)
 |tup (l:List Dt)
 |pl (l:List Dt)
noncomputable def AtComp(lo:Nat)(h:Heap)(v:Value)(ks:List (Int×Int)):Prop :=
 ∃(x d c:Nat) (o:Obj) (mA:Str->Option Value) (items:Array Value),v=.ref x/\lo<=x/\lo<=d/\lo<=c/\h.get? x=some o/\o.cls=.ref 309/\(∀k,o.data≠.cls k)/\o.dict=some d/\¬@Eq Nat d x/\h.Ns1 d mA /\
  mA "comp_select_list"=some (.ref c)/\mA "compare"=none/\h.IsList c items/\items.size=ks.length /\
  ∀(i:Nat) (p:Int×Int),ks[i]?=some p->∃(T:Nat) (t u:Tok),items[i]?=some (.ref T)/\lo<=T/\t≠0/\u≠0/\h.IsTuple T #[.int p.1 t,.int p.2 u]
mutual
noncomputable def At(lo:Nat)(h:Heap):Value->Dt->Prop
 |v,.int i=>∃t,t≠0/\v=.int i t
 |v,.bool b=>v=.bool b
 |v,.flt z=>∃x t,t≠0/\FQ x z/\v=.float x t
 |v,.comp ks=>AtComp lo h v ks
 |v,.is x=>v=x
 |v,.lst l=>∃a items,v=.ref a/\lo<=a/\h.IsList a items/\AtAll lo h items.toList l
 |v,.tup l=>∃a items,v=.ref a/\lo<=a/\h.IsTuple a items/\AtAll lo h items.toList l
 |v,.pl l=>∃a items,v=.ref a/\lo<=a/\h.PlainList a items/\AtAll lo h items.toList l
noncomputable def AtAll(lo:Nat)(h:Heap):List Value->List Dt->Prop
 |[],[]=>True
 |v::vs,d::ds=>At lo h v d/\AtAll lo h vs ds
 |[],_::_=>False
 |_::_,[]=>False
end
section
variable{v:Value}
theorem q7{i:Int}:At lo h v (.int i)=∃t,t≠0/\v=.int i t:=rfl
theorem rb{b:Bool}:At lo h v (.bool b)=(v=.bool b):=rfl
theorem q8:At lo h v (.flt z)=∃x t,t≠0/\FQ x z/\v=.float x t:=rfl
theorem q9:At lo h v (.comp ks)=AtComp lo h v ks:=rfl
theorem qX{x:Value}:At lo h v (.is x)=(v=x):=rfl
theorem qZ{l:List Dt}:At lo h v (.lst l)=∃a items,v=.ref a/\lo<=a/\h.IsList a items/\AtAll lo h items.toList l:=rfl
theorem qW{l:List Dt}:At lo h v (.tup l)=∃a items,v=.ref a/\lo<=a/\h.IsTuple a items/\AtAll lo h items.toList l:=rfl
theorem qY{l:List Dt}:At lo h v (.pl l)=∃a items,v=.ref a/\lo<=a/\h.PlainList a items/\AtAll lo h items.toList l:=rfl
theorem aN:AtAll lo h [] []=True:=rfl
theorem aC{vs:List Value}:AtAll lo h (v::vs) (d::ds)=(At lo h v d/\AtAll lo h vs ds):=rfl
theorem aL:AtAll lo h [] (d::ds)=False:=rfl
theorem aR{vs:List Value}:AtAll lo h (v::vs) []=False:=rfl
end
theorem qe{a:Addr}(u:UpF lo h h')(ha:lo<=a)(x:h.IsList a items):h'.IsList a items :=
 ci x λo ho r=>⟨o,u a o ha ho,r⟩
theorem oW{a:Addr}(u:UpF lo h h')(ha:lo<=a)(x:h.IsTuple a items):h'.IsTuple a items :=
 ci x λo ho r=>⟨o,u a o ha ho,r⟩
theorem AtComp.up(u:UpF lo h h'){v:Value}(x:AtComp lo h v ks):AtComp lo h' v ks:=by
 obtain⟨x,d,c,o,mA,items,e,l1,l2,l3,ho,hc,hk,hd,DY,hn,hs,KU,hl,hz,hp⟩:=x
 exact⟨x,d,c,o,mA,items,e,l1,l2,l3,u x o l1 ho,hc,hk,hd,DY,hn.at λo e=>u d o l2 e,hs,KU,qe u l3 hl,hz,λi p hi=>e3a5 (hp i p hi) λT t w a b f g k=>⟨T,t,w,a,b,f,g,oW u b k⟩⟩
theorem AtComp.weaken(le:lo<=Es){v:Value}(x:AtComp Es h v ks):AtComp lo h v ks:=by
 obtain⟨x,d,c,o,mA,items,e,l1,l2,l3,ho,hc,hk,hd,DY,hn,hs,KU,hl,hz,hp⟩:=x
 exact⟨x,d,c,o,mA,items,e,ab le l1,ab le l2,ab le l3,ho,hc,hk,hd,DY,hn,hs,KU,hl,hz,λi p hi=>e3a5 (hp i p hi) λT t w a b f g k=>⟨T,t,w,a,ab le b,f,g,k⟩⟩
mutual
theorem At.up(u:UpF lo h h'):∀{d:Dt} {v:Value},At lo h v d->At lo h' v d
 |.int _,_,x=>by simpa only [q7,rb,q8,q9,qX,qZ,qW,qY] using x
 |.bool _,_,x=>by simpa only [q7,rb,q8,q9,qX,qZ,qW,qY] using x
 |.flt _,_,x=>by simpa only [q7,rb,q8,q9,qX,qZ,qW,qY] using x
 |.comp _,_,x=>by simp only [q7,rb,q8,q9,qX,qZ,qW,qY] at x ⊢;exact x.up u
 |.is _,_,x=>by simpa only [q7,rb,q8,q9,qX,qZ,qW,qY] using x
 |.lst l,v,x=>by
  simp only [q7,rb,q8,q9,qX,qZ,qW,qY] at x ⊢
  refine fL (x) λa items Dz DZ hl r=>?_;subst Dz
  exact⟨a,items,rfl,DZ,qe u DZ hl,AtAll.up u r⟩
 |.tup l,v,x=>by
  simp only [q7,rb,q8,q9,qX,qZ,qW,qY] at x ⊢
  refine fL (x) λa items Dz DZ hl r=>?_;subst Dz
  exact⟨a,items,rfl,DZ,oW u DZ hl,AtAll.up u r⟩
 |.pl l,v,x=>by
  simp only [q7,rb,q8,q9,qX,qZ,qW,qY] at x ⊢
  refine fL (x) λa items Dz DZ hl r=>?_;subst Dz
  exact⟨a,items,rfl,DZ,hl.at λo e=>u a o DZ e,AtAll.up u r⟩
theorem AtAll.up(u:UpF lo h h'):∀{ds:List Dt} {vs:List Value},AtAll lo h vs ds->AtAll lo h' vs ds
 |[],[],x=>by simp only [aN,aC,aL,aR]
 |[],_::_,x=>by simp only [aN,aC,aL,aR] at x
 |_::_,[],x=>by simp only [aN,aC,aL,aR] at x
 |d::ds,v::vs,x=>by
  simp only [aN,aC,aL,aR] at x ⊢
  exact⟨At.up u x.1,AtAll.up u x.2⟩
end
mutual
theorem At.weaken(le:lo<=Es):∀{d:Dt} {v:Value},At Es h v d->At lo h v d
 |.int _,_,x=>by simpa only [q7,rb,q8,q9,qX,qZ,qW,qY] using x
 |.bool _,_,x=>by simpa only [q7,rb,q8,q9,qX,qZ,qW,qY] using x
 |.flt _,_,x=>by simpa only [q7,rb,q8,q9,qX,qZ,qW,qY] using x
 |.comp _,_,x=>by simp only [q7,rb,q8,q9,qX,qZ,qW,qY] at x ⊢;exact x.weaken le
 |.is _,_,x=>by simpa only [q7,rb,q8,q9,qX,qZ,qW,qY] using x
 |.lst l,v,x=>by
  simp only [q7,rb,q8,q9,qX,qZ,qW,qY] at x ⊢
  refine fL (x) λa items Dz DZ hl r=>?_;subst Dz
  exact⟨a,items,rfl,ab le DZ,hl,AtAll.weaken le r⟩
 |.tup l,v,x=>by
  simp only [q7,rb,q8,q9,qX,qZ,qW,qY] at x ⊢
  refine fL (x) λa items Dz DZ hl r=>?_;subst Dz
  exact⟨a,items,rfl,ab le DZ,hl,AtAll.weaken le r⟩
 |.pl l,v,x=>by
  simp only [q7,rb,q8,q9,qX,qZ,qW,qY] at x ⊢
  refine fL (x) λa items Dz DZ hl r=>?_;subst Dz
  exact⟨a,items,rfl,ab le DZ,hl,AtAll.weaken le r⟩
theorem AtAll.weaken(le:lo<=Es):∀{ds:List Dt} {vs:List Value},AtAll Es h vs ds->AtAll lo h vs ds
 |[],[],x=>by simp only [aN,aC,aL,aR]
 |[],_::_,x=>by simp only [aN,aC,aL,aR] at x
 |_::_,[],x=>by simp only [aN,aC,aL,aR] at x
 |d::ds,v::vs,x=>by
  simp only [aN,aC,aL,aR] at x ⊢
  exact⟨At.weaken le x.1,AtAll.weaken le x.2⟩
end
theorem AtAll.length:∀{ds:List Dt} {vs:List Value},AtAll lo h vs ds->vs.length=ds.length
 |[],[],_=>rfl
 |[],_::_,x=>by simp only [aN,aC,aL,aR] at x
 |_::_,[],x=>by simp only [aN,aC,aL,aR] at x
 |d::ds,v::vs,x=>by
  simp only [aN,aC,aL,aR] at x
  simp only [eQ,AtAll.length x.2]
theorem AtAll.get:∀{ds:List Dt} {vs:List Value},AtAll lo h vs ds->∀{i:Nat} {v:Value} {d:Dt},vs[i]?=some v->ds[i]?=some d->At lo h v d
 |[],[],_,i,v,d,hv,_=>by simp at hv
 |[],_::_,x,_,_,_,_,_=>by simp only [aN,aC,aL,aR] at x
 |_::_,[],x,_,_,_,_,_=>by simp only [aN,aC,aL,aR] at x
 |d::ds,v::vs,x,i,v',d',hv,hd=>by
  cases i with
  |zero=>simp at hv hd;subst hv hd;exact x.1
  |succ i=>exact AtAll.get x.2 hv hd
theorem AtAll.of_get:∀{ds:List Dt} {vs:List Value},vs.length=ds.length->(∀(i:Nat) v d,vs[i]?=some v->ds[i]?=some d->At lo h v d)->AtAll lo h vs ds
 |[],[],_,_=>by simp only [aN,aC,aL,aR]
 |[],_::_,e,_=>by simp at e
 |_::_,[],e,_=>by simp at e
 |d::ds,v::vs,e,g=>by
  refine⟨g 0 v d rfl rfl,AtAll.of_get (by simpa using e) λi v' d' hv hd=>g (i+1) v' d' (by simpa using hv) (by simpa using hd)⟩
theorem xZ{pos:Pos}{it DC:Value}(I:Nat->Shared->Prop)
  (turn:∀n s,I n s->wpAny (model prog w) A (pyNext it) (λr C'=>match r with
   |none=>R (.ok .next) C'
   |some v=>wpAny (model prog w) A (letOwnedTupleGo target it v) (λ_ M7=>wpAny (model prog w) A (assign target env v) (λ_ Ds=>wpAny (model prog w) A (eval elt env) (λx s3 =>
    wpAny (model prog w) A (call (.builtin "list.append") [DC,x]) (λ_ s4=>∃m,m<n/\I m s4) (notedBy (model prog w) A env λe s'=>R (.error e) s') s3)
    (notedBy (model prog w) A env λe s'=>R (.error e) s') Ds) (notedBy (model prog w) A env λe s'=>R (.error e) s') M7)
    (notedBy (model prog w) A env λe s'=>R (.error e) s') C') (notedBy (model prog w) A env λe s'=>R (.error e) s') s)
  (n:Nat) (h:I n s):
  codeAny (model prog w) A (.compLoop (.ListComp elt [⟨target,iter,[],0⟩] scope pos) 0 it DC env) R s:=by
 refine codeAny_loop rfl I (λn s hI=>?_) n h
 refine wpAny_noted ?_
 rw [compTurn_list1]
 refine aa (ez (aa (bb (turn n s hI) (λr C' h1=>?_) λ_ _ h'=>h')))
 cases r with
 |none=>exact ai h1
 |some v =>
  refine aa (bb h1 (λ_ M7 Vg=>?_) λ_ _ h'=>h')
  exact aa (bb Vg (λ_ Ds h2=>aa (aa (bb h2 (λx s3 h3=>aa (bb h3
   (λ_ s4 h4=>ai (ai ⟨rfl,h4⟩)) λ_ _ h'=>h')) λ_ _ h'=>h'))) λ_ _ h'=>h')
theorem iF{a:Nat}{o:Obj}(e:h.get? a=some o):a<h.objs.size:=aX e
theorem wh{a:Nat}{m:Str->Option Value}(e:h.Ns a m):a<h.objs.size:=e.lt
theorem yw{a:Nat}{v:Option Value}(e:h.IsCell a v):a<h.objs.size:=e.lt
theorem neA{a b:Nat}(h:a≠b):@Ne Addr a b:=h
noncomputable def nC:List (Str×NameKind)->Nat
 |[]=>0
 |(_,k)::r=>if k==.cell then nC r+1 else nC r
theorem nc0:nC []=0:=rfl
theorem ncS{k:NameKind}{r:List (Str×NameKind)}:nC ((x,k)::r)=if k==.cell then nC r+1 else nC r:=rfl
theorem jb:∀(names:List (Str×NameKind)) (h:Heap) (j:Nat),j<nC names->(pushCells h names).IsCell (h.objs.size+j) none
 |[],_,j,hj=>by simp [nc0,ncS] at hj
 |(n,k)::r,h,j,hj=>by
  unfold nC at hj
  unfold pushCells
  split at hj
  ·rename_i hk
   rw [if_pos hk]
   cases j with
   |zero =>
    rw [Nat.add_zero]
    exact Heap.IsCell.keeps ⟨_,am _ rfl,rfl⟩ (pushCells_keeps r _)
   |succ j =>
    have:=jb r (h.push {cls:=.type "cell",data:=.cell none}) j (b6 0x22345119214a914 j (nC r) rfl hj)
    rw [ao] at this
    have e:h.objs.size+(j+1)=h.objs.size+1+j:=y_455
    rw [e];exact this
  ·rename_i hk
   rw [if_neg hk]
   exact jb r h j hj
noncomputable def CF(C k:Nat)(h:Heap):Prop:=(∃m,h.Ns C m)/\∀j,j<k->∃v,h.IsCell (C+1+j) v
theorem CF.lt(x:CF C k h):C+k<h.objs.size:=by
 cases k with
 |zero=>obtain⟨⟨m,hm⟩,_⟩:=x;exact wh hm
 |succ k=>obtain⟨_,hc⟩:=x;obtain⟨v,hv⟩:=hc k (bo _);have:=yw hv;exact bX 0x2ea2324429711a29214 C k h.objs.size rfl this
theorem CF.keeps(x:CF C k h)(u:∀b o,C<=b->b<=C+k->h.get? b=some o->h'.get? b=some o):CF C k h':=by
 obtain⟨⟨m,hm⟩,hc⟩:=x
 refine⟨⟨m,hm.at' λo e=>u C o (ag _) (cI _ _) e⟩,λj hj=>?_⟩
 refine lF (hc j hj) λv o ho hd=>?_
 exact⟨v,o,u _ o (b6 90489104656 C j rfl) (bX 0x15229565311b2210 j k C rfl hj) ho,hd⟩
noncomputable def gz(scope:Scope)(cl:List (Str×Addr))(C:Addr)(env:Env):Env :=
 {scope:=relabel scope env,locals:=C,globals:=env.globals,cells:=cellsFrom (C+1) scope.names cl,qual:=env.qual,func:=none,code:=env.code,frame:=env.frame,builtins:=env.builtins}
theorem oL{globals:Addr}{E3:Env}{Q:Env->Shared->Prop}
  (h:∀h',Up s.heap h'->CF s.heap.objs.size (nC scope.names) h'->h'.objs.size=s.heap.objs.size+1+nC scope.names ->
   Q {scope,locals:=s.heap.objs.size,globals,cells:=cellsFrom (s.heap.objs.size+1) scope.names cl,qual,func:=none,code:=E3.code,frame:=E3.frame,builtins:=E3.builtins} {s with heap:=h'}):
  wpAny (model prog w) A (newFunctionEnv scope globals cl [] qual none .none (some E3)) Q E s:=by
 simp only [newFunctionEnv,Option.isSome_some,if_true]
 refine aa (wpAny_alloc ?_)
 refine aa (wpAny_layCells _ (λname kind cells=>by cases UP:kind==NameKind.cell<;>simp [UP]) _ _ _ _ ?_)
 rw [show ({s with heap:=s.heap.push {cls:=.type "dict",data:=.dict #[]}}:Shared).heap.objs.size=s.heap.objs.size+1 from ao ..]
 refine aa (ai (ai (h _ (λb o e=>pushCells_keeps _ _ b o (af _ e)) ⟨⟨_,(Heap.Ns.new s.heap (.type "dict")).keeps (pushCells_keeps _ _)⟩,λj hj=>?_⟩ ?_)))
 ·have:=jb scope.names (s.heap.push {cls:=.type "dict",data:=.dict #[]}) j hj
  rw [ao] at this
  exact⟨none,this⟩
 ·have:∀(names:List (Str×NameKind)) (h:Heap),(pushCells h names).objs.size=h.objs.size+nC names:=by
   intro names
   induction names with
   |nil=>intro h;rfl
   |cons x r ih =>
    intro h
    obtain⟨n,k⟩:=x
    unfold pushCells nC
    split
    ·rw [ih,ao];exact B9
    ·rw [ih]
  rw [this,ao]
structure It(w:World)(A:Around)(target:Expr)(I:Nat)(fp wr:List Nat)(n:Nat)(P:Nat->Value->Heap->Prop)(St:Nat->Heap->Prop):Prop where
 sub:∀b∈wr,b∈fp
 frame:∀i h h',St i h->(∀b∈fp,∀o,h.get? b=some o->h'.get? b=some o)->St i h'
 live:∀i h,St i h->∀b∈wr,∃o,h.get? b=some o
 item:∀i (s:Shared) (Q:Option Value->Shared->Prop) (E:Value->Shared->Prop),i<n->St i s.heap->0<s.toks ->
  (∀v h' tk,(∀b o,b∉wr->s.heap.get? b=some o->h'.get? b=some o)->s.toks<=tk->P i v h' ->
   (∀(Q':Unit->Shared->Prop) (E':Value->Shared->Prop),(∀DN FX,(∀b o,b∉wr->h'.get? b=some o->DN.get? b=some o)->tk<=FX->P i v DN->St (i+1) DN->Q' () {s with heap:=DN,toks:=FX}) ->
    wpAny (model prog w) A (letOwnedTupleGo target (.ref I) v) Q' E' {s with heap:=h',toks:=tk}) ->
   Q (some v) {s with heap:=h',toks:=tk})->wpAny (model prog w) A (pyNext (.ref I)) Q E s
 done:∀(s:Shared) (Q:Option Value->Shared->Prop) (E:Value->Shared->Prop),St n s.heap ->
  (∀h' tk,(∀b o,b∉wr->s.heap.get? b=some o->h'.get? b=some o)->s.toks<=tk->Q none {s with heap:=h',toks:=tk})->wpAny (model prog w) A (pyNext (.ref I)) Q E s
 self:∀i (s:Shared) (Q:Value->Shared->Prop) (E:Value->Shared->Prop),St i s.heap->Q (.ref I) s->wpAny (model prog w) A (pyIter (.ref I)) Q E s
theorem It.of_walks{n:Nat}{P:Nat->Value->Prop}(W:Walks prog w A I fp wr n P St)(ht:∀it v,letOwnedTupleGo target it v=pure ())
  (hl:∀i h,St i h->∀b∈wr,∃o,h.get? b=some o):
  It w A target I fp wr n (λi v _=>P i v) St where
 sub:=W.sub
 frame:=W.frame
 live:=hl
 item:=λi s Q E hi st _ hQ=>cz (ag s.toks) (W.item i s _ _ hi st λv h' tk hP EQ hk DU=>hQ v h' tk hk DU hP λQ' E' En=>by
  rw [ht];exact ai (En h' tk (λ_ _ _ e=>e) (ag _) hP EQ))
 done:=λs Q E st hQ=>cz (ag s.toks) (W.done s _ _ st λh' tk hk DU=>hQ h' tk hk DU)
 self:=W.self
theorem It.list(hh:A.handled=none)(ht:∀it v,letOwnedTupleGo target it v=pure ())(I ax:Nat)(DY:ax≠I)(items:Array Value):
  It w A target I [I,ax] [I] items.size (λi v _=>items[i]?=some v) (λi h=>h.IsListIter I ax i/\h.IsList ax items):=
 .of_walks (ib hh I ax DY items) ht λi h st b hb=>by
  rw [ak.mp hb];obtain⟨⟨o,ho,_⟩,_⟩:=st;exact⟨o,ho⟩
noncomputable def Src(w:World)(A:Around)(target:Expr)(Lk:Prop)(hb:Heap)(C':Shared)(xv:Value)(n:Nat)(P:Nat->Value->Heap->Prop):Prop :=
 ∀(Q:Value->Shared->Prop) (E:Value->Shared->Prop),(∀I fp wr St h2 tk,It w A target I fp wr n P St->St 0 h2->(∀b∈fp,b<h2.objs.size/\(hb.objs.size<=b\/(Lk/\∃xs,hb.IsList b xs)))->(∀b∈wr,hb.objs.size<=b) ->
  Up C'.heap h2->C'.heap.objs.size<=h2.objs.size->C'.toks<=tk->Q (.ref I) {C' with heap:=h2,toks:=tk})->wpAny (model prog w) A (pyIter xv) Q E C'
theorem Src.list(hh:A.handled=none){l:Nat}(hl:s.heap.IsList l items)(ht:∀it v,letOwnedTupleGo target it v=pure ():=by intro _ _;rfl):
  Src w A target True s.heap s (.ref l) items.size (λi v _=>items[i]?=some v):=by
 intro Q E hQ
 refine cT hl ?_
 refine ci (hl) λo ho hr=>?_
 have DH:=iF ho
 refine hQ s.heap.objs.size [s.heap.objs.size,l] [s.heap.objs.size] _ _ s.toks (It.list hh ht s.heap.objs.size l (bW DH) items) ⟨⟨_,am _ rfl,rfl,rfl⟩,o,af _ ho,hr⟩ ?_ ?_ (λb o e=>af _ e) (by rw [ao];exact aD _) (ag _)
 ·intro b hb
  rw [ao]
  simp at hb
  rcases hb with rfl|rfl
  ·exact⟨bo _,.inl (ag _)⟩
  ·exact⟨gL DH,.inr ⟨trivial,items,o,ho,hr⟩⟩
 ·intro b hb;rw [ak.mp hb];exact ag _
structure ItT(w:World)(A:Around)(target:Expr)(I:Nat)(fp wr:List Nat)(n:Nat)(P:Nat->Tok->Tok->Value->Heap->Prop)(St:Nat->Heap->Prop):Prop where
 sub:∀b∈wr,b∈fp
 frame:∀i h h',St i h->(∀b∈fp,∀o,h.get? b=some o->h'.get? b=some o)->St i h'
 item:∀i (s:Shared) (Q:Option Value->Shared->Prop) (E:Value->Shared->Prop),i<n->St i s.heap->0<s.toks ->
  (∀v h' tk,(∀b o,b∉wr->s.heap.get? b=some o->h'.get? b=some o)->s.toks<=tk->P i s.toks tk v h' ->
   (∀(Q':Unit->Shared->Prop) (E':Value->Shared->Prop),(∀DN FX,(∀b o,b∉wr->h'.get? b=some o->DN.get? b=some o)->tk<=FX->P i s.toks FX v DN->St (i+1) DN->Q' () {s with heap:=DN,toks:=FX}) ->
    wpAny (model prog w) A (letOwnedTupleGo target (.ref I) v) Q' E' {s with heap:=h',toks:=tk}) ->
   Q (some v) {s with heap:=h',toks:=tk})->wpAny (model prog w) A (pyNext (.ref I)) Q E s
 done:∀(s:Shared) (Q:Option Value->Shared->Prop) (E:Value->Shared->Prop),St n s.heap ->
  (∀h' tk,(∀b o,b∉wr->s.heap.get? b=some o->h'.get? b=some o)->s.toks<=tk->Q none {s with heap:=h',toks:=tk})->wpAny (model prog w) A (pyNext (.ref I)) Q E s
 self:∀i (s:Shared) (Q:Value->Shared->Prop) (E:Value->Shared->Prop),St i s.heap->Q (.ref I) s->wpAny (model prog w) A (pyIter (.ref I)) Q E s
theorem su{pos:Pos}{Ds:Shared}
  {I:Nat} {fp wr:List Nat} {n:Nat} {P:Nat->Tok->Tok->Value->Heap->Prop} {St:Nat->Heap->Prop}
  (W:ItT w A target I fp wr n P St) (hsz:n<=sizeLine) (Ey:St 0 Ds.heap) (Iu:∀b∈fp,b<Ds.heap.objs.size) (FA:0<Ds.toks)
  (F:Nat->Heap->Nat->Tok->Tok->Value->Prop)
  (G3:∀lo h h' i ta tb y,F lo h i ta tb y->UpF lo h h'->F lo h' i ta tb y)
  (HE:∀lo Es h i ta tb y,lo<=Es->F Es h i ta tb y->F lo h i ta tb y)
  (turn:∀(C:Nat) (i:Nat) (ta:Tok) (v:Value) (s3:Shared) (E:Value->Shared->Prop) (Q:Value->Shared->Prop),
   Ds.heap.objs.size<=C->CF C (nC scope.names) s3.heap->P i ta s3.toks v s3.heap->i<n->0<ta->ta<=s3.toks ->
   (∀b o,b∉wr->Ds.heap.get? b=some o->s3.heap.get? b=some o)->Ds.toks<=s3.toks->s3.gens=Ds.gens->s3.drawn=Ds.drawn->s3.os=Ds.os ->
   (∀y h4 t4 h5 t5,CF C (nC scope.names) h4->(∀b o,¬(C<=b/\b<=C+nC scope.names)->s3.heap.get? b=some o->h4.get? b=some o)->s3.toks<=t4->Up h4 h5->t4<=t5->F h4.objs.size h5 i ta t5 y ->
    Q y {s3 with heap:=h5,toks:=t5}) ->
   wpAny (model prog w) A (assign target (gz scope cl C env) v) (λ_ s4=>wpAny (model prog w) A (eval elt (gz scope cl C env)) Q E s4) E s3)
  {RR:Value->Nat->Result->Shared->Prop}
  (O4:∀(D C:Nat) h' tk ys,Ds.heap.objs.size<=D->D≠C->Ds.heap.objs.size<=C->(∃m,h'.Ns C m)->h'.PlainList D ys->ys.size=n->(∃f:Nat->Tok,(∀i,f i<=f (i+1))/\∀i y,ys[i]?=some y->∃ta tb,f i<=ta/\tb<=f (i+1)/\∀DN,(∀b o,C<b->h'.get? b=some o->DN.get? b=some o)->F Ds.heap.objs.size DN i ta tb y) ->
   (∀b o,b∉wr->Ds.heap.get? b=some o->h'.get? b=some o)->Ds.toks<=tk->RR (.ref D) C (.ok .next) {Ds with heap:=h',toks:=tk}):
  wpAny (model prog w) A (newList []) (λDC s3=>wpAny (model prog w) A (newFunctionEnv scope env.globals cl [] env.qual none .none (some env)) (λcenv s4 =>
   codeAny (model prog w) A (.compStart (.ListComp elt [⟨target,iter,[],0⟩] scope pos) 0 (.ref I) DC {cenv with scope:=relabel scope env}) (RR DC cenv.locals) s4) E s3) E Ds:=by
 refine ce (oL λDy up1 PC Q9=>?_)
 generalize hH:Ds.heap.push {cls:=.type "list",dict:=none,data:=.seq ([]:List Value).toArray}=H at up1 PC Q9 ⊢
 have hD:Ds.heap.objs.size+1=H.objs.size:=by rw [<-hH,ao]
 generalize hC:H.objs.size=C at up1 PC Q9 ⊢
 generalize Gy:Ds.heap.objs.size=D
 generalize hk:nC scope.names=k at *
 have Ia:D+1=C:=y_454 Gy hD hC
 have Sz:({scope:=relabel scope env,locals:=C,globals:=env.globals,cells:=cellsFrom (C+1) scope.names cl,qual:=env.qual,func:=none,code:=env.code,frame:=env.frame,builtins:=env.builtins}:Env)=gz scope cl C env:=rfl
 have old:Up Ds.heap Dy:=λb o e=>up1 b o (hH▸af _ e)
 have QO:Dy.PlainList D #[]:=⟨_,up1 _ _ (by rw [<-hH,<-Gy];exact am _ rfl)⟩
 have FE:∀b,D<=b->b∉wr:=λb hb hw=>by have:=Iu b (W.sub b hw);exact bX 0x9b10a914ba1a b Ds.heap.objs.size D rfl this hb Gy
 have Mq:St 0 Dy:=W.frame _ _ _ Ey λb _ o e=>old b o e
 have loop:codeAny (model prog w) A (.compLoop (.ListComp elt [⟨target,iter,[],0⟩] scope pos) 0 (.ref I) (.ref D) (gz scope cl C env)) (RR (.ref D) C) {Ds with heap:=Dy}:=by
  refine xZ
   (λm s'=>∃h' tk,∃ys:Array Value,s'={Ds with heap:=h',toks:=tk}/\St ys.size h'/\h'.PlainList D ys/\CF C k h'/\(∃f:Nat->Tok,(∀i,f i<=f (i+1))/\f ys.size<=tk/\∀i y,ys[i]?=some y->∃ta tb,f i<=ta/\tb<=f (i+1)/\F (C+k+1) h' i ta tb y)/\ys.size<=n/\m=n+1-ys.size /\
    (∀b o,b∉wr->Ds.heap.get? b=some o->h'.get? b=some o)/\Ds.toks<=tk) ?_ (n+1)
   ⟨Dy,Ds.toks,#[],rfl,Mq,QO,PC,⟨λ_=>Ds.toks,λ_=>ag _,ag _,by simp⟩,bY _,rfl,λb o _ e=>old b o e,ag _⟩
  rintro m s' ⟨h',tk,ys,rfl,EQ,Hh,NQ,⟨f,fm,fe,hF⟩,E0,rfl,Ek,DU⟩
  by_cases DH:ys.size<n
  ·refine W.item ys.size _ _ _ DH EQ (ad FA DU) λv g tg kg D2 hP go=>?_
   refine go _ _ λg1 SM T5 IJ hP1 PP=>?_
   have kk:∀b o,b∉wr->h'.get? b=some o->g1.get? b=some o:=λb o hb e=>T5 b o hb (kg b o hb e)
   have Pz:CF C k g1:=NQ.keeps λb o h1 h2 e=>kk b o (FE b (gk 0x13a31b11b218cb1ca910ac10 C b Ds.heap.objs.size D H.objs.size rfl h1 Gy hD hC)) e
   refine turn C ys.size tk v {Ds with heap:=g1,toks:=SM} _ _ (bX 0x174315119218b910 Ds.heap.objs.size H.objs.size C rfl hD hC) Pz hP1 DH (ad FA DU) (ab D2 IJ) (λb o hb e=>kk b o hb (Ek b o hb e)) (ab DU (ab D2 IJ)) rfl rfl rfl λy h4 t4 h5 t5 I9 IO RL Ks Nh hFy=>?_
   have k4:∀b o,b∉wr->¬(C<=b/\b<=C+k)->h'.get? b=some o->h5.get? b=some o:=λb o hb hn e=>Ks b o (IO b o hn (kk b o hb e))
   have QX:h5.PlainList D ys:=Hh.at λo e=>k4 D o (FE D (ag _)) (λu1=>dh 0x19639311b218a918ca12 H.objs.size C Ds.heap.objs.size D rfl hC hD Gy u1.1) e
   have SW:St (ys.size+1) h5:=W.frame _ _ _ PP λb hb o e=>Ks b o (IO b o (by have:=Iu b hb;exact λu1=>dh 0x19631711a218a9149c12 b Ds.heap.objs.size H.objs.size C rfl this hD hC u1.1) e)
   have PA:CF C k h5:=I9.keeps λb o _ _ e=>Ks b o e
   have hF5:∀i y,ys[i]?=some y->∃ta tb,f i<=ta/\tb<=f (i+1)/\F (C+k+1) h5 i ta tb y:=λi y hy=>uh (hF i y hy) λta tb a1 a2 a3=>⟨ta,tb,a1,a2,G3 _ _ _ _ _ _ _ a3 λb o hb e=>k4 b o (FE b (mm 0x3a23b8442196317119218a91cea10 Ds.heap.objs.size D H.objs.size C k b rfl Gy hD hC hb)) (λu1=>b6 23165209188882 (C+k) b rfl hb u1.2) e⟩
   have Uh:F (C+k+1) h5 ys.size tk t5 y:=HE _ _ _ _ _ _ _ (by have:=I9.lt;exact b6 23238274028048 (C+k) h4.objs.size rfl this) hFy
   have Oz:tk<=t5:=ab D2 (ab IJ (ab RL Nh))
   refine wpAny_list_append_plain (hsz:=ab (aJ DH) hsz) QX λh6 l6 M6=>?_
   refine⟨n+1-(ys.size+1),y_92 E0,h6,t5,ys.push y,rfl,?_,l6,?_,?_,(by rw [dk];exact DH),(by rw [dk]),?_,?_⟩
   ·rw [dk]
    exact W.frame _ _ _ SW λb hb o e=>M6.extBut b o (neA (by have:=Iu b hb;exact bX 0xba18a914b91e b Ds.heap.objs.size D rfl this Gy)) e
   ·exact PA.keeps λb o h1 h2 e=>M6.extBut b o (neA (gk 0x13a31b11b218cb1ca910ca1a C b Ds.heap.objs.size D H.objs.size rfl h1 Gy hD hC)) e
   ·have u6:UpF (C+k+1) h5 h6:=λb o hb e=>M6.extBut b o (neA (mm 0x3a23b8442196317119218a91cae1a Ds.heap.objs.size D H.objs.size C k b rfl Gy hD hC hb)) e
    refine⟨λi=>if i<=ys.size then f i else t5,λi=>?_,?_,λi z hz=>?_⟩
    ·dsimp only
     by_cases h1:i+1<=ys.size
     ·rw [if_pos (by exact b6 23165209192720 i ys.size rfl h1),if_pos h1];exact fm i
     ·by_cases h2:i<=ys.size
      ·have:i=ys.size:=y_517 h2 h1
       subst this
       rw [if_pos (ag _),if_neg h1]
       exact ab fe Oz
      ·rw [if_neg h2,if_neg h1];exact ag _
    ·rw [dk]
     dsimp only
     rw [if_neg (by exact cV 319918610 ys.size rfl)];exact ag _
    ·rw [eG] at hz
     split at hz
     ·rename_i hi
      cases hz
      refine⟨tk,t5,?_,?_,?_⟩
      ·dsimp only;rw [if_pos (wu hi),hi];exact fe
      ·dsimp only;rw [if_neg (by exact b6 23242568995346 i ys.size rfl hi)];exact ag _
      ·rw [hi];exact G3 _ _ _ _ _ _ _ Uh u6
     ·rename_i hi
      have RV:i<ys.size:=(bF.mp hz).1
      refine uh (hF5 i z hz) λta tb a1 a2 a3=>?_
      refine⟨ta,tb,?_,?_,G3 _ _ _ _ _ _ _ a3 u6⟩
      ·dsimp only;rw [if_pos (by exact b6 2836703504 i ys.size rfl RV)];exact a1
      ·dsimp only;rw [if_pos (by exact b6 23238274028048 i ys.size rfl RV)];exact a2
   ·intro b o hb e
    have hbD:b<D:=by have:=iF e;exact fq this Gy
    exact M6.extBut b o (neA (sZ hbD)) (k4 b o hb (λu1=>gk 0x15a39711d218cb18a9149c12 b D H.objs.size C Ds.heap.objs.size rfl hbD hC hD Gy u1.1) (Ek b o hb e))
   ·exact ab DU (ab D2 (ab IJ (ab RL Nh)))
  ·have Eg:ys.size=n:=vC E0 DH
   refine W.done _ _ _ (Eg▸EQ) λg tg kg D2=>?_
   have Pz:CF C k g:=NQ.keeps λb o h1 h2 e=>kg b o (FE b (gk 0x13a31b11b218cb1ca910ac10 C b Ds.heap.objs.size D H.objs.size rfl h1 Gy hD hC)) e
   refine O4 D C g tg ys (wu Gy) (dh 0x196317119218a91cca1e Ds.heap.objs.size D H.objs.size C rfl Gy hD hC) (bX 0x174315119218b910 Ds.heap.objs.size H.objs.size C rfl hD hC) Pz.1 (Hh.at λo e=>kg D o (FE D (ag _)) e) Eg ⟨f,fm,λi y hy=>?_⟩ (λb o hb e=>kg b o hb (Ek b o hb e)) (ab DU D2)
   refine uh (hF i y hy) λta tb a1 a2 a3=>?_
   have f1:F (C+k+1) g i ta tb y:=G3 _ _ _ _ _ _ _ a3 λb o hb e=>kg b o (FE b (mm 0x3a23b8442196317119218a91cea10 Ds.heap.objs.size D H.objs.size C k b rfl Gy hD hC hb)) e
   exact⟨ta,tb,a1,a2,λDN Fq=>HE _ _ _ _ _ _ _ (dh 0x2e862a23243111cb22910 Ds.heap.objs.size H.objs.size C k rfl hD hC) (G3 _ _ _ _ _ _ _ f1 λb o hb e=>Fq b o (bX 6493342583011604 C k b rfl hb) e)⟩
 exact kN loop (W.self 0 _ _ _ Mq loop)
theorem ItT.ofIt{n:Nat}{P:Nat->Value->Heap->Prop}(W:It w A target I fp wr n P St):ItT w A target I fp wr n (λi _ _ v h=>P i v h) St :=
 ⟨W.sub,W.frame,W.item,W.done,W.self⟩
theorem zJ{pos:Pos}{Ds:Shared}
  {I:Nat} {fp wr:List Nat} {n:Nat} {P:Nat->Value->Heap->Prop} {St:Nat->Heap->Prop}
  (W:It w A target I fp wr n P St) (hsz:n<=sizeLine) (Ey:St 0 Ds.heap) (Iu:∀b∈fp,b<Ds.heap.objs.size) (FA:0<Ds.toks)
  (F:Nat->Heap->Nat->Value->Prop)
  (G3:∀lo h h' i y,F lo h i y->UpF lo h h'->F lo h' i y)
  (HE:∀lo Es h i y,lo<=Es->F Es h i y->F lo h i y)
  (turn:∀(C:Nat) (i:Nat) (v:Value) (s3:Shared) (E:Value->Shared->Prop) (Q:Value->Shared->Prop),
   Ds.heap.objs.size<=C->CF C (nC scope.names) s3.heap->P i v s3.heap->i<n ->
   (∀b o,b∉wr->Ds.heap.get? b=some o->s3.heap.get? b=some o)->Ds.toks<=s3.toks->s3.gens=Ds.gens->s3.drawn=Ds.drawn->s3.os=Ds.os ->
   (∀y IH t4 JZ t5,CF C (nC scope.names) IH->(∀b o,¬(C<=b/\b<=C+nC scope.names)->s3.heap.get? b=some o->IH.get? b=some o)->s3.toks<=t4->Up IH JZ->t4<=t5->F IH.objs.size JZ i y ->
    Q y {s3 with heap:=JZ,toks:=t5}) ->
   wpAny (model prog w) A (assign target (gz scope cl C env) v) (λ_ s4=>wpAny (model prog w) A (eval elt (gz scope cl C env)) Q E s4) E s3)
  {RR:Value->Nat->Result->Shared->Prop}
  (O4:∀(D C:Nat) h' tk ys,Ds.heap.objs.size<=D->D≠C->Ds.heap.objs.size<=C->(∃m,h'.Ns C m)->h'.PlainList D ys->ys.size=n->(∀i y,ys[i]?=some y->F Ds.heap.objs.size h' i y/\∀DN,(∀b o,C<b->h'.get? b=some o->DN.get? b=some o)->F Ds.heap.objs.size DN i y) ->
   (∀b o,b∉wr->Ds.heap.get? b=some o->h'.get? b=some o)->Ds.toks<=tk->RR (.ref D) C (.ok .next) {Ds with heap:=h',toks:=tk}):
  wpAny (model prog w) A (newList []) (λDC s3=>wpAny (model prog w) A (newFunctionEnv scope env.globals cl [] env.qual none .none (some env)) (λcenv s4 =>
   codeAny (model prog w) A (.compStart (.ListComp elt [⟨target,iter,[],0⟩] scope pos) 0 (.ref I) DC {cenv with scope:=relabel scope env}) (RR DC cenv.locals) s4) E s3) E Ds :=
 su (ItT.ofIt W) hsz Ey Iu FA (λlo h i _ _ y=>F lo h i y) (λlo h h' i _ _ y=>G3 lo h h' i y) (λlo Es h i _ _ y=>HE lo Es h i y)
  (λC i _ v s3 E Q h1 h2 h3 h4 _ _ h5 h6 h7 h8 h9 hq=>turn C i v s3 E Q h1 h2 h3 h4 h5 h6 h7 h8 h9 hq)
  λD C h' tk ys h1 h2 h3 h4 h5 h6 ⟨_,_,hF⟩ h7 h8=>O4 D C h' tk ys h1 h2 h3 h4 h5 h6 (λi y hy=>uh (hF i y hy) λ_ _ _ _ k=>⟨k h' λ_ _ _ e=>e,k⟩) h7 h8
noncomputable def OwnB(env:Env)(b:Nat):Prop:=@Eq Nat b env.locals\/∃n,(n,b)∈env.cells
noncomputable def rq(m:Str->Option Value)(x:Str)(v:Value):Str->Option Value:=λy=>if y=x then some v else m y
structure Fm(DA:Heap)(env:Env)(lo:Nat)(m cm:Str->Option Value)(h:Heap):Prop where
 ns:h.Ns env.locals m
 cell:∀n c,env.cells.lookup n=some c->h.IsCell c (cm n)
 uniq:∀n c,(n,c)∈env.cells->env.cells.lookup n=some c
 apart:env.cells.Pairwise λx y=>x.2≠y.2
 ne:∀n (c:Nat),(n,c)∈env.cells->¬@Eq Nat c env.locals
 own:∀b,OwnB env b->b<lo
 base:Up DA h
 fresh:∀b,OwnB env b->DA.get? b=none
theorem eJ:∀(names:List (Str×NameKind)) (n k:Nat) (DC Hh:List (Str×Addr)),DC.map (·.1)=Hh.map (·.1)->(cellsFrom n names DC).map (·.1)=(cellsFrom k names Hh).map (·.1)
 |[],_,_,_,_,e=>e
 |(x,kd)::r,n,k,DC,Hh,e=>by
  unfold cellsFrom
  split
  ·exact eJ r _ _ _ _ (by simp [e])
  ·exact eJ r _ _ _ _ e
theorem gv:∀{l:List (Str×Addr)},(l.map (·.1)).Nodup->∀n c,(n,c)∈l->l.lookup n=some c
 |[],_,_,_,h=>by cases h
 |(k,v)::r,hn,n,c,h=>by
  rw [kj]
  have KL:=k6.mp hn
  rcases aQ.mp h with e|hr
  ·cases e;simp
  ·have:(n==k)=false:=beq_eq_false_iff_ne.mpr λe=>KL.1 (bK.mpr ⟨(n,c),hr,e⟩)
   rw [this]
   exact gv KL.2 n c hr
section
variable{m:Str->Option Value}
theorem Fm.up(x:Fm DA env lo m cm h)(u:Up h h'):Fm DA env lo m cm h' :=
 ⟨x.ns.keeps u,λn c hc=>(x.cell n c hc).keeps u,x.uniq,x.apart,x.ne,x.own,λb o e=>u b o (x.base b o e),x.fresh⟩
theorem Fm.but(x:Fm DA env lo m cm h)(hC:¬OwnB env C)(h0:DA.get? C=none)(u:∀b o,¬@Eq Nat b C->h.get? b=some o->h'.get? b=some o):Fm DA env lo m cm h':=by
 refine⟨x.ns.at' λo e=>u _ o (λq=>hC (.inl q.symm)) e,λn c hc=>?_,x.uniq,x.apart,x.ne,x.own,λb o e=>u b o (λq=>?_) (x.base b o e),x.fresh⟩
 ·refine ci (x.cell n c hc) λo ho hd=>?_
  exact⟨o,u c o (λq=>hC (.inr ⟨n,q▸mem_of_lookup hc⟩)) ho,hd⟩
 ·have q':b=C:=q
  rw [q',h0] at e;cases e
theorem Fm.ofCall(x:InCallC s env.locals m env.cells cm C')(hu:∀n c,(n,c)∈env.cells->env.cells.lookup n=some c):Fm s.heap env C'.heap.objs.size m cm C'.heap:=by
 have hc:∀n (c:Nat),(n,c)∈env.cells->c<C'.heap.objs.size:=λn c hm=>yw (x.cell n c (hu n c hm))
 have hL:@iC Nat _ s.heap.objs.size env.locals:=x.toInCall.fresh
 have E1:∀n (c:Nat),(n,c)∈env.cells->@cA Nat _ env.locals c:=λn c hm=>x.above n c hm
 refine⟨x.toInCall.ns,x.cell,hu,x.apart,λn c hm q=>?_,λb hb=>?_,x.toInCall.keep,λb hb=>?_⟩
 ·have:=E1 n c hm;exact b6 2836699674 env.locals c rfl this q
 ·rcases hb with q|⟨n,hm⟩
  ·have:=wh x.toInCall.ns;rw [q];exact this
  ·exact hc n b hm
 ·rcases hb with q|⟨n,hm⟩
  ·rw [q];exact df hL
  ·exact df (by have:=E1 n b hm;exact oq this hL)
theorem Fm.storeL{v:Value}{Q:Unit->Shared->Prop}(f:Fm DA env lo m cm s.heap)(hk:env.scope.kind=.function)(hl:env.kindOf x=some .local)
  (h:∀h',Fm DA env lo (rq m x v) cm h'->(∀b o,¬@Eq Nat b env.locals->s.heap.get? b=some o->h'.get? b=some o)->UpF lo s.heap h'->h'.objs.size=s.heap.objs.size->Q () {s with heap:=h',toks:=s.toks+1}):
  wpAny M A (storeName env x v) Q E s:=by
 refine fh hl f.ns (λh' hn hs=>?_) (by rw [hk];rfl)
 have keep:∀b o,¬@Eq Nat b env.locals->s.heap.get? b=some o->h'.get? b=some o:=λb o hb e=>hs.extBut b o hb e
 refine h h' ⟨hn,λn c hc=>?_,f.uniq,f.apart,f.ne,f.own,λb o e=>keep b o (λq=>?_) (f.base b o e),f.fresh⟩ keep (λb o hb e=>keep b o (λq=>?_) e) hs.1
 ·exact(f.cell n c hc).sameBut hs (f.ne n c (mem_of_lookup hc))
 ·have q':b=env.locals:=q
  have:=f.fresh _ (.inl rfl);rw [<-q',e] at this;cases this
 ·have:=f.own _ (.inl rfl)
  have q':@Eq Nat b env.locals:=q
  exact rj this hb q
theorem Fm.storeC{v:Value}{c:Addr}{Q:Unit->Shared->Prop}(f:Fm DA env lo m cm s.heap)(hk:env.scope.kind=.function)(hl:env.kindOf x=some .cell)(hc:env.cells.lookup x=some c)
  (h:∀h',Fm DA env lo m (rq cm x v) h'->(∀b o,¬@Eq Nat b c->s.heap.get? b=some o->h'.get? b=some o)->UpF lo s.heap h'->h'.objs.size=s.heap.objs.size->Q () {s with heap:=h'}):
  wpAny M A (storeName env x v) Q E s:=by
 have hm:=mem_of_lookup hc
 refine wpAny_storeName_cell hk hl hc (f.cell x c hc) λh' hn hs=>?_
 have keep:∀b o,¬@Eq Nat b c->s.heap.get? b=some o->h'.get? b=some o:=λb o hb e=>hs.extBut b o hb e
 refine h h' ⟨f.ns.sameBut hs (λq=>f.ne x c hm q.symm),λn c' H8=>?_,f.uniq,f.apart,f.ne,f.own,λb o e=>keep b o (λq=>?_) (f.base b o e),f.fresh⟩ keep (λb o hb e=>keep b o (λq=>?_) e) hs.1
 ·by_cases KL:n=x
  ·subst KL
   rw [hc] at H8;cases H8
   simpa [rq] using hn
  ·simp only [rq,KL,if_false]
   exact(f.cell n c' H8).sameBut hs λq=>KL (name_of_addr f.apart (mem_of_lookup H8) (q▸hm))
 ·have q':b=c:=q
  have:=f.fresh c (.inr ⟨x,hm⟩);rw [<-q',e] at this;cases this
 ·have:=f.own c (.inr ⟨x,hm⟩)
  have q':@Eq Nat b c:=q
  exact rj this hb q
theorem Be{v:Value}{pos:Pos}{c:Addr}(DO:s.heap.IsCell c (some v))(hc:env.cells.lookup x=some c)(h:Q v s)(hk:env.scope.kind=.function:=by rfl)(hl:env.kindOf x=some .cell:=by rfl)
 (hd:(x==("__debug__":Str))=false:=by decide):wpAny M A (eval (.Name x pos) env) Q E s:=wpAny_Name (wpAny_loadName_cell hk hl hc DO h) hd
theorem mY{v:Value}{pos:Pos}{m:Str->Option Value}(hn:s.heap.Ns env.locals m)(hv:m x=some v)(h:Q v s)(hk:env.scope.kind=.function:=by rfl)(hl:env.kindOf x=some .local:=by rfl)
 (hd:(x==("__debug__":Str))=false:=by decide):wpAny M A (eval (.Name x pos) env) Q E s:=wpAny_Name (wpAny_loadName_local hk hl hn hv h) hd
end
noncomputable def CompIn(w:World)(A:Around)(env:Env)(elt target:Expr)(scope:Scope)(cl:List (Str×Addr))(hb:Heap)(Q:Value->Nat->Shared->Prop)(xv:Value)(C':Shared):Prop :=
 ∃(Lk:Prop) (n:Nat) (P:Nat->Value->Heap->Prop) (F:Nat->Heap->Nat->Value->Prop),Src w A target Lk hb C' xv n P/\Up hb C'.heap/\hb.objs.size<=C'.heap.objs.size/\n<=sizeLine/\0<C'.toks /\
  (∀lo h h' i y,F lo h i y->UpF lo h h'->F lo h' i y)/\(∀lo Es h i y,lo<=Es->F Es h i y->F lo h i y) /\
  (∀(C:Nat) (i:Nat) (v:Value) (s3:Shared) (E:Value->Shared->Prop) (Q:Value->Shared->Prop),
   C'.heap.objs.size<=C->CF C (nC scope.names) s3.heap->P i v s3.heap->i<n->Up hb s3.heap->C'.toks<=s3.toks->s3.gens=C'.gens->s3.drawn=C'.drawn->s3.os=C'.os ->
   (∀y h4 t4 h5 t5,CF C (nC scope.names) h4->(∀b o,¬(C<=b/\b<=C+nC scope.names)->s3.heap.get? b=some o->h4.get? b=some o)->s3.toks<=t4->Up h4 h5->t4<=t5->F h4.objs.size h5 i y ->
    Q y {s3 with heap:=h5,toks:=t5}) ->
   wpAny (model prog w) A (assign target (gz scope cl C env) v) (λ_ s4=>wpAny (model prog w) A (eval elt (gz scope cl C env)) Q E s4) E s3) /\
  (∀(D C:Nat) h' tk ys,C'.heap.objs.size<=D->D≠C->C'.heap.objs.size<=C->h'.PlainList D ys->ys.size=n->(∀i y,ys[i]?=some y->∀DN,(∀b o,@cA Nat _ C b->h'.get? b=some o->DN.get? b=some o)->F C'.heap.objs.size DN i y)->(∃m,h'.Ns C m) ->
   Up hb h'->C'.toks<=tk->Q (.ref D) C {C' with heap:=h',toks:=tk})
theorem qh{pos:Pos}{xv:Value}{RR:Value->Nat->Result->Shared->Prop}{hb:Heap}
  (h:CompIn w A env elt target scope cl hb (λv C s'=>RR v C (.ok .next) s') xv C'):
  wpAny (model prog w) A (pyIter xv) (λit Ds=>wpAny (model prog w) A (newList []) (λDC s3=>wpAny (model prog w) A (newFunctionEnv scope env.globals cl [] env.qual none .none (some env)) (λcenv s4 =>
   codeAny (model prog w) A (.compStart (.ListComp elt [⟨target,iter,[],0⟩] scope pos) 0 it DC {cenv with scope:=relabel scope env}) (RR DC cenv.locals) s4) E s3) E Ds) E C':=by
 refine e4a9 (h) λLk n P F src ub sb hsz FA G3 HE turn hQ=>?_
 refine src _ _ λI fp wr St DE Ku W st Iu KD up sz DU=>?_
 have nw:∀b o,hb.get? b=some o->b∉wr:=λb o e Em=>by
  have h1:=iF e
  have h2:@iC Nat _ hb.objs.size b:=KD b Em
  exact qj h1 h2
 refine zJ W hsz st (λb hb=>(Iu b hb).1) (ad FA DU) F G3 HE (λC i v s3 E' Q' hC cf hP hi k3 t3 g3 d3 o3 En=>?_) (λD C h' FX ys hD Ia hC hn hl H5 hF hk Mm=>?_)
 ·dsimp only at hC k3 t3 g3 d3 o3
  exact turn C i v s3 E' Q' (ab sz hC) cf hP hi (λb o e=>k3 b o (nw b o e) (up b o (ub b o e))) (ab DU t3) g3 d3 o3 En
 ·dsimp only at hD hC hF hk Mm
  exact hQ D C h' FX ys (ab sz hD) Ia (ab sz hC) hl H5 (λi y hy DN Fq=>HE _ _ _ _ _ sz ((hF i y hy).2 DN λb o hb e=>Fq b o hb e)) hn (λb o e=>hk b o (nw b o e) (up b o (ub b o e))) (ab DU Mm)
theorem ua{pos:Pos}
  (DM:closureFor scope env=pure cl)
  (h:wpAny (model prog w) A (eval iter env) (λxv C'=>∃hb,CompIn w A env elt target scope cl hb (λv C s'=>∀DN,(∀b o,¬@Eq Nat b C->s'.heap.get? b=some o->DN.get? b=some o)->Q v {s' with heap:=DN}) xv C') E s)
  (DK:scope.kind=.function:=by rfl) (DP:∀y∈scope.names,y.2=.local->scope.names.lookup y.1=some .local:=by decide)
  (hs:∀x,foldedSetIterable iter env x=pure x:=by intro _;rfl):
  wpAny (model prog w) A (eval (.ListComp elt [⟨target,iter,[],0⟩] scope pos) env) Q E s:=by
 refine eA (use:=none) rfl hs DM DK DP (bb h (λxv C' h1=>?_) λ_ _ e=>e)
 obtain⟨hb,h1⟩:=h1
 refine qh (hb:=hb) (RR:=λDC C=>compPost (model prog w) A E none Q DC C) ?_
 refine e4a9 (h1) λLk n P F src ub sb hsz FA G3 HE turn hQ=>?_
 refine⟨Lk,n,P,F,src,ub,sb,hsz,FA,G3,HE,turn,λD C h' tk ys hD Ia hC hl H5 hF hn up DU=>?_⟩
 obtain⟨m,hm⟩:=hn
 exact⟨m,hm,λDN HN=>hQ D C h' tk ys hD Ia hC hl H5 hF ⟨m,hm⟩ up DU DN λb o hb e=>HN.extBut b o hb e⟩
theorem sL{pos:Pos}{y:Str}{m:Str->Option Value}{Q:Flow->Shared->Prop}
  (f:Fm DA env lo m cm s.heap) (DM:closureFor scope env=pure cl)
  (h:wpAny (model prog w) A (eval iter env) (λxv C'=>∃hb,Up s.heap hb/\lo<=hb.objs.size/\CompIn w A env elt target scope cl hb (λv C s'=>∀DN ID,(∀b o,¬@Eq Nat b C->¬@Eq Nat b env.locals->s'.heap.get? b=some o->DN.get? b=some o) ->
   Fm DA env lo (rq m y v) cm DN->s'.toks<=ID->Q .next {s' with heap:=DN,toks:=ID}) xv C') E s)
  (F3:swapsWith (.ListComp elt [⟨target,iter,[],0⟩] scope pos) (some (.Name y py)) F'.line env=pure true:=by rfl)
  (DK:scope.kind=.function:=by rfl) (DP:∀y∈scope.names,y.2=.local->scope.names.lookup y.1=some .local:=by decide)
  (UO:env.scope.kind=.function:=by rfl) (hy:env.kindOf y=some .local:=by rfl)
  (hs:∀x,foldedSetIterable iter env x=pure x:=by intro _;rfl):
  wpAny (model prog w) A (exec (.Assign [.Name y py] (.ListComp elt [⟨target,iter,[],0⟩] scope pos) F') env) Q E s:=by
 rw [exec_Assign_Name_used _ _ _ _ F3]
 refine aa (ez (aa ?_))
 refine aa (bb (eA (use:=some (assign (.Name y py) env)) (Q:=λ_ s'=>Q .next s') rfl hs DM DK DP
  (bb h (λxv C' h1=>?_) λ_ _ e=>e)) (λ_ s' hq=>ai (ai hq)) λ_ _ e=>e)
 refine kF (h1) λhb up1 lo1 h1=>?_
 refine qh (hb:=hb) (RR:=λDC C=>compPost (model prog w) A E (some (assign (.Name y py) env)) (λ_ s'=>Q .next s') DC C) ?_
 refine e4a9 (h1) λLk n P F src ub sb hsz FA G3 HE turn hQ=>?_
 refine⟨Lk,n,P,F,src,ub,sb,hsz,FA,G3,HE,turn,λD C h' tk ys hD Ia hC hl H5 hF hn up DU=>?_⟩
 obtain⟨mC,hmC⟩:=hn
 have hCo:¬OwnB env C:=λq=>by have:=f.own C q;exact dh 0xcb10ba10a9149c12 C lo hb.objs.size C'.heap.objs.size rfl this lo1 sb hC
 have hC0:DA.get? C=none:=by
  cases e:DA.get? C with
  |none=>rfl
  |some o=>have:=iF (up1 C o (f.base C o e));exact BR this sb hC
 refine cJ (Fm.storeL ((f.up up1).up up) UO hy λh2 f2 k2 u2 _=>?_)
 refine⟨mC,hmC.at' λo e=>k2 C o (λq=>hCo (.inl q)) e,λh3 GH=>?_⟩
 refine hQ D C h' tk ys hD Ia hC hl H5 hF ⟨mC,hmC⟩ up DU h3 (tk+1) (λb o hb Vb e=>GH.extBut b o hb (k2 b o Vb e)) ?_ (aD _)
 exact f2.but hCo hC0 λb o hb e=>GH.extBut b o hb e
theorem Up.refl(h:Heap):Up h h:=λ_ _ e=>e
theorem Up.trans{a b c:Heap}(u:Up a b)(v:Up b c):Up a c:=λx o e=>v x o (u x o e)
theorem Up.push(h:Heap)(o:Obj):Up h (h.push o):=λ_ _ e=>af _ e
structure Gr(h h':Heap):Prop where
 up:Up h h'
 sz:h.objs.size<=h'.objs.size
theorem Gr.refl(h:Heap):Gr h h:=⟨Up.refl h,ag _⟩
theorem Gr.trans{a b c:Heap}(u:Gr a b)(v:Gr b c):Gr a c:=⟨u.up.trans v.up,ab u.sz v.sz⟩
theorem Gr.push(h:Heap)(o:Obj):Gr h (h.push o):=⟨Up.push h o,by rw [ao];exact aD _⟩
inductive F2{α β:Type _}(R:α->β->Prop):List α->List β->Prop where
 |nil:F2 R [] []
 |cons {a b l m}:R a b->F2 R l m->F2 R (a::l) (b::m)
structure Cx where
 p:Heap->Prop
 up:∀{h h':Heap},Up h h'->p h->p h'
noncomputable abbrev TT:=Nat->Heap->Value->Prop
noncomputable abbrev tV(p:Value->Prop):TT:=λ_ _ v=>p v
noncomputable def pI(i:Int)(v:Value):Prop:=∃t,t≠0/\v=.int i t
noncomputable def pB(b:Bool)(v:Value):Prop:=v=.bool b
noncomputable def pF(z:Int)(v:Value):Prop:=∃x t,t≠0/\FQ x z/\v=.float x t
noncomputable abbrev tN(d:Dt):TT:=λlo h v=>At lo h v d
noncomputable abbrev tO(d:Dt):TT:=λ_ h v=>At 0 h v d
theorem At_int{v:Value}{i:Int}:At lo h v (.int i)↔pI i v:=by simp only [q7,rb,q8,q9,qX,qZ,qW,qY,pI]
theorem At_is{v x:Value}(a:At lo h v (.is x)):v=x:=by simpa only [q7,rb,q8,q9,qX,qZ,qW,qY] using a
theorem At_rfl{v:Value}:At lo h v (.is v):=by simp only [q7,rb,q8,q9,qX,qZ,qW,qY]
theorem At_bool{v:Value}{b:Bool}:At lo h v (.bool b)↔pB b v:=by simp only [q7,rb,q8,q9,qX,qZ,qW,qY,pB]
theorem At_flt{v:Value}:At lo h v (.flt z)↔pF z v:=by simp only [q7,rb,q8,q9,qX,qZ,qW,qY,pF]
theorem At.lst{v:Value}{l:List Dt}:At lo h v (.lst l)↔∃a items,v=.ref a/\lo<=a/\h.IsList a items/\AtAll lo h items.toList l:=by simp only [q7,rb,q8,q9,qX,qZ,qW,qY]
theorem At.pl{v:Value}{l:List Dt}:At lo h v (.pl l)↔∃a items,v=.ref a/\lo<=a/\h.PlainList a items/\AtAll lo h items.toList l:=by simp only [q7,rb,q8,q9,qX,qZ,qW,qY]
theorem At.pl_lst{v:Value}{l:List Dt}(x:At lo h v (.pl l)):At lo h v (.lst l):=by
 refine fL (At.pl.mp x) λa items e hl hp r=>?_
 exact At.lst.mpr ⟨a,items,e,hl,hp.isList,r⟩
theorem At.tup{v:Value}{l:List Dt}:At lo h v (.tup l)↔∃a items,v=.ref a/\lo<=a/\h.IsTuple a items/\AtAll lo h items.toList l:=by simp only [q7,rb,q8,q9,qX,qZ,qW,qY]
section
variable(w:World)(A:Around)(env:Env)(G:Cx)
noncomputable def Ev(e:Expr)(T:TT):Prop :=
 ∀(s:Shared) (Q:Value->Shared->Prop) (E:Value->Shared->Prop),G.p s.heap->0<s.toks ->
  (∀v h' t',Gr s.heap h'->s.toks<=t'->T s.heap.objs.size h' v->Q v {s with heap:=h',toks:=t'})->wpAny (model prog w) A (eval e env) Q E s
noncomputable def EvT(e:Expr)(b:Bool):Prop :=
 ∀(s:Shared) (Q:Bool->Shared->Prop) (E:Value->Shared->Prop),G.p s.heap->0<s.toks ->
  (∀h' t',Gr s.heap h'->s.toks<=t'->Q b {s with heap:=h',toks:=t'})->wpAny (model prog w) A (isTrue e env (eval e env)) Q E s
noncomputable def Evs(es:List Expr)(Ts:List TT):Prop :=
 ∀(pos:Pos) (s:Shared) (Q:List Value->Shared->Prop) (E:Value->Shared->Prop),G.p s.heap->0<s.toks ->
  (∀vs h' t',Gr s.heap h'->s.toks<=t'->F2 (λv (T:TT)=>T s.heap.objs.size h' v) vs Ts->Q vs {s with heap:=h',toks:=t'}) ->
  wpAny (model prog w) A (spliced (backTo pos (starEach es env))) Q E s
noncomputable def HasN(h:Heap)(x:Str)(v:Value):Prop :=
 (env.kindOf x=some .local/\∃m,h.Ns env.locals m/\m x=some v)\/(env.kindOf x=some .cell/\∃c,env.cells.lookup x=some c/\h.IsCell c (some v))
noncomputable def Ld(x:Str)(d:Dt):Prop:=env.scope.kind=.function/\∀h,G.p h->∃v,HasN env h x v/\At 0 h v d
end
noncomputable def Stb(T:TT):Prop:=∀lo h h' v,Up h h'->T lo h v->T lo h' v
theorem Stb.n(d:Dt):Stb (tN d):=λ_ _ _ _ u x=>x.up (u.from _)
noncomputable def Lows(T:TT):Prop:=∀lo Es h v,lo<=Es->T Es h v->T lo h v
theorem Lows.v(p:Value->Prop):Lows (tV p):=λ_ _ _ _ _ x=>x
theorem Lows.n(d:Dt):Lows (tN d):=λ_ _ _ _ l x=>x.weaken l
theorem Lows.o(d:Dt):Lows (tO d):=λ_ _ _ _ _ x=>x
theorem Ev.mono{T T':TT}(x:Ev w A env G e T)(h:∀lo h v,T lo h v->T' lo h v):Ev w A env G e T' :=
 λs Q E g t hQ=>x s Q E g t λv h' t' u l hT=>hQ v h' t' u l (h _ _ _ hT)
theorem Ev.old(x:Ev w A env G e (tN d)):Ev w A env G e (tO d):=x.mono λ_ _ _ h=>h.weaken (bY _)
theorem Ev.int{i:Int}(x:Ev w A env G e (tO (.int i))):Ev w A env G e (tV (pI i)):=x.mono λ_ _ _ h=>At_int.mp h
theorem Ev.bool{i:Bool}(x:Ev w A env G e (tO (.bool i))):Ev w A env G e (tV (pB i)):=x.mono λ_ _ _ h=>At_bool.mp h
theorem Ev.flt{i:Int}(x:Ev w A env G e (tO (.flt i))):Ev w A env G e (tV (pF i)):=x.mono λ_ _ _ h=>At_flt.mp h
theorem Ev.nint{i:Int}(x:Ev w A env G e (tV (pI i))):Ev w A env G e (tN (.int i)):=x.mono λ_ _ _ h=>At_int.mpr h
theorem Ev.nbool{i:Bool}(x:Ev w A env G e (tV (pB i))):Ev w A env G e (tN (.bool i)):=x.mono λ_ _ _ h=>At_bool.mpr h
theorem Ev.nflt{i:Int}(x:Ev w A env G e (tV (pF i))):Ev w A env G e (tN (.flt i)):=x.mono λ_ _ _ h=>At_flt.mpr h
theorem an{pos:Pos}(l:Ld env G x d)(hd:(x==("__debug__":Str))=false:=by decide):Ev w A env G (.Name x pos) (tO d):=by
 intro s Q E g t hQ
 refine ci (l.2 _ g) λv hv DJ=>?_
 have En:Q v s:=hQ v s.heap s.toks (Gr.refl _) (ag _) DJ
 rcases hv with ⟨hl,m,hn,hm⟩|⟨hl,c,hc,DO⟩
 ·exact mY hn hm En l.1 hl hd
 ·exact Be DO hc En l.1 hl hd
theorem br{i:Int}{pos:Pos}:Ev w A env G (.Constant (.int i) k pos) (tV (pI i)):=by
 intro s Q E g t hQ
 exact dl (hQ _ s.heap _ (Gr.refl _) (aD _) ⟨_,aB t,rfl⟩)
theorem gy{b:Bool}{pos:Pos}:Ev w A env G (.Constant (.bool b) k pos) (tV (pB b)):=by
 intro s Q E g t hQ
 exact fK (hQ _ s.heap _ (Gr.refl _) (ag _) rfl)
noncomputable def OpR(w:World)(A:Around)(op:Operator)(pa pb pr:Value->Prop):Prop :=
 ∀(s:Shared) (va vb:Value) (Q:Value->Shared->Prop) (E:Value->Shared->Prop),0<s.toks->pa va->pb vb->(∀v t',s.toks<=t'->pr v->Q v {s with toks:=t'})->wpAny (model prog w) A (binaryOp op va vb) Q E s
noncomputable def CmR(w:World)(A:Around)(op:CmpOp)(pa pb:Value->Prop)(b:Bool):Prop :=
 ∀(s:Shared) (va vb:Value) (Q:Value->Shared->Prop) (E:Value->Shared->Prop),0<s.toks->pa va->pb vb->Q (.bool b) s->wpAny (model prog w) A (compareOp op va vb) Q E s
theorem bH{a b:Expr}{op:Operator}{pos:Pos}{pa pb pr:Value->Prop}(ho:OpR w A op pa pb pr)(ha:Ev w A env G a (tV pa))(hb:Ev w A env G b (tV pb)):
  Ev w A env G (.BinOp a op b pos) (tV pr):=by
 intro s Q E g t hQ
 refine fz (ha s _ _ g t λva h1 t1 u1 l1 Dv=>?_)
 refine hb _ _ _ (G.up u1.up g) (ad t l1) λvb h2 t2 u2 l2 DD=>?_
 dsimp only at u2 l2
 refine ho _ va vb _ _ (ad t (ab l1 l2)) Dv DD λv t3 l3 p3=>?_
 exact hQ v h2 t3 (u1.trans u2) (ab l1 (ab l2 l3)) p3
theorem mB{a b:Expr}{op:CmpOp}{pos:Pos}{pa pb:Value->Prop}{r:Bool}(ho:CmR w A op pa pb r)(ha:Ev w A env G a (tV pa))(hb:Ev w A env G b (tV pb))
  (hm:behindInMarks op b=false:=by with_unfolding_all rfl):
  Ev w A env G (.Compare a [op] [b] pos) (tV (pB r)):=by
 intro s Q E g t hQ
 refine wpAny_Compare1 (ha s _ _ g t λva h1 t1 u1 l1 Dv=>?_) hm
 refine hb _ _ _ (G.up u1.up g) (ad t l1) λvb h2 t2 u2 l2 DD=>?_
 dsimp only at u2 l2
 refine ho _ va vb _ _ (ad t (ab l1 l2)) Dv DD ?_
 exact hQ _ h2 t2 (u1.trans u2) (ab l1 l2) rfl
theorem fJ{a b:Expr}{op:CmpOp}{pos:Pos}{pa pb:Value->Prop}{r:Bool}(ho:CmR w A op pa pb r)(ha:Ev w A env G a (tV pa))(hb:Ev w A env G b (tV pb))
  (hm:behindInMarks op b=false:=by with_unfolding_all rfl):
  EvT w A env G (.Compare a [op] [b] pos) r:=by
 intro s Q E g t hQ
 refine gY (ha s _ _ g t λva h1 t1 u1 l1 Dv=>?_) hm
 refine hb _ _ _ (G.up u1.up g) (ad t l1) λvb h2 t2 u2 l2 DD=>?_
 dsimp only at u2 l2
 refine ho _ va vb _ _ (ad t (ab l1 l2)) Dv DD (dq ?_)
 exact hQ h2 t2 (u1.trans u2) (ab l1 l2)
theorem nW{a:Expr}{pos:Pos}{i:Int}(ha:Ev w A env G a (tV (pI i))):Ev w A env G (.UnaryOp .USub a pos) (tV (pI (-i))):=by
 intro s Q E g t hQ
 refine wpAny_UnaryOp (ha s _ _ g t λva h1 t1 u1 l1 Dv=>?_)
 refine ci (Dv) λtk _ Dz=>?_;subst Dz
 exact PySem.P.neg_int (hQ _ h1 _ u1 (b8 l1) ⟨_,aB (ad t l1),rfl⟩)
theorem C6{c a b:Expr}{pos:Pos}{r:Bool}{T:TT}(hl:Lows T)(hc:EvT w A env G c r)(ha:r=true->Ev w A env G a T)(hb:r=false->Ev w A env G b T):Ev w A env G (.IfExp c a b pos) T:=by
 intro s Q E g t hQ
 refine wpAny_IfExp (hc s _ _ g t λh1 t1 u1 l1=>?_)
 cases r with
 |true =>
  refine(ha rfl) _ _ _ (G.up u1.up g) (ad t l1) λv h2 t2 u2 l2 DD=>?_
  exact hQ v h2 t2 (u1.trans u2) (ab l1 l2) (hl _ _ _ _ u1.sz DD)
 |false =>
  refine(hb rfl) _ _ _ (G.up u1.up g) (ad t l1) λv h2 t2 u2 l2 DD=>?_
  exact hQ v h2 t2 (u1.trans u2) (ab l1 l2) (hl _ _ _ _ u1.sz DD)
theorem je(i j:Int):OpR w A .Add (pI i) (pI j) (pI (i+j)):=by
 rintro s _ _ Q E ht ⟨t,_,rfl⟩ ⟨u,_,rfl⟩ hQ
 exact PySem.P.add_int (hQ _ _ (aD _) ⟨_,aB ht,rfl⟩)
theorem gV(i j:Int):OpR w A .Sub (pI i) (pI j) (pI (i-j)):=by
 rintro s _ _ Q E ht ⟨t,_,rfl⟩ ⟨u,_,rfl⟩ hQ
 exact PySem.P.sub_int (hQ _ _ (aD _) ⟨_,aB ht,rfl⟩)
theorem eU(i j:Int)(h:-(2^64)<i/\i<2^64):OpR w A .Mult (pI i) (pI j) (pI (i*j)):=by
 rintro s _ _ Q E ht ⟨t,_,rfl⟩ ⟨u,_,rfl⟩ hQ
 exact PySem.P.mul_int (hQ _ _ (aD _) ⟨_,aB ht,rfl⟩) (IntMulOk.of_left (intBits_le_64 h.1 h.2))
theorem oG(i j:Int)(h:j≠0):OpR w A .Mod (pI i) (pI j) (pI (i.fmod j)):=by
 rintro s _ _ Q E ht ⟨t,_,rfl⟩ ⟨u,_,rfl⟩ hQ
 exact ke (by simpa using h) (hQ _ _ (aD _) ⟨_,aB ht,rfl⟩)
theorem xe(i j:Int)(h:j≠0)(hp:Builtin.divisionGoesByPylong i j=false):OpR w A .FloorDiv (pI i) (pI j) (pI (i.fdiv j)):=by
 rintro s _ _ Q E ht ⟨t,_,rfl⟩ ⟨u,_,rfl⟩ hQ
 exact lb (by simpa using h) (by simp [hp]) (hQ _ _ (aD _) ⟨_,aB ht,rfl⟩)
theorem tH(i j:Bool):OpR w A .Sub (pB i) (pB j) (pI (b2i i-b2i j)):=by
 rintro s _ _ Q E ht rfl rfl hQ
 exact PyProof.Rows.sub_bool (hQ _ _ (aD _) ⟨_,aB ht,rfl⟩)
theorem BD(i j:Int):CmR w A .Lt (pI i) (pI j) (decide (i<j)):=by
 rintro s _ _ Q E ht ⟨t,_,rfl⟩ ⟨u,_,rfl⟩ hQ
 exact lV hQ
theorem cm_gt(i j:Int):CmR w A .Gt (pI i) (pI j) (decide (i>j)):=by
 rintro s _ _ Q E ht ⟨t,_,rfl⟩ ⟨u,_,rfl⟩ hQ
 exact PySem.P.gt_int hQ
theorem uq(i j:Int):CmR w A .Eq (pI i) (pI j) (i==j):=by
 rintro s _ _ Q E ht ⟨t,_,rfl⟩ ⟨u,_,rfl⟩ hQ
 exact PySem.P.eq_int hQ
theorem BC(i j:Int):CmR w A .NotEq (pI i) (pI j) (i != j):=by
 rintro s _ _ Q E ht ⟨t,_,rfl⟩ ⟨u,_,rfl⟩ hQ
 exact PySem.P.ne_int hQ
theorem ec:Evs w A env G [] []:=by
 intro pos s Q E g t hQ
 exact kZ (hQ [] s.heap s.toks (Gr.refl _) (ag _) .nil)
theorem m5{T:TT}{Ts:List TT}(hs:Stb T)(hl:∀T∈Ts,Lows T)(h:Ev w A env G e T)(r:Evs w A env G es Ts)(he:starEach (e::es) env=(false,eval e env)::starEach es env:=by rfl):
  Evs w A env G (e::es) (T::Ts):=by
 intro pos s Q E g t hQ
 refine cP (h s _ _ g t λv h1 t1 u1 l1 Dv=>?_) he
 refine r pos _ _ _ (G.up u1.up g) (ad t l1) λvs h2 t2 u2 l2 DD=>?_
 refine hQ (v::vs) h2 t2 (u1.trans u2) (ab l1 l2) (.cons (hs _ _ _ _ u2.up Dv) ?_)
 have:∀{vs:List Value} {Ts:List TT},(∀T∈Ts,Lows T)->F2 (λv (T:TT)=>T h1.objs.size h2 v) vs Ts->F2 (λv (T:TT)=>T s.heap.objs.size h2 v) vs Ts:=by
  intro vs Ts hl x
  induction x with
  |nil=>exact .nil
  |cons a _ ih=>exact .cons (hl _ aW _ _ _ _ u1.sz a) (ih λT hT=>hl T (az _ hT))
 exact this hl DD
theorem se:∀{vs:List Value} {ds:List Dt},F2 (λv (T:TT)=>T lo h v) vs (ds.map tN)->AtAll lo h vs ds:=by
 intro vs
 induction vs with
 |nil=>intro ds x;cases ds with|nil=>simp only [aN,aC,aL,aR]|cons d ds=>cases x
 |cons v vs ih=>intro ds x;cases ds with|nil=>cases x|cons d ds=>cases x with|cons a r=>simp only [aN,aC,aL,aR];exact⟨a,ih r⟩
theorem eX{pos:Pos}(h:Evs w A env G es (ds.map tN))(hsz:ds.length<=sizeLine:=by decide):Ev w A env G (.Tuple es k pos) (tN (.tup ds)):=by
 intro s Q E g t hQ
 refine iy (h pos s _ _ g t λvs h1 t1 u1 l1 Dv=>?_)
 have ha:=se Dv
 refine⟨by rw [ha.length];exact hsz,?_⟩
 refine hQ _ _ _ (u1.trans (Gr.push _ _)) l1 (At.tup.mpr ⟨_,vs.toArray,rfl,u1.sz,⟨_,am _ rfl,rfl,_,rfl⟩,?_⟩)
 exact ha.up ((Up.push _ _).from _)
theorem mK{pos:Pos}(h:Evs w A env G es (ds.map tN))(hsz:ds.length<=sizeLine:=by decide):Ev w A env G (.List es pos) (tN (.lst ds)):=by
 intro s Q E g t hQ
 refine wpAny_List (h pos s _ _ g t λvs h1 t1 u1 l1 Dv=>?_)
 have ha:=se Dv
 refine⟨by rw [ha.length];exact hsz,?_⟩
 refine hQ _ _ _ (u1.trans (Gr.push _ _)) l1 (At.lst.mpr ⟨_,vs.toArray,rfl,u1.sz,⟨_,am _ rfl,rfl,_,rfl⟩,?_⟩)
 exact ha.up ((Up.push _ _).from _)
noncomputable def EvSrc(w:World)(A:Around)(env:Env)(G:Cx)(Lk:Prop)(iter target:Expr)(n:Nat)(P:Heap->Nat->Value->Heap->Prop):Prop :=
 ∀(s:Shared) (Q:Value->Shared->Prop) (E:Value->Shared->Prop),G.p s.heap->0<s.toks ->
  (∀xv hb h' t',Gr s.heap hb->Gr hb h'->s.toks<=t'->Src w A target Lk hb {s with heap:=h',toks:=t'} xv n (P hb)->Q xv {s with heap:=h',toks:=t'})->wpAny (model prog w) A (eval iter env) Q E s
noncomputable def AsgOk(w:World)(A:Around)(target:Expr)(cenv:Env)(C k:Nat)(hc:Heap)(P:Value->Heap->Prop)(Good:Cx->Prop):Prop :=
 ∀(v:Value) (s:Shared) (Q:Unit->Shared->Prop) (E:Value->Shared->Prop),Up hc s.heap->CF C k s.heap->0<s.toks->P v s.heap ->
  (∀(G':Cx) h' t',Good G'->G'.p h'->(∀h,G'.p h->Up hc h)->CF C k h'->(∀b o,¬(C<=b/\b<=C+k)->s.heap.get? b=some o->h'.get? b=some o)->s.toks<=t'->Q () {s with heap:=h',toks:=t'}) ->
  wpAny (model prog w) A (assign target cenv v) Q E s
noncomputable def EltOk(w:World)(A:Around)(env:Env)(G:Cx)(elt target:Expr)(scope:Scope)(cl:List (Str×Addr))(P:Heap->Nat->Value->Heap->Prop)(rs:List Dt):Prop :=
 ∀(C:Nat) (hc:Heap) (i:Nat) (r:Dt),rs[i]?=some r->G.p hc->hc.objs.size<=C ->
  ∃Good:Cx->Prop,AsgOk w A target (gz scope cl C env) C (nC scope.names) hc (P hc i) Good/\∀G':Cx,Good G'->(∀h,G'.p h->Up hc h)->Ev w A (gz scope cl C env) G' elt (tN r)
theorem Au{rs:List Dt}{P:Heap->Nat->Value->Heap->Prop}{xv:Value}{Q:Value->Nat->Shared->Prop}{hb:Heap}
  (g:G.p hb) (gr:Gr hb C'.heap) (t:0<C'.toks) (src:Src w A target Lk hb C' xv rs.length (P hb)) (hsz:rs.length<=sizeLine) (he:EltOk w A env G elt target scope cl P rs)
  (hQ:∀D C h' tk,C'.heap.objs.size<=C->C'.heap.objs.size<=D->Up hb h'->C'.toks<=tk->(∀DN:Heap,(∀b o,¬@Eq Nat b C->C'.heap.objs.size<=b->h'.get? b=some o->DN.get? b=some o)->At C'.heap.objs.size DN (.ref D) (.pl rs))->Q (.ref D) C {C' with heap:=h',toks:=tk}):
  CompIn w A env elt target scope cl hb Q xv C':=by
 refine⟨Lk,rs.length,P hb,λlo h i y=>∀r,rs[i]?=some r->At lo h y r,src,gr.up,gr.sz,hsz,t,λlo h h' i y x u r hr=>(x r hr).up u,λlo Es h i y l x r hr=>(x r hr).weaken l,?_,?_⟩
 ·intro C i v s3 E Q hC cf hP hi up tk g3 d3 o3 hQ
  obtain⟨r,hr⟩:∃r,rs[i]?=some r:=⟨_,ae hi⟩
  refine ci (he C hb i r hr g (ab gr.sz hC)) λGood Kd U6=>?_
  refine Kd v s3 _ _ up cf (ad t tk) hP λG' h4 t4 good g' Jk NQ but ht=>?_
  refine U6 G' good Jk _ _ _ g' (ad t (ab tk ht)) λy h5 t5 u5 Nh hT=>?_
  refine hQ y h4 t4 h5 t5 NQ but ht u5.up Nh λr' Nl=>?_
  rw [hr] at Nl;cases Nl;exact hT
 ·intro D C h' tk ys hD Ia hC hl H5 hF hn up DU
  refine hQ D C h' tk hC hD up DU λDN Fq=>At.pl.mpr ⟨D,ys,rfl,hD,?_,AtAll.of_get (by simpa using H5) λi v d hv hd=>?_⟩
  ·exact hl.at λo e=>Fq D o (λq=>Ia q) hD e
  ·exact hF i v (by simpa using hv) DN (λb o hb e=>Fq b o (aB ‹_›) (aJ (bU hC hb)) e) d hd
theorem uY{pos:Pos}{rs:List Dt}{P:Heap->Nat->Value->Heap->Prop}
  (DM:closureFor scope env=pure cl) (hi:EvSrc w A env G Lk iter target rs.length P) (hsz:rs.length<=sizeLine) (he:EltOk w A env G elt target scope cl P rs)
  (DK:scope.kind=.function:=by rfl) (DP:∀y∈scope.names,y.2=.local->scope.names.lookup y.1=some .local:=by decide)
  (hs:∀x,foldedSetIterable iter env x=pure x:=by intro _;rfl):
  Ev w A env G (.ListComp elt [⟨target,iter,[],0⟩] scope pos) (tN (.pl rs)):=by
 intro s Q E g t hQ
 refine ua DM (hi s _ _ g t λxv hb h1 t1 u0 u1 l1 src=>⟨hb,?_⟩) DK DP hs
 refine Au (G:=G) (G.up u0.up g) u1 (ad t l1) src hsz he λD C h' tk hC hD up ht DJ DN Fq=>?_
 dsimp only at hC hD ht DJ
 have Hj:=u1.sz
 have Ly:=u0.sz
 have IL:=DJ DN λb o hb _ e=>Fq b o hb e
 have DH:D<DN.objs.size:=by
  obtain⟨a,items,e,_,⟨_,ho⟩,_⟩:=At.pl.mp IL
  cases e;exact iF ho
 refine hQ _ DN tk ⟨λb o e=>Fq b o (by have:=iF e;exact gk 0xdc10cb10ba10a914d91e b s.heap.objs.size hb.objs.size h1.objs.size C rfl this Ly Hj hC) (up b o (u0.up b o e)),gk 0x9d10dc10cb10a914ab10 D DN.objs.size s.heap.objs.size hb.objs.size h1.objs.size rfl DH Ly Hj hD⟩ (ab l1 ht) ?_
 exact IL.weaken (ab Ly Hj)
theorem Bv{pos:Pos}{rs:List Dt}{P:Heap->Nat->Value->Heap->Prop}
  (DM:closureFor scope env=pure cl) (hi:EvSrc w A env G Lk iter target rs.length P) (hsz:rs.length<=sizeLine) (he:EltOk w A env G elt target scope cl P rs)
  (DK:scope.kind=.function:=by rfl) (DP:∀y∈scope.names,y.2=.local->scope.names.lookup y.1=some .local:=by decide)
  (hs:∀x,foldedSetIterable iter env x=pure x:=by intro _;rfl):
  Ev w A env G (.ListComp elt [⟨target,iter,[],0⟩] scope pos) (tN (.lst rs)):=
 (uY DM hi hsz he DK DP hs).mono λ_ _ _ h=>h.pl_lst
theorem dD(hh:A.handled=none)(hi:Ev w A env G iter (tO (.lst ds)))(ht:∀it v,letOwnedTupleGo target it v=pure ():=by intro _ _;rfl):
  EvSrc w A env G True iter target ds.length (λhc i v _=>∃d,ds[i]?=some d/\At 0 hc v d):=by
 intro s Q E g t hQ
 refine hi s _ _ g t λv h1 t1 u1 l1 DJ=>?_
 refine fL (At.lst.mp DJ) λa items Dz _ hl Dw=>?_;subst Dz
 refine hQ _ h1 _ _ u1 (Gr.refl _) l1 ?_
 have Du:=Dw.length
 rw [aU] at Du
 intro Q' E' En
 refine Src.list (s:={s with heap:=h1,toks:=t1}) hh hl ht _ _ λI fp wr St h2 tk W=>?_
 refine En I fp wr St h2 tk ?_
 rw [Du] at W
 refine⟨W.sub,W.frame,W.live,λi s Q E hi st tk hq=>W.item i s Q E hi st tk λv h' FX k l hP go=>hq v h' FX k l ?_ λVS VU DN=>?_,W.done,W.self⟩
 ·have hd:∃d,ds[i]?=some d:=⟨_,ae hi⟩
  obtain⟨d,hd⟩:=hd
  exact⟨d,hd,Dw.get (by simpa using hP) hd⟩
 ·refine go VS VU λh3 SJ k3 l3 hP3 SX=>DN h3 SJ k3 l3 ?_ SX
  have hd:∃d,ds[i]?=some d:=⟨_,ae hi⟩
  obtain⟨d,hd⟩:=hd
  exact⟨d,hd,Dw.get (by simpa using hP3) hd⟩
theorem di{P:Value->Heap->Prop}(hC:hc.objs.size<=C)(hP:∀v h,P v h->At 0 hc v d)(Ec:cenv.locals=C)
  (hk:cenv.scope.kind=.function) (hl:cenv.kindOf x=some .local):AsgOk w A (.Name x px) cenv C k hc P (λG'=>Ld cenv G' x d):=by
 intro v s Q E up cf t hv hQ
 obtain⟨⟨m,hm⟩,DO⟩:=cf
 subst Ec
 refine cJ (fh hl hm (λh' hn hs=>?_) (by rw [hk];rfl))
 have keep:∀b o,¬@Eq Nat b cenv.locals->s.heap.get? b=some o->h'.get? b=some o:=λb o hb e=>hs.extBut b o hb e
 have Jk:Up hc h':=λb o e=>keep b o (by have:=iF e;exact vB this hC) (up b o e)
 refine hQ ⟨λh=>Up hc h/\∃m,h.Ns cenv.locals m/\m x=some v,λu ⟨a,m,b,c⟩=>⟨a.trans u,m,b.keeps u,c⟩⟩ h' _ ⟨hk,λh ⟨a,m,b,c⟩=>⟨v,.inl ⟨hl,m,b,c⟩,(hP v _ hv).up (a.from _)⟩⟩
  ⟨Jk,_,hn,by simp⟩ (λh g=>g.1) ⟨⟨_,hn⟩,λj hj=>?_⟩ (λb o hb e=>keep b o (BX hb) e) (aD _)
 refine lF (DO j hj) λv' o ho hd=>?_
 exact⟨v',o,keep _ o (b6 82964980250 cenv.locals j rfl) ho,hd⟩
theorem rf{c:Nat}{P:Value->Heap->Prop}(hC:hc.objs.size<=C)(hP:∀v h,P v h->At 0 hc v d)(Ec:cenv.locals=C)
  (hk:cenv.scope.kind=.function) (hl:cenv.kindOf x=some .cell) (NE:cenv.cells.lookup x=some c) (DZ:C<c) (NA:c<=C+k):AsgOk w A (.Name x px) cenv C k hc P (λG'=>Ld cenv G' x d):=by
 intro v s Q E up cf t hv hQ
 obtain⟨⟨m,hm⟩,DO⟩:=cf
 subst Ec
 have hj:c=cenv.locals+1+(c-cenv.locals-1):=y_509 DZ
 obtain⟨v0,KH⟩:=DO (c-cenv.locals-1) (dh 0x1911a2291cba2910bc14 c cenv.locals k ((c-cenv.locals)-(1:Nat)) rfl NA hj)
 rw [<-hj] at KH
 refine cJ (wpAny_storeName_cell hk hl NE KH λh' hn hs=>?_)
 have keep:∀b o,¬@Eq Nat b c->s.heap.get? b=some o->h'.get? b=some o:=λb o hb e=>hs.extBut b o hb e
 have Jk:Up hc h':=λb o e=>keep b o (by have:=iF e;exact gk 0x1b11b22c1cba10a914c91e b hc.objs.size cenv.locals c ((c-cenv.locals)-(1:Nat)) rfl this hC hj) (up b o e)
 refine hQ ⟨λh=>Up hc h/\h.IsCell c (some v),λu ⟨a,b⟩=>⟨a.trans u,b.keeps u⟩⟩ h' s.toks ⟨hk,λh ⟨a,b⟩=>⟨v,.inr ⟨hl,c,NE,b⟩,(hP v _ hv).up (a.from _)⟩⟩
  ⟨Jk,hn⟩ (λh g=>g.1) ⟨⟨m,hm.at' λo e=>keep _ o (bX 6493312636459550 c cenv.locals ((c-cenv.locals)-(1:Nat)) rfl hj) e⟩,λj GX=>?_⟩ (λb o hb e=>keep b o (y_686 NA hb hj) e) (ag _)
 by_cases e:cenv.locals+1+j=c
 ·exact⟨some v,by have:h'.IsCell c (some v):=hn;rw [<-e] at this;exact this⟩
 ·refine lF (DO j GX) λv' o ho hd=>?_
  exact⟨v',o,keep _ o e ho,hd⟩
theorem Ld.within{G':Cx}(l:Ld env G x d)(g:G.p hc)(u:∀h,G'.p h->Up hc h)(hx:env.kindOf x=some .cell)(hk:cenv.scope.kind=.function)(hl:cenv.kindOf x=some .cell)
  (hc:cenv.cells.lookup x=env.cells.lookup x):Ld cenv G' x d:=by
 refine⟨hk,λh g'=>?_⟩
 refine ci (l.2 _ g) λv hv DJ=>?_
 refine⟨v,?_,DJ.up ((u h g').from _)⟩
 rcases hv with ⟨Et,_⟩|⟨_,c,NE,DO⟩
 ·rw [hx] at Et;cases Et
 ·exact .inr ⟨hl,c,by rw [hc];exact NE,DO.keeps (u h g')⟩
noncomputable abbrev ky(t:Stmt)(qual:Str)(EM EK:Value)(a L:Nat)(pm cd doc:Value):Env:=callEnvC (pX t qual EM EK pm cd doc) L a
noncomputable def FnAt(h:Heap)(a:Nat)(t:Stmt)(qual:Str)(EM EK:Value):Prop :=
 ∃o pm cd doc,h.get? a=some o/\o.data=.func (pX t qual EM EK pm cd doc)/\h.CodeRec cd qual
theorem FnAt.up{a:Nat}{t:Stmt}(x:FnAt h a t qual EM EK)(u:Up h h'):FnAt h' a t qual EM EK :=
 zC x λo pm cd doc e d c=>⟨o,pm,cd,doc,u _ _ e,d,c.keeps u⟩
structure Room(A:Around)(n:Nat):Prop where
 depth:A.depth+n<recursionLimit
 units:A.units+10*n<cLine
 hand:A.handled=none
theorem Room.deeper{n:Nat}(r:Room A (n+1))(env:Env):Room (A.deeper env) n:=⟨by have:=r.depth;rw [depth_deeper];exact y_70 this,by have:=r.units;rw [units_deeper];exact y_71 this,r.hand⟩
theorem Room.le{n m:Nat}(r:Room A n)(h:m<=n):Room A m:=⟨by have:=r.depth;exact y_87 this h,by have:=r.units;exact y_83 this h,r.hand⟩
theorem fy:∀(names:List (Str×NameKind)) (L:Nat) (DC:List (Str×Addr)) (n:Str) (c:Nat),(n,c)∈cellsFrom L names DC->(n,c)∈DC\/(L<=c/\c<L+nC names)
 |[],_,_,_,_,h=>.inl h
 |(x,k)::r,L,DC,n,c,h=>by
  unfold cellsFrom at h
  unfold nC
  split at h
  ·rename_i hk
   rw [if_pos hk]
   rcases fy r (L+1) _ n c h with q|q
   ·rcases aQ.mp q with q|q
    ·cases q;exact .inr ⟨ag _,b6 73453349140 L (nC r) rfl⟩
    ·exact .inl q
   ·exact .inr ⟨b6 23165209192720 L c rfl q.1,bX 0x2e2344522911b2a2914 c L (nC r) rfl q.2⟩
  ·rename_i hk
   rw [if_neg hk]
   exact fy r L DC n c h
theorem fE:∀(names:List (Str×NameKind)) (L:Nat) (DC:List (Str×Addr)),(∀p∈DC,p∈cellsFrom L names DC)/\(nC names≠0->∃n,(n,L+nC names-1)∈cellsFrom L names DC)
 |[],_,_=>⟨λ_ h=>h,λh=>absurd rfl h⟩
 |(x,k)::r,L,DC=>by
  unfold cellsFrom nC
  split
  ·obtain⟨a,b⟩:=fE r (L+1) ((x,L)::DC)
   refine⟨λp hp=>a p (az _ hp),λ_=>?_⟩
   by_cases hz:nC r=0
   ·exact⟨x,by rw [hz];exact a _ aW⟩
   ·obtain⟨n,hn⟩:=b hz
    exact⟨n,by
     have e:L+(nC r+1)-1=L+1+nC r-1:=y_470
     rw [e];exact hn⟩
  ·exact fE r L DC
theorem jO{a:Nat}{t:Stmt}{ET:List Value}{binds:List (Str×Value)}{n:Nat}
  (r:Room A (n+1)) (f:FnAt s.heap a t qual EM EK) (nl:s.heap.NoLimit)
  (D7:∀pm cd doc,bindArgs (pX t qual EM EK pm cd doc) ⟨ET,[]⟩=pure binds)
  (DK:∀x∈binds,(aZ t).names.lookup x.1=some .local\/((aZ t).names.lookup x.1=some .cell/\((cellsFrom (s.heap.objs.size+1) (aZ t).names []).lookup x.1).isSome=true))
  (LG:((cellsFrom 0 (aZ t).names []).map (·.1)).Nodup)
  (h:∀pm cd doc C' env,env=ky t qual EM EK a s.heap.objs.size pm cd doc->Gr s.heap C'.heap->s.toks<=C'.toks->C'={s with heap:=C'.heap,toks:=C'.toks}->Room (A.deeper env) n ->
   Fm s.heap env (s.heap.objs.size+1+nC (aZ t).names) (bindL env.kindOf binds λ_=>none) (bindC env.kindOf binds λ_=>none) C'.heap ->
   (∃b,OwnB env b/\s.heap.objs.size+1+nC (aZ t).names<=b+1) ->
   ∀E,wpAny (model prog w) (A.deeper env) (execs (gR t) env) (λf s'=>Q (match f with|.ret v=>v|_=>.none) s') E C')
  (F5:(aZ t).isCoroutine=false:=by rfl) (EV:(aZ t).isGenerator=false:=by rfl) (hk:(aZ t).kind=.function:=by rfl):
  wpAny (model prog w) A (call (.ref a) ET) Q E s:=by
 refine zC (f) λo pm cd doc ho hd Gu=>?_
 refine cw (gZ (by have:=r.depth;exact vE this) ho hd F5 EV rfl Gu ?_)
 rw [D7 pm cd doc]
 show wpAny _ _ (pure binds) _ _ _
 refine ai (cz (ag s.toks) (d5 hk DK λenv he C' x DU=>?_))
 refine⟨nl.keeps x.toInCall.keep,codeAny_func ?_⟩
 have HO:∀L:Nat,((cellsFrom L (aZ t).names []).map (·.1)).Nodup:=λL=>by rw [eJ _ L 0 [] [] rfl];exact LG
 have fm:=Fm.ofCall x λn c hm=>gv (he▸HO _) n c hm
 have hsz:s.heap.objs.size<=C'.heap.objs.size:=aJ (bU x.toInCall.fresh (wh x.toInCall.ns))
 have hs:=x.toInCall.same
 have hL:@Eq Nat env.locals s.heap.objs.size:=by rw [he];rfl
 have Er:env.cells=cellsFrom (s.heap.objs.size+1) (aZ t).names []:=by rw [he];rfl
 have D4:∀b,OwnB env b->b<s.heap.objs.size+1+nC (aZ t).names:=by
  rintro b (q|⟨n,hm⟩)
  ·exact dh 0x174315231911b22914 b env.locals s.heap.objs.size (nC (aZ t).names) rfl q hL
  ·rw [Er] at hm
   rcases fy _ _ _ n b hm with q|q
   ·cases q
   ·exact q.2
 have FT:∃b,OwnB env b/\s.heap.objs.size+1+nC (aZ t).names<=b+1:=by
  by_cases hz:nC (aZ t).names=0
  ·exact⟨env.locals,.inl rfl,bX 0x2e870064622345311b2210 (nC (aZ t).names) env.locals s.heap.objs.size rfl hz hL⟩
  ·obtain⟨n,hn⟩:=(fE (aZ t).names (s.heap.objs.size+1) []).2 hz
   exact⟨_,.inr ⟨n,Er▸hn⟩,AJ⟩
 exact bb (h pm cd doc C' env he ⟨x.toInCall.keep,hsz⟩ DU (by obtain⟨h1,tk,rfl⟩:=hs;rfl) (r.deeper env) {fm with own:=D4} FT _) (λf s' hq=>hq) λ_ _ e=>e
section
open PySem.AutoSeq1 (wpAny_loadPart')
open MeetsSeq MeetsSeq2 MeetsSeq3 SeqRoads2 SeqAt
noncomputable def fg:List Int->List Int->Bool
 |a::as,b::bs=>if a=b then fg as bs else decide (a<b)
 |[],_::_=>true
 |_,[]=>false
section
variable{a b:Int}{as bs:List Int}
theorem lxc:fg (a::as) (b::bs)=if a=b then fg as bs else decide (a<b):=rfl
theorem lxl:fg [] (b::bs)=true:=rfl
theorem lxn:fg [] []=false:=rfl
theorem lxr:fg (a::as) []=false:=rfl
end
inductive IA:List Value->List Int->Prop where
 |nil:IA [] []
 |cons {t:Tok} {i:Int} {vs ns}:IA vs ns->IA (.int i t::vs) (i::ns)
theorem IA.length{vs ns}(x:IA vs ns):vs.length=ns.length:=by induction x<;>simp [*]
theorem CG{prog:Program}{g:Array GenState}{d:Drawn}{tk:Nat}{os:OsState}{a b:Int}{t u:Tok}(hq:Q (.bool (decide (a<b))) ⟨h,g,d,tk,os⟩):
 wpAny (model prog w) A (richCompare .Lt (.int a t) (.int b u)) Q E ⟨h,g,d,tk,os⟩:=lV hq
theorem CH{prog:Program}{g:Array GenState}{d:Drawn}{tk:Nat}{os:OsState}{a b:Int}{t u:Tok}(hq:Q (.bool (decide (a>b))) ⟨h,g,d,tk,os⟩):
 wpAny (model prog w) A (richCompare .Gt (.int a t) (.int b u)) Q E ⟨h,g,d,tk,os⟩:=PySem.P.gt_int hq
set_option tactic.hygienic true in
theorem vJ(l b:Addr)(items Dx:Array Value)(n n2:Nat)(dd HD:Option Addr)(sl Eu:Array (Option Value))(ns ms:List Int)(h1:IA items.toList ns)(h2:IA Dx.toList ms)(Du:ns.length=ms.length):
  Meets (Builtin.«tuple.__lt__» ⟨[.ref l,.ref b],[]⟩)
   (λA R s=>s.heap.get? l=some {cls:=.type "tuple",dict:=dd,data:=.seq items n,slots:=sl}/\s.heap.get? b=some {cls:=.type "tuple",dict:=HD,data:=.seq Dx n2,slots:=Eu} /\
    R (.ok (.ret (.bool (fg ns ms)))) s):=
 .of_wp λprog w A R s h=>by
  obtain⟨hp,g,d,tk,os⟩:=s;obtain⟨hl,hb,h⟩:=h
  have f2:=jS
  have hsz:items.size=Dx.size:=by have e1:=h1.length;have e2:=h2.length;rw [aU] at e1 e2;exact sW e1 e2 Du
  wp_walk using dL hl,dL hb,wpAny_forIn_list _ (λrest b s'=>b.1=none/\s'=⟨hp,g,d,tk,os⟩/\∃v1 v2 Ht Hu,rest=v1.zip v2/\IA v1 Ht/\IA v2 Hu/\Ht.length=Hu.length /\
   R (.ok (.ret (.bool (fg Ht Hu)))) ⟨hp,g,d,tk,os⟩) _
  case turn =>
   rintro⟨y,x⟩ rest b s' ⟨Em,rfl,v1,v2,Ht,Hu,hz,i1,i2,Et,hR⟩
   cases i1 with
   |nil=>simp at hz
   |cons i1 =>
    cases i2 with
    |nil=>simp at hz
    |cons i2 =>
     rename_i t1 a1 w1 k1 t2 a2 w2 k2
     simp only [List.zip_cons_cons,k7,iq] at hz
     obtain⟨⟨rfl,rfl⟩,rfl⟩:=hz
     refine aa (hZ ?_)
     simp only [lxc,lxl,lxn,lxr] at hR
     by_cases E1:a1=a2
     ·rw [if_pos E1] at hR
      have hq:(a1==a2)=true:=by simp [E1]
      rw [hq]
      wp_walk
      exact⟨rfl,rfl,w1,w2,k1,k2,rfl,i1,i2,by simpa using Et,hR⟩
     ·rw [if_neg E1] at hR
      have hq:(a1==a2)=false:=by simp [E1]
      rw [hq]
      wp_walk using CG
      exact⟨_,rfl,hR⟩
  case fin =>
   rintro⟨b1,b2⟩ s' ⟨Em,rfl,v1,v2,Ht,Hu,hz,i1,i2,Et,hR⟩
   simp only at Em
   subst Em
   have O7:R (.ok (.ret (.bool false))) ⟨hp,g,d,tk,os⟩:=by
    cases i1 with
    |nil =>
     cases i2 with
     |nil=>exact hR
     |cons _=>simp at Et
    |cons _ =>
     cases i2 with
     |nil=>simp at Et
     |cons _=>simp at hz
   wp_walk
   exact⟨_,rfl,by simpa [gS,hsz] using O7⟩
  case h =>
   exact⟨rfl,rfl,items.toList,Dx.toList,ns,ms,rfl,h1,h2,Du,h⟩
noncomputable def lM:List Int->List Int->Bool
 |a::as,b::bs=>if a=b then lM as bs else decide (a>b)
 |_::_,[]=>true
 |[],_=>false
section
variable{a b:Int}{as bs:List Int}
theorem lgc:lM (a::as) (b::bs)=if a=b then lM as bs else decide (a>b):=rfl
theorem lgl:lM (a::as) []=true:=rfl
theorem lgn:lM [] []=false:=rfl
theorem lgr:lM [] (b::bs)=false:=rfl
end
set_option tactic.hygienic true in
theorem vK(l b:Addr)(items Dx:Array Value)(n n2:Nat)(dd HD:Option Addr)(sl Eu:Array (Option Value))(ns ms:List Int)(h1:IA items.toList ns)(h2:IA Dx.toList ms)(Du:ns.length=ms.length):
  Meets (Builtin.«tuple.__gt__» ⟨[.ref l,.ref b],[]⟩)
   (λA R s=>s.heap.get? l=some {cls:=.type "tuple",dict:=dd,data:=.seq items n,slots:=sl}/\s.heap.get? b=some {cls:=.type "tuple",dict:=HD,data:=.seq Dx n2,slots:=Eu} /\
    R (.ok (.ret (.bool (lM ns ms)))) s):=
 .of_wp λprog w A R s h=>by
  obtain⟨hp,g,d,tk,os⟩:=s;obtain⟨hl,hb,h⟩:=h
  have f2:=jS
  have hsz:items.size=Dx.size:=by have e1:=h1.length;have e2:=h2.length;rw [aU] at e1 e2;exact sW e1 e2 Du
  wp_walk using dL hl,dL hb,wpAny_forIn_list _ (λrest b s'=>b.1=none/\s'=⟨hp,g,d,tk,os⟩/\∃v1 v2 Ht Hu,rest=v1.zip v2/\IA v1 Ht/\IA v2 Hu/\Ht.length=Hu.length /\
   R (.ok (.ret (.bool (lM Ht Hu)))) ⟨hp,g,d,tk,os⟩) _
  case turn =>
   rintro⟨y,x⟩ rest b s' ⟨Em,rfl,v1,v2,Ht,Hu,hz,i1,i2,Et,hR⟩
   cases i1 with
   |nil=>simp at hz
   |cons i1 =>
    cases i2 with
    |nil=>simp at hz
    |cons i2 =>
     rename_i t1 a1 w1 k1 t2 a2 w2 k2
     simp only [List.zip_cons_cons,k7,iq] at hz
     obtain⟨⟨rfl,rfl⟩,rfl⟩:=hz
     refine aa (hZ ?_)
     simp only [lgc,lgl,lgn,lgr] at hR
     by_cases E1:a1=a2
     ·rw [if_pos E1] at hR
      have hq:(a1==a2)=true:=by simp [E1]
      rw [hq]
      wp_walk
      exact⟨rfl,rfl,w1,w2,k1,k2,rfl,i1,i2,by simpa using Et,hR⟩
     ·rw [if_neg E1] at hR
      have hq:(a1==a2)=false:=by simp [E1]
      rw [hq]
      wp_walk using CH
      exact⟨_,rfl,hR⟩
  case fin =>
   rintro⟨b1,b2⟩ s' ⟨Em,rfl,v1,v2,Ht,Hu,hz,i1,i2,Et,hR⟩
   simp only at Em
   subst Em
   have O7:R (.ok (.ret (.bool false))) ⟨hp,g,d,tk,os⟩:=by
    cases i1 with
    |nil =>
     cases i2 with
     |nil=>exact hR
     |cons _=>simp at Et
    |cons _ =>
     cases i2 with
     |nil=>simp at Et
     |cons _=>simp at hz
   wp_walk
   exact⟨_,rfl,by simpa [gS,hsz] using O7⟩
  case h =>
   exact⟨rfl,rfl,items.toList,Dx.toList,ns,ms,rfl,h1,h2,Du,h⟩
section
variable{prog:Program}
theorem rT{l b:Addr}{ns:List Int}(hl:s.heap.IsTuple l items)(hb:s.heap.IsTuple b Dx)(h1:IA items.toList ns)(h2:IA Dx.toList ms)(Du:ns.length=ms.length)(hu:A.units<cLine)
  (h:Q (.bool (fg ns ms)) s):wpAny (model prog w) A (compareOp .Lt (.ref l) (.ref b)) Q E s:=by
 obtain⟨⟨cls,dd,data,sl⟩,ho,hc,n,hd⟩:=id hl
 obtain⟨⟨Km,HD,data2,Eu⟩,Fb,Gv,n2,Fs⟩:=id hb
 simp only at hc hd Gv Fs
 subst hc hd Gv Fs
 exact richCompare_meets_room (op:=.Lt) ⟨_,ho,rfl⟩ ⟨_,Fb,rfl⟩ F.slot_tuple_lt F.entry_tuple_lt (F.args_tuple_lt_2 _ _) (vJ l b items Dx n n2 dd HD sl Eu ns ms h1 h2 Du)
  ⟨ho,Fb,show Value.bool (fg ns ms)≠Value.notImplemented/\Q (.bool (fg ns ms)) s from⟨(λx=>nomatch x),h⟩⟩ hu
theorem xD{l b:Addr}{ns:List Int}(hl:s.heap.IsTuple l items)(hb:s.heap.IsTuple b Dx)(h1:IA items.toList ns)(h2:IA Dx.toList ms)(Du:ns.length=ms.length)(hu:A.units<cLine)
  (h:Q (.bool (lM ns ms)) s):wpAny (model prog w) A (compareOp .Gt (.ref l) (.ref b)) Q E s:=by
 obtain⟨⟨cls,dd,data,sl⟩,ho,hc,n,hd⟩:=id hl
 obtain⟨⟨Km,HD,data2,Eu⟩,Fb,Gv,n2,Fs⟩:=id hb
 simp only at hc hd Gv Fs
 subst hc hd Gv Fs
 exact richCompare_meets_room (op:=.Gt) ⟨_,ho,rfl⟩ ⟨_,Fb,rfl⟩ F.slot_tuple_gt F.entry_tuple_gt (F.args_tuple_gt_2 _ _) (vK l b items Dx n n2 dd HD sl Eu ns ms h1 h2 Du)
  ⟨ho,Fb,show Value.bool (lM ns ms)≠Value.notImplemented/\Q (.bool (lM ns ms)) s from⟨(λx=>nomatch x),h⟩⟩ hu
end
end
noncomputable def CmH(w:World)(A:Around)(op:CmpOp)(da db:Dt)(b:Bool):Prop :=
 ∀(s:Shared) (va vb:Value) (Q:Value->Shared->Prop) (E:Value->Shared->Prop),0<s.toks->At 0 s.heap va da->At 0 s.heap vb db->Q (.bool b) s->wpAny (model prog w) A (compareOp op va vb) Q E s
theorem qK{a b:Expr}{op:CmpOp}{pos:Pos}{da db:Dt}{r:Bool}(ho:CmH w A op da db r)(ha:Ev w A env G a (tO da))(hb:Ev w A env G b (tO db))
  (hm:behindInMarks op b=false:=by with_unfolding_all rfl):
  Ev w A env G (.Compare a [op] [b] pos) (tV (pB r)):=by
 intro s Q E g t hQ
 refine wpAny_Compare1 (ha s _ _ g t λva h1 t1 u1 l1 Dv=>?_) hm
 refine hb _ _ _ (G.up u1.up g) (ad t l1) λvb h2 t2 u2 l2 DD=>?_
 refine ho _ va vb _ _ (ad t (ab l1 l2)) (Dv.up (u2.up.from _)) DD ?_
 exact hQ _ h2 t2 (u1.trans u2) (ab l1 l2) rfl
theorem iS{a b:Expr}{op:CmpOp}{pos:Pos}{da db:Dt}{r:Bool}(ho:CmH w A op da db r)(ha:Ev w A env G a (tO da))(hb:Ev w A env G b (tO db))
  (hm:behindInMarks op b=false:=by with_unfolding_all rfl):
  EvT w A env G (.Compare a [op] [b] pos) r:=by
 intro s Q E g t hQ
 refine gY (ha s _ _ g t λva h1 t1 u1 l1 Dv=>?_) hm
 refine hb _ _ _ (G.up u1.up g) (ad t l1) λvb h2 t2 u2 l2 DD=>?_
 refine ho _ va vb _ _ (ad t (ab l1 l2)) (Dv.up (u2.up.from _)) DD (dq ?_)
 exact hQ h2 t2 (u1.trans u2) (ab l1 l2)
theorem d8(rs:List Dt)(cl:List (Str×Addr))(P:Heap->Nat->Value->Heap->Prop){pos:Pos}
 (hsz:rs.length<=sizeLine) (hi:EvSrc w A env G Lk iter target rs.length P) (he:EltOk w A env G elt target scope cl P rs)
 (DM:closureFor scope env=pure cl)
 (DK:scope.kind=.function) (DP:∀y∈scope.names,y.2=.local->scope.names.lookup y.1=some .local)
 (hs:∀x,foldedSetIterable iter env x=pure x):
 Ev w A env G (.ListComp elt [⟨target,iter,[],0⟩] scope pos) (tN (.lst rs)):=Bv DM hi hsz he DK DP hs
theorem xQ(rs:List Dt)(cl:List (Str×Addr))(P:Heap->Nat->Value->Heap->Prop){pos:Pos}
 (hsz:rs.length<=sizeLine) (hi:EvSrc w A env G Lk iter target rs.length P) (he:EltOk w A env G elt target scope cl P rs)
 (DM:closureFor scope env=pure cl)
 (DK:scope.kind=.function) (DP:∀y∈scope.names,y.2=.local->scope.names.lookup y.1=some .local)
 (hs:∀x,foldedSetIterable iter env x=pure x):
 Ev w A env G (.ListComp elt [⟨target,iter,[],0⟩] scope pos) (tN (.pl rs)):=uY DM hi hsz he DK DP hs
theorem Ev.run{T:TT}(x:Ev w A env G e T)(g:G.p s.heap)(t:0<s.toks)
 (h:∀v h' t',Gr s.heap h'->s.toks<=t'->T s.heap.objs.size h' v->Q v {s with heap:=h',toks:=t'}):wpAny (model prog w) A (eval e env) Q E s:=x s Q E g t h
noncomputable abbrev tI(ns:List Int):Dt:=.tup (ns.map .int)
theorem IA.of:∀{vs:List Value} {ns:List Int},AtAll lo h vs (ns.map .int)->IA vs ns
 |[],[],_=>.nil
 |v::vs,i::ns,x=>by
  obtain⟨⟨t,_,rfl⟩,r⟩:=And.imp_left At_int.mp x
  exact .cons (IA.of r)
 |[],_::_,x=>by simp only [ir,aN,aC,aL,aR] at x
 |_::_,[],x=>by simp only [List.map_nil,aN,aC,aL,aR] at x
theorem Dm(hu:A.units<cLine)(ns ms:List Int)(h:ns.length=ms.length):CmH w A .Gt (tI ns) (tI ms) (lM ns ms):=by
 intro s va vb Q E ht ha hb hQ
 refine fL (At.tup.mp ha) λa items Dz _ hl Dw=>?_;subst Dz
 refine fL (At.tup.mp hb) λb Dx Dz _ Ej DG=>?_;subst Dz
 exact xD hl Ej (IA.of Dw) (IA.of DG) h hu hQ
theorem Dk(hu:A.units<cLine)(ns ms:List Int)(h:ns.length=ms.length):CmH w A .Lt (tI ns) (tI ms) (fg ns ms):=by
 intro s va vb Q E ht ha hb hQ
 refine fL (At.tup.mp ha) λa items Dz _ hl Dw=>?_;subst Dz
 refine fL (At.tup.mp hb) λb Dx Dz _ Ej DG=>?_;subst Dz
 exact rT hl Ej (IA.of Dw) (IA.of DG) h hu hQ
noncomputable def nF(told:List (List Int)):List (List Int):=told.map λh=>told.map λt=>b2i (lM h t)-b2i (fg h t)
noncomputable abbrev mO(l:List (List Int)):Dt:=.lst (l.map tI)
noncomputable abbrev sP(l:List (List Int)):Dt:=.lst (l.map λr=>.lst (r.map .int))
noncomputable abbrev uj(l:List (List Int)):Dt:=.lst (l.map λr=>.pl (r.map .int))
theorem mW{v:Value}{m:List (List Int)}(x:At lo h v (uj m)):At lo h v (sP m):=by
 refine fL (At.lst.mp x) λa items e hl hp r=>?_
 have Du:=r.length
 refine At.lst.mpr ⟨a,items,e,hl,hp,AtAll.of_get (by simpa using Du) λi v d hv hd=>?_⟩
 rw [ah,aq] at hd
 refine ci (hd) λrow hr Dz=>?_;subst Dz
 exact(r.get hv (by rw [ah,hr];rfl)).pl_lst
theorem De{v:Value}{told:List (List Int)}(r:Room A 3)(f:FnAt s.heap 328 (st 23) "_law_due" .none .none)(nl:s.heap.NoLimit)(t:0<s.toks)
  (hv:At 0 s.heap v (mO told)) (hk:∀l∈told,l.length=k) (hsz:told.length<=sizeLine)
  (hQ:∀v h' t',Gr s.heap h'->s.toks<=t'->At s.heap.objs.size h' v (sP (nF told))->Q v {s with heap:=h',toks:=t'}):
  wpAny (model prog w) A (call (.ref 328) [v]) Q E s:=by
 refine jO (n:=2) r f nl (binds:=[("told",v)]) (λ_ _ _=>rfl) (fQ (.inr ⟨rfl,rfl⟩) lS) (by decide) λpm cd doc C' env he gr tk hs ro fm _ E=>?_
 subst he
 generalize hh:s.heap.objs.size=L at *
 refine au (cL ?_)
 have Ov:At 0 C'.heap v (mO told):=hv.up (gr.up.from _)
 let G:Cx:=⟨λh=>Up C'.heap h,λu x=>x.trans u⟩
 have ld:Ld (ky (st 23) "_law_due" .none .none 328 L pm cd doc) G "told" (mO told):=⟨rfl,λh u=>⟨v,.inr ⟨rfl,L+1,rfl,(fm.cell "told" (L+1) rfl).keeps u⟩,Ov.up (u.from _)⟩⟩
 have hu:=bU (cI _ _) ro.units
 have Vi:0<C'.toks:=ad t tk
 refine Ev.run (G:=G) (T:=tN (sP (nF told))) ?_ (Up.refl _) Vi λv' h' t' Vl FX DJ=>?_
 ·refine d8 (Lk:=True) ((nF told).map λr=>.lst (r.map .int)) [("told",L+1)] (λhc i v _=>∃d,(told.map tI)[i]?=some d/\At 0 hc v d) (by simpa [nF] using hsz) ?_ ?_ (by rfl) (by rfl) (by decide) (by intro _;rfl)
  ·rw [show ((nF told).map λr=>Dt.lst (r.map .int)).length=(told.map tI).length by simp [nF]]
   exact dD ro.hand (an ld)
  ·intro C hc i r hr gp hC
   simp only [nF,aP,ah,aq,bM] at hr
   refine ci (hr) λhd LL Dz=>?_;subst Dz
   refine⟨_,rf (d:=tI hd) (c:=C+1) hC (λv h z9=>ci z9 λd D1 DJ=>?_) rfl rfl rfl rfl (bo _) (ag _),λG' good up=>?_⟩
   ·rw [ah,LL] at D1;cases D1;exact DJ
   ·refine d8 (Lk:=True) (told.map λt=>.int (b2i (lM hd t)-b2i (fg hd t))) [("here",C+1)] (λhc i v _=>∃d,(told.map tI)[i]?=some d/\At 0 hc v d) (by simpa using hsz) ?_ ?_ (by rfl) (by rfl) (by decide) (by intro _;rfl)
    ·rw [show (told.map λt=>Dt.int (b2i (lM hd t)-b2i (fg hd t))).length=(told.map tI).length by simp]
     exact dD ro.hand (an (ld.within gp up rfl rfl rfl rfl))
    ·intro C2 Gv i2 r2 Hw HC LU
     simp only [ah,aq] at Hw
     refine ci (Hw) λth Ls Dz=>?_;subst Dz
     refine⟨_,di (d:=tI th) LU (λv h z9=>ci z9 λd D1 DJ=>?_) rfl rfl rfl,λG2 Fn Gd=>?_⟩
     ·rw [ah,Ls] at D1;cases D1;exact DJ
     ·have hl:hd.length=th.length:=by rw [hk _ (aF LL),hk _ (aF Ls)]
      exact(bH (tH _ _) (qK (Dm hu _ _ hl) (an (by exact good.within HC Gd rfl rfl rfl rfl)) (an Fn)) (qK (Dk hu _ _ hl) (an (by exact good.within HC Gd rfl rfl rfl rfl)) (an Fn))).nint
 ·refine hs▸hQ v' h' t' (gr.trans Vl) (ab tk FX) (DJ.weaken (hh▸gr.sz))
theorem It.mono'{n:Nat}{P P':Nat->Value->Heap->Prop}(W:It w A target I fp wr n P St)(h:∀i v h,i<n->P i v h->P' i v h):It w A target I fp wr n P' St where
 sub:=W.sub
 frame:=W.frame
 live:=W.live
 item:=λi s Q E hi st tk hQ=>W.item i s Q E hi st tk λv h' FX k l p go=>hQ v h' FX k l (h _ _ _ hi p) λQ' E' En=>go Q' E' λDN ID k' l' p' EQ=>En DN ID k' l' (h _ _ _ hi p') EQ
 done:=W.done
 self:=W.self
theorem It.range(hh:A.handled=none)(ht:∀it v,letOwnedTupleGo target it v=pure ())(I:Nat)(a:Int)(n:Nat):
  It w A target I [I] [I] n (λi v _=>pI (a+i) v) (λi h=>IsRangeIter h I (a+(i:Nat)*1) ((n:Int)-(i:Nat)) 1) where
 sub:=λ_ hb=>hb
 frame:=λ_ _ _ st hk=>hk I (by simp) _ st
 live:=λi h st b hb=>by rw [ak.mp hb];exact⟨_,st⟩
 item:=λi s Q E hi st tk hQ=>by
  refine wpAny_pyNext_range_item st (b6 0xa91497a730115 i n rfl hi) λh' EO Hv=>?_
  have e1:a+((i+1:Nat):Int)*1=a+(i:Int)*1+1:=y_460
  have e2:(n:Int)-((i+1:Nat):Int)=(n:Int)-(i:Int)-1:=y_482
  refine hQ _ h' _ (λb o hb e=>Hv.extBut b o (λh=>hb (by simp [h])) e) (aD _) ⟨_,aB tk,by rw [lX]⟩ λQ' E' En=>?_
  rw [ht]
  exact ai (En h' _ (λ_ _ _ e=>e) (ag _) ⟨_,aB tk,by rw [lX]⟩ (by rw [e1,e2];exact EO))
 done:=λs Q E st hQ=>wpAny_pyNext_range_end hh st (cN 1676049 ((n:Nat):Int) rfl) λh' Jz=>hQ h' s.toks (λb o hb e=>Jz b o (λh=>hb (by simp [h])) e) (ag _)
 self:=λ_ _ _ _ st hQ=>wpAny_pyIter_rangeiter st hQ
theorem It.listT(hh:A.handled=none){pos:Pos}(I ax:Nat)(DY:ax≠I)(items:Array Value)(hT:∀v∈items.toList,∃T,v=.ref T):
  It w A (.Tuple elts k pos) I [I,ax] [I] items.size (λi v _=>items[i]?=some v) (λi h=>h.IsListIter I ax i/\h.IsList ax items) where
 sub:=(ib (prog:=prog) (w:=w) hh I ax DY items).sub
 frame:=(ib (prog:=prog) (w:=w) hh I ax DY items).frame
 live:=λi h st b hb=>by rw [ak.mp hb];obtain⟨⟨o,ho,_⟩,_⟩:=st;exact⟨o,ho⟩
 item:=λi s Q E hi st _ hQ=>cz (ag s.toks) ((ib (prog:=prog) hh I ax DY items).item i s _ _ hi st λv h' tk hP EQ hk DU=>hQ v h' tk hk DU hP λQ' E' En=>by
  obtain⟨T,rfl⟩:=hT v (by obtain⟨hi,e⟩:=bF.mp hP;rw [<-e,<-Array.mem_def];exact Array.getElem_mem hi)
  exact hY EQ.1 (En h' tk (λ_ _ _ e=>e) (ag _) hP EQ))
 done:=λs Q E st hQ=>cz (ag s.toks) ((ib (prog:=prog) hh I ax DY items).done s _ _ st λh' tk hk DU=>hQ h' tk hk DU)
 self:=(ib (prog:=prog) (w:=w) hh I ax DY items).self
theorem It.enum(hh:A.handled=none){pos:Pos}(e it l:Nat)(GZ:e≠it)(E0:l≠e)(Fc:l≠it)(items:Array Value):
  It w A (.Tuple elts k pos) e [e,it,l] [e,it] items.size
   (λi v h=>∃T t x,v=.ref T/\t≠0/\items[i]?=some x/\h.IsTuple T #[.int i t,x])
   (λi h=>(∃old,IsEnum h e it i old)/\h.IsListIter it l i/\h.IsList l items) where
 sub:=(c9 (prog:=prog) (w:=w) hh e it l GZ E0 Fc items).sub
 frame:=(c9 (prog:=prog) (w:=w) hh e it l GZ E0 Fc items).frame
 live:=λi h st b hb=>by
  obtain⟨⟨old,he⟩,⟨o,ho,_⟩,_⟩:=st
  simp at hb
  rcases hb with rfl|rfl
  ·exact⟨_,he⟩
  ·exact⟨o,ho⟩
 item:=λi s Q E hi Ey tk hQ=>by
  have W:=c9 (prog:=prog) (w:=w) hh e it l GZ E0 Fc items
  obtain⟨⟨old,he⟩,hit,hl⟩:=Ey
  have hx:items[i]?=some items[i]:=aY hi
  refine kL he hit hl hx GZ λh' ho EO hT hsz hk=>?_
  have J9:e<s.heap.objs.size:=aX he
  have J7:it<s.heap.objs.size:=by obtain⟨_,x,_⟩:=hit;exact aX x
  have DQ:h'.IsTuple s.heap.objs.size #[.int i s.toks,items[i]]:=⟨_,hT,rfl,_,rfl⟩
  refine hQ (.ref s.heap.objs.size) h' (s.toks+1) (λb o hb x=>hk b o (λe'=>hb (by simp [e'])) (λe'=>hb (by simp [e'])) x) (aD _) ⟨_,_,_,rfl,aB tk,hx,DQ⟩ λQ' E' En=>?_
  have mid:(∃x,IsEnumOut h' e it ((i:Int)+1) x s.heap.objs.size)/\h'.IsListIter it l (i+1)/\h'.IsList l items/\s.heap.objs.size≠e/\s.heap.objs.size≠it:=⟨⟨_,ho⟩,EO,hl.at λo x=>hk l o E0 Fc x,aB J9,aB J7⟩
  exact W.go elts k pos i s.heap.objs.size _ _ _ mid λDN HH Fq=>En DN (s.toks+1) Fq (ag _) ⟨_,_,_,rfl,aB tk,hx,DQ.at λo x=>Fq _ o (W.apart i _ _ mid) x⟩ HH
 done:=λs Q E st hQ=>cz (ag s.toks) ((c9 hh e it l GZ E0 Fc items).done s _ _ st λh' tk hk DU=>hQ h' tk hk DU)
 self:=(c9 hh e it l GZ E0 Fc items).self
theorem It.ofT{pos:Pos}{n:Nat}{Pt:Nat->Array Value->Prop}{VT:Nat->Addr->Heap->Prop}(W:WalksT prog w A I fp wr n Pt St VT)
  (hl:∀i h,St i h->∀b∈wr,∃o,h.get? b=some o):
  It w A (.Tuple elts k pos) I fp wr n (λi v h=>∃T ET,v=.ref T/\Pt i ET/\h.IsTuple T ET) St where
 sub:=W.sub
 frame:=W.frame
 live:=hl
 item:=λi s Q E hi st _ hQ=>cz (ag s.toks) (W.item i s _ _ hi st λT ET h' tk hP hT DQ mid hk DU=>hQ (.ref T) h' tk hk DU ⟨T,ET,rfl,hP,DQ⟩ λQ' E' En =>
  W.go elts k pos i T _ _ _ mid λDN HH Fq=>En DN tk Fq (ag _) ⟨T,ET,rfl,hP,DQ.at λo x=>Fq _ o (W.apart i _ _ mid) x⟩ HH)
 done:=λs Q E st hQ=>cz (ag s.toks) (W.done s _ _ st λh' tk hk DU=>hQ h' tk hk DU)
 self:=W.self
theorem Bn{n:Nat}{P:Nat->Value->Heap->Prop}
  (W:It w A target I fp wr n P St) (J:Nat->Shared->Prop) (hJ:J 0 s) (Ey:St 0 s.heap)
  (Ea:∀i s,J i s->0<s.toks)
  (Ep:∀i s h' t',J i s->(∀b o,b∉wr->s.heap.get? b=some o->h'.get? b=some o)->s.toks<=t'->(∀b∈wr,∃o,s.heap.get? b=some o)->J i {s with heap:=h',toks:=t'})
  (turn:∀i v C' E,i<n->J i C'->P i v C'.heap->St (i+1) C'.heap->wpAny (model prog w) A (assign target env v) (λ_ Ds=>wpAny (model prog w) A (execs body env) (λf s3=>match f with
   |.next|.cont=>J (i+1) s3/\(∀b∈fp,∀o,C'.heap.get? b=some o->s3.heap.get? b=some o)
   |.brk=>R (.ok .next) s3
   |.ret v=>R (.ok (.ret v)) s3) E Ds) E C')
  (EW:∀s,J n s->R (.ok .next) s):
  codeAny (model prog w) A (.forLoop target (.ref I) body [] env) R s:=by
 refine iP (λm s=>∃i,m=n+1-i/\i<=n/\J i s/\St i s.heap) ?_ (n+1) ⟨0,rfl,bY _,hJ,Ey⟩
 rintro m s ⟨i,rfl,hi,j,st⟩
 by_cases DH:i<n
 ·refine W.item i s _ _ DH st (Ea i s j) λv h' tk k t p go=>?_
  refine go _ _ λDN FX k' t' p' EQ=>?_
  have j':J i {s with heap:=DN,toks:=FX}:=Ep i s DN FX j (λb o hb e=>k' b o hb (k b o hb e)) (ab t t') (W.live i _ st)
  refine bb (turn i v {s with heap:=DN,toks:=FX} (notedBy (model prog w) A env λe s'=>R (.error e) s') DH j' p' EQ) (λ_ Ds h2=>bb h2 (λf s3 h3=>?_) λ_ _ x=>x) λ_ _ x=>x
  cases f with
  |next=>exact⟨n+1-(i+1),y_91 DH,i+1,rfl,DH,h3.1,W.frame _ _ _ EQ h3.2⟩
  |cont=>exact⟨n+1-(i+1),y_91 DH,i+1,rfl,DH,h3.1,W.frame _ _ _ EQ h3.2⟩
  |brk=>exact h3
  |ret v=>exact h3
 ·have Eg:i=n:=vC hi DH
  subst Eg
  refine W.done s _ _ st λh' tk k t=>aH (EW _ (Ep i s h' tk j k t (W.live i _ st)))
noncomputable def GV(h:Heap)(x:Str)(v:Value):Prop:=(∃mg,h.Ns 3 mg/\mg x=some v)\/(∃mg mb,h.Ns 3 mg/\mg x=none/\h.Ns 0 mb/\mb x=some v)
theorem GV.up{v:Value}(g:GV h x v)(u:Up h h'):GV h' x v:=by
 rcases g with ⟨mg,a,b⟩|⟨mg,mb,a,b,c,d⟩
 ·exact .inl ⟨mg,a.keeps u,b⟩
 ·exact .inr ⟨mg,mb,a.keeps u,b,c.keeps u,d⟩
structure Gl(env:Env)(G:Cx)(x:Str)(v:Value):Prop where
 k:env.scope.kind=.function
 i:env.kindOf x=some .globalImplicit
 g:env.globals=3
 b:env.builtins=0
 v:∀h,G.p h->GV h x v
 d:(x==("__debug__":Str))=false
theorem cC{v:Value}{pos:Pos}(l:Gl env G x v)(g:G.p s.heap)(hQ:Q v s):wpAny (model prog w) A (eval (.Name x pos) env) Q E s:=by
 rcases l.v _ g with ⟨mg,a,b⟩|⟨mg,mb,a,b,c,d⟩
 ·exact jo l.k l.i (Calls.loadGlobal_global (by rw [l.g];exact a) b hQ) l.d
 ·exact jo l.k l.i (Calls.loadGlobal_builtin (by rw [l.g];exact a) b (by rw [l.b];exact c) d hQ) l.d
theorem Src.range{hb₀:Heap}(Fg:hb₀.objs.size<=s.heap.objs.size)(ht:∀it v,letOwnedTupleGo target it v=pure ())(hh:A.handled=none){r:Nat}{a b:Int}{t u v:Tok}{n:Nat}(hr:IsRange s.heap r a b 1 t u v)(hn:(n:Int)=if a<b then b-a else 0)
  (ha:-(2^62)<=a) (R9:a<2^62) (hb:-(2^62)<=b) (Em:b<2^62):Src w A target False hb₀ s (.ref r) n (λi v _=>pI (a+i) v):=by
 intro Q E hQ
 refine wpAny_pyIter_range hr (small_one ha R9 hb Em) ?_
 have e:Builtin.Range.rangeSize a b 1=(n:Int):=by rw [rangeSize_one];exact hn.symm
 rw [e]
 refine hQ s.heap.objs.size [s.heap.objs.size] [s.heap.objs.size] _ _ s.toks (It.range hh ht s.heap.objs.size a n) ?_ (λb hb=>?_) (λb hb=>?_) (λb o e=>af _ e) (by rw [ao];exact aD _) (ag _)
 ·have e1:a+((0:Nat):Int)*1=a:=y_459
  have e2:(n:Int)-((0:Nat):Int)=n:=y_481
  rw [e1,e2];exact am _ rfl
 ·rw [ao,ak.mp hb];exact⟨bo _,.inl Fg⟩
 ·rw [ak.mp hb];exact Fg
theorem j5{pos:Pos}{N:Int}(ht:∀it v,letOwnedTupleGo target it v=pure ())(hh:A.handled=none)(l:Gl env G "range" (.type "range"))(he:Ev w A env G e (tV (pI N)))
  (hN:0<=N) (NI:N<2^62) (Eb:starEach [e] env=[(false,eval e env)]:=by rfl):
  EvSrc w A env G False (.Call (.Name "range" p) [e] [] pos) target N.toNat (λ_ i v _=>pI i v):=by
 intro s Q E g t hQ
 refine aK (cC l g ?_)
 rw [Eb]
 refine cE rfl (aE (ar (he s _ _ g t λnv h1 t1 u1 l1 Dv=>aA ?_)))
 refine ci (Dv) λtk _ Dz=>?_;subst Dz
 refine call_range_1 (hQ _ h1 _ _ u1 (Gr.push _ _) (ab l1 (ab (aD _) (aD _))) ?_)
 have:=Src.range (w:=w) (target:=target) (hb₀:=h1) (s:={s with heap:=h1.push {cls:=.type "range",data:=.fields #[.int 0 t1,.int N tk,.int 1 (t1+1)]},toks:=t1+1+1}) (Gr.push _ _).sz ht hh (n:=N.toNat) (IsRange.new ..)
  (by split<;>lia) (by decide) (by decide) (cN 0x901119400000000000000081811 N rfl hN) NI
 simpa using this
theorem vM{pos:Pos}{M N:Int}(ht:∀it v,letOwnedTupleGo target it v=pure ())(hh:A.handled=none)(l:Gl env G "range" (.type "range"))(he:Ev w A env G e (tV (pI M)))(HA:Ev w A env G e2 (tV (pI N)))
  (hM:0<=M) (hMN:M<=N) (NI:N<2^62) (Eb:starEach [e,e2] env=[(false,eval e env),(false,eval e2 env)]:=by rfl):
  EvSrc w A env G False (.Call (.Name "range" p) [e,e2] [] pos) target (N-M).toNat (λ_ i v _=>pI (M+i) v):=by
 intro s Q E g t hQ
 refine aK (cC l g ?_)
 rw [Eb]
 refine cE rfl (aE (ar (he s _ _ g t λnv h1 t1 u1 l1 Dv=>ar (HA _ _ _ (G.up u1.up g) (ad t l1) λOa h2 t2 u2 l2 DD=>aA ?_))))
 refine ci (Dv) λtk _ Dz=>?_;subst Dz
 refine ci (DD) λKu _ Dz=>?_;subst Dz
 refine call_range_2 (hQ _ h2 _ _ (u1.trans u2) (Gr.push _ _) (ab l1 (ab l2 (aD _))) ?_)
 exact Src.range (Gr.push _ _).sz ht hh (n:=(N-M).toNat) (IsRange.new ..) (by split<;>lia) (cN 0x901119400000000000000081811 M rfl hM) (y_220 NI hMN) (eW 0xa91190111a400000000000000081811 M N rfl hM hMN) NI
theorem wO(hh:A.handled=none){e1:Expr}{pos:Pos}{xs ys:List Dt}(l:Gl env G "zip" (.type "zip"))(he:Ev w A env G e1 (tO (.lst xs)))(HA:Ev w A env G e2 (tO (.lst ys)))
  (Eb:starEach [e1,e2] env=[(false,eval e1 env),(false,eval e2 env)]:=by rfl):
  EvSrc w A env G True (.Call (.Name "zip" p) [e1,e2] [] pos) (.Tuple elts k Fy) (min xs.length ys.length)
   (λhc i v h=>∃T a b x y,v=.ref T/\xs[i]?=some a/\ys[i]?=some b/\At 0 hc x a/\At 0 hc y b/\h.IsTuple T #[x,y]):=by
 intro s Q E g t hQ
 refine aK (cC l g ?_)
 rw [Eb]
 refine cE rfl (aE (ar (he s _ _ g t λnv Dy t1 u1 l1 Dv=>ar (HA _ _ _ (G.up u1.up g) (ad t l1) λOa DE t2 u2 l2 DD=>aA ?_))))
 refine fL (At.lst.mp (Dv.up (u2.up.from _))) λa1 Ed Dz _ FB E7=>?_;subst Dz
 refine fL (At.lst.mp DD) λa2 Dx Dz _ Ej DG=>?_;subst Dz
 have n1:=E7.length
 have n2:=DG.length
 rw [aU] at n1 n2
 have s1:@cA Nat _ a1 DE.objs.size:=by obtain⟨o,ho,_⟩:=FB;exact iF ho
 have s2:@cA Nat _ a2 DE.objs.size:=by obtain⟨o,ho,_⟩:=Ej;exact iF ho
 refine call_zip_2 FB Ej λh' z1 z2 z3 z4 z5 zs up=>?_
 dsimp only at z1 z2 z3 z4 z5 zs up ⊢
 refine hQ _ DE h' t2 (u1.trans u2) ⟨up,bX 799553657360 h'.objs.size DE.objs.size (5:Nat) rfl zs⟩ (ab l1 l2) λQ' E' En=>?_
 refine wpAny_pyIter_zip z1 ?_
 have D:ZipApart (DE.objs.size+4) (DE.objs.size+2) (DE.objs.size+3) DE.objs.size (DE.objs.size+1) a1 a2:=by
  constructor<;>exact neA (by lia)
 have W:=WalksT.zip2 (prog:=prog) (w:=w) hh _ _ _ _ _ _ _ D Ed Dx
 rw [n1,n2] at W
 have k1:h'.IsList a1 Ed:=FB.at (up _)
 have k2:h'.IsList a2 Dx:=Ej.at (up _)
 refine En (DE.objs.size+4) _ _ _ h' t2 ((It.ofT W λi h st b hb=>?_).mono' λi v h hi hp=>?_) ⟨z1,z2,⟨_,_,z3⟩,z4,z5,k1,k2⟩ ?_ ?_ (λb o e=>e) (ag _) (ag _)
 ·obtain⟨hz,KZ,⟨a,b',OY⟩,⟨o1,h1,_⟩,⟨o2,h2,_⟩,_,_⟩:=st
  simp at hb
  rcases hb with rfl|rfl|rfl|rfl
  ·exact⟨_,hz⟩
  ·exact⟨_,OY⟩
  ·exact⟨_,h1⟩
  ·exact⟨_,h2⟩
 ·obtain⟨T,ET,rfl,⟨x,y,hx,hy,rfl⟩,DQ⟩:=hp
  have RX:i<xs.length:=ad hi (dN _ _)
  have Ir:i<ys.length:=ad hi (kh _ _)
  exact⟨T,xs[i],ys[i],x,y,rfl,ae RX,ae Ir,(E7.get (by simpa using hx) (ae RX)),(DG.get (by simpa using hy) (ae Ir)),DQ⟩
 ·intro b hb
  simp at hb
  rcases hb with rfl|rfl|rfl|rfl|rfl|rfl|rfl
  ·exact⟨b6 0x521a291c9421a214 h'.objs.size DE.objs.size rfl zs,.inl sX⟩
  ·exact⟨b6 0x521a291c9221a214 h'.objs.size DE.objs.size rfl zs,.inl (cV 572074256 DE.objs.size rfl)⟩
  ·exact⟨b6 0x521a291c9321a214 h'.objs.size DE.objs.size rfl zs,.inl sX⟩
  ·exact⟨b6 90272312367636 h'.objs.size DE.objs.size rfl zs,.inl (ag _)⟩
  ·exact⟨b6 0xa4345239311a214 h'.objs.size DE.objs.size rfl zs,.inl (aD _)⟩
  ·exact⟨dh 0xca2b1ca914b914 b DE.objs.size h'.objs.size (5:Nat) rfl s1 zs,.inr ⟨trivial,_,FB⟩⟩
  ·exact⟨dh 0xca2b1ca914b914 b DE.objs.size h'.objs.size (5:Nat) rfl s2 zs,.inr ⟨trivial,_,Ej⟩⟩
 ·intro b hb
  simp at hb
  rcases hb with rfl|rfl|rfl|rfl<;>lia
theorem co[BEq α][LawfulBEq α]{a:α}{b:β}:∀{l:List (α×β)},l.lookup a=some b->(a,b)∈l
 |[],h=>by cases h
 |(c,d)::l,h=>by
  rw [kj] at h
  split at h
  ·rename_i e;cases h;rw [beq_iff_eq.mp e];exact aW
  ·exact az _ (co h)
structure Kn(h:Heap):Prop where
 nl:h.NoLimit
 gl:∀x v,(x,v)∈globs->GV h x v
 bl:∀x v,(x,v)∈blts->GV h x v
 fn:∀a t q d k,(a,t,q,d,k)∈fns->FnAt h a t q d k
 tc:∃mN,ClsAt h 309 308 mN/\mN "compare"=some (.ref 306)/\mN "__init__"=some (.ref 299)/\mN "__getattribute__"=none/\mN "__getattr__"=none/\mN "comp_select_list"=none/\mN "__setattr__"=none
 tf:∀a,a=306\/a=299->∃o,h.get? a=some o/\o.cls=.type "function"
theorem Kn.up(x:Kn h)(u:Up h h'):Kn h' :=
 ⟨x.nl.keeps u,λy v m=>(x.gl y v m).up u,λy v m=>(x.bl y v m).up u,λa t q d k m=>(x.fn a t q d k m).up u,ci x.tc λmN a b=>⟨mN,a.keeps u,b⟩,λa ha=>ci (x.tf a ha) λo e c=>⟨o,u _ _ e,c⟩⟩
noncomputable abbrev Ctx:=List (Str×Dt)
noncomputable abbrev Exs:=List (Nat×List Dt)
noncomputable def ScD(v:Value):Dt->Prop
 |.int i=>pI i v
 |.bool b=>pB b v
 |.flt z=>pF z v
 |_=>False
noncomputable def ScL(ds:List Dt)(DB:Array Value):Prop:=F2 ScD DB.toList ds
noncomputable def HasV(env:Env)(m cm:Str->Option Value)(x:Str)(v:Value):Prop :=
 (env.kindOf x=some .local/\m x=some v)\/(env.kindOf x=some .cell/\(∃c,env.cells.lookup x=some c)/\cm x=some v)
noncomputable def OkV(DA:Heap)(lo:Nat)(h:Heap)(v:Value)(d:Dt):Prop:=At lo h v d\/At 0 DA v d
noncomputable def GmOk(DA:Heap)(env:Env)(lo:Nat)(Γ:Ctx)(m cm:Str->Option Value)(h:Heap):Prop :=
 ∀(i:Nat) x d,Γ[i]?=some (x,d)->∃v,HasV env m cm x v/\OkV DA lo h v d
noncomputable def ExOk(DA:Heap)(env:Env)(lo:Nat)(ex:Exs)(h:Heap):Prop :=
 ∀(a:Nat) ds,(a,ds)∈ex->(∃DB,h.IsList a DB/\ScL ds DB)/\a<lo/\DA.get? a=none/\¬OwnB env a
noncomputable def OwnX(env:Env)(ex:Exs)(b:Nat):Prop:=OwnB env b\/∃DB,(b,DB)∈ex
noncomputable def FxH(DA:Heap)(env:Env)(lo:Nat)(ex:Exs)(Γ:Ctx)(h:Heap):Prop:=ExOk DA env lo ex h/\∃m cm,Fm DA env lo m cm h/\GmOk DA env lo Γ m cm h
theorem mr{m:Str->Option Value}:GmOk DA env lo [] m cm h:=λ_ _ _ e=>nomatch e
theorem tR{m:Str->Option Value}{y:Str}{e:Dt}(v:Value)(a:HasV env m cm y v)(b:OkV DA lo h v e)(r:GmOk DA env lo Γ m cm h):GmOk DA env lo ((y,e)::Γ) m cm h
 |0,_,_,q=>by cases q;exact⟨v,a,b⟩
 |i+1,x,d,q=>r i x d q
theorem sO{m:Str->Option Value}{y:Str}{e:Dt}(v:Value)(k:some .local=env.kindOf y)(n:some v=m y)(b:OkV DA lo h v e)(r:GmOk DA env lo Γ m cm h):GmOk DA env lo ((y,e)::Γ) m cm h:=tR v (.inl ⟨k.symm,n.symm⟩) b r
theorem GmOk.upF{m:Str->Option Value}(x:GmOk DA env lo Γ m cm h)(u:UpF lo h h'):GmOk DA env lo Γ m cm h' :=
 λi y d hy=>ci (x i y d hy) λv a b=>⟨v,a,b.imp (λp=>p.up u) id⟩
theorem ExOk.up{ex:Exs}(x:ExOk DA env lo ex h)(u:∀b o,b<lo->¬OwnB env b->h.get? b=some o->h'.get? b=some o):ExOk DA env lo ex h' :=
 λa DB ha=>let ⟨⟨Ha,p,p2⟩,q,r,t⟩:=x a DB ha;⟨⟨Ha,p.at λo e=>u a o q t e,p2⟩,q,r,t⟩
theorem FxH.up{ex:Exs}(x:FxH DA env lo ex Γ h)(u:Up h h'):FxH DA env lo ex Γ h' :=
 let ⟨e,m,cm,f,g⟩:=x;⟨e.up λb o _ _ q=>u b o q,m,cm,f.up u,g.upF (u.from lo)⟩
noncomputable def hO(DA:Heap)(env:Env)(lo:Nat)(ex:Exs)(Γ:Ctx):Cx:=⟨FxH DA env lo ex Γ,λu x=>x.up u⟩
noncomputable def zg(Γ:Ctx):List Nat->Ctx
 |[]=>[]
 |i::r=>match Γ[i]? with
  |some p=>p::zg Γ r
  |none=>zg Γ r
theorem n9:∀{l:List Nat} {p:Str×Dt},p∈zg Γ l->p∈Γ
 |[],_,h=>by cases h
 |i::r,p,h=>by
  have h:p∈(match Γ[i]? with
   |some q=>q::zg Γ r
   |none=>zg Γ r):=h
  cases hq:Γ[i]? with
  |none=>rw [hq] at h;exact n9 h
  |some q=>rw [hq] at h;exact(aQ.mp h).elim (λe=>e▸aF hq) n9
theorem FxH.weak{ex:Exs}(x:FxH DA env lo ex Γ h)(w:∀p∈Γ',p∈Γ):FxH DA env lo ex Γ' h :=
 lF x.2 λm cm f g=>⟨x.1,m,cm,f,λi y d hy=>et (bE.mp (w (y,d) (aF hy))) λj hj=>g j y d hj⟩
theorem FxH.bs{ex:Exs}(x:FxH DA env lo ex Γ h):Up DA h:=lF x.2 λ_ _ f _=>f.base
theorem OkV.old{v:Value}(x:OkV DA lo h v d)(u:Up DA h):At 0 h v d:=x.elim (λb=>b.weaken (bY _)) λb=>b.up (u.from _)
theorem cu{ex:Exs}(i:Nat)(hl:Γ[i]?=some (x,d))(hk:env.scope.kind=.function:=by rfl):Ld env (hO DA env lo ex Γ) x d:=by
 refine⟨hk,λh z9=>lF z9.2 λm cm f g=>?_⟩
 refine ci (g i x d hl) λv a b=>?_
 refine⟨v,?_,b.old f.base⟩
 rcases a with ⟨a,c⟩|⟨a,⟨c,hc⟩,e⟩
 ·exact .inl ⟨a,m,f.ns,c⟩
 ·exact .inr ⟨a,c,hc,e▸f.cell x c hc⟩
theorem gvF{ex:Exs}{v:Value}(kn:Kn DA)(hx:(x,v)∈globs\/(x,v)∈blts):∀h,(hO DA env lo ex Γ).p h->GV h x v :=
 λh z9=>(hx.elim (kn.gl x v) (kn.bl x v)).up (FxH.bs z9)
theorem glF{ex:Exs}{v:Value}(kn:Kn DA)(hx:(x,v)∈globs\/(x,v)∈blts)(hk:env.scope.kind=.function:=by rfl)(hi:env.kindOf x=some .globalImplicit:=by rfl)
  (hg:env.globals=3:=by rfl) (hb:env.builtins=0:=by rfl) (hd:(x==("__debug__":Str))=false:=by decide):Gl env (hO DA env lo ex Γ) x v :=
 ⟨hk,hi,hg,hb,gvF kn hx,hd⟩
theorem Gl.within{G':Cx}{v:Value}(l:∀h,G.p h->GV h x v)(g:G.p hc)(u:∀h,G'.p h->Up hc h)(hk:cenv.scope.kind=.function:=by rfl)(hi:cenv.kindOf x=some .globalImplicit:=by rfl)
  (hg:cenv.globals=3:=by rfl) (hb:cenv.builtins=0:=by rfl) (hd:(x==("__debug__":Str))=false:=by decide):Gl cenv G' x v :=
 ⟨hk,hi,hg,hb,λh g'=>(l _ g).up (u h g'),hd⟩
structure Fx(Dr:Shared)(env:Env)(lo:Nat)(ex:Exs)(Γ:Ctx)(s:Shared):Prop where
 same:s={Dr with heap:=s.heap,toks:=s.toks}
 t0:0<Dr.toks
 tk:Dr.toks<=s.toks
 sz:Dr.heap.objs.size<=lo
 top:∃b,OwnX env ex b/\lo<=b+1
 fx:FxH Dr.heap env lo ex Γ s.heap
theorem il{m:Str->Option Value}(hs:C'={s with heap:=C'.heap,toks:=C'.toks})(t:0<s.toks)(tk:s.toks<=C'.toks)(top:∃b,OwnB env b/\s.heap.objs.size+1+k<=b+1)
  (f:Fm s.heap env (s.heap.objs.size+1+k) m cm C'.heap) (g:GmOk s.heap env (s.heap.objs.size+1+k) Γ m cm C'.heap):Fx s env (s.heap.objs.size+1+k) [] Γ C' :=
 ⟨hs,t,tk,ab (aD _) (cI _ _),ci top λb h1 h2=>⟨b,.inl h1,h2⟩,λ_ _ h=>(nomatch h),m,cm,f,g⟩
section
variable{ex:Exs}
theorem Ak(top:∃b,OwnX env ex b/\lo<=b+1)(x:FxH DA env lo ex Γ h):lo<=h.objs.size:=by
 obtain⟨e,m,cm,f,g⟩:=x
 refine ci (top) λb ho hb=>?_
 rcases ho with ho|⟨DB,hm⟩
 ·rcases ho with q|⟨n,hm⟩
  ·have:=wh f.ns;exact dh 0x1383111c2b10a914ab10 env.locals h.objs.size lo b rfl this hb q
  ·have:@cA Nat _ b h.objs.size:=yw (f.cell n b (f.uniq n b hm));exact bX 0x11192b10a914ab10 b h.objs.size lo rfl this hb
 ·obtain⟨⟨_,⟨o,ho,_⟩,_⟩,_⟩:=e b DB hm
  have:@cA Nat _ b h.objs.size:=iF ho
  exact bX 0x11192b10a914ab10 b h.objs.size lo rfl this hb
theorem Fx.t(x:Fx Dr env lo ex Γ s):0<s.toks:=ad x.t0 x.tk
theorem Fx.los(x:Fx Dr env lo ex Γ s):lo<=s.heap.objs.size:=Ak x.top x.fx
theorem Fx.gr(x:Fx Dr env lo ex Γ s):Gr Dr.heap s.heap:=by
 have l:=x.los
 obtain⟨_,m,cm,f,g⟩:=x.fx
 exact⟨f.base,ab x.sz l⟩
theorem Fx.weak(x:Fx Dr env lo ex Γ s)(w:∀p∈Γ',p∈Γ):Fx Dr env lo ex Γ' s :=
 ⟨x.same,x.t0,x.tk,x.sz,x.top,x.fx.weak w⟩
theorem Fx.pick(x:Fx Dr env lo ex Γ s)(l:List Nat):Fx Dr env lo ex (zg Γ l) s:=x.weak λ_ h=>n9 h
theorem nY(hs:s={Dr with heap:=s.heap,toks:=s.toks}):({s with heap:=h',toks:=t'}:Shared)={Dr with heap:=h',toks:=t'}:=by rw [hs]
theorem Fx.move(x:Fx Dr env lo ex Γ s)(u:Up s.heap h')(l:s.toks<=t'):Fx Dr env lo ex Γ {s with heap:=h',toks:=t'} :=
 ⟨nY x.same,x.t0,ab x.tk l,x.sz,x.top,x.fx.up u⟩
end
section
variable{Q:Flow->Shared->Prop}{ex:Exs}
noncomputable def Fresh(Γ:Ctx)(x:Str):Bool:=Γ.all λp=>p.1 != x
theorem zv(h:Fresh Γ x=true){y:Str}(hy:Γ[i]?=some (y,d)):y≠x:=by
 have:=List.all_eq_true.mp h (y,d) (aF hy)
 simpa using this
theorem GmOk.set{m m' L4:Str->Option Value}{v:Value}(g:GmOk DA env lo Γ m cm h')(hf:Fresh Γ x=true)(hv:HasV env m' L4 x v)(ho:OkV DA lo h' v d)(hm:∀y,y≠x->m' y=m y/\L4 y=cm y):
  GmOk DA env lo ((x,d)::Γ) m' L4 h':=by
 intro i y e hy
 cases i with
 |zero=>simp at hy;obtain⟨rfl,rfl⟩:=hy;exact⟨v,hv,ho⟩
 |succ i =>
  simp at hy
  refine ci (g i y e hy) λv' a b=>?_
  obtain⟨h1,h2⟩:=hm y (zv hf hy)
  refine⟨v',?_,b⟩
  unfold HasV
  rw [h1,h2];exact a
theorem Fx.store{v:Value}{Q:Unit->Shared->Prop}(fx:Fx Dr env lo ex Γ s)(DJ:OkV Dr.heap lo s.heap v d)(hf:Fresh Γ x=true)(hk:env.scope.kind=.function)(hl:env.kindOf x=some .local)
  (hQ:∀h' t',Fx Dr env lo ex ((x,d)::Γ) {s with heap:=h',toks:=t'}->s.toks<=t'->(∀b o,¬OwnB env b->s.heap.get? b=some o->h'.get? b=some o)->Q () {s with heap:=h',toks:=t'}):wpAny (model prog w) A (storeName env x v) Q E s:=by
 obtain⟨e,m,cm,f,g⟩:=fx.fx
 refine Fm.storeL f hk hl λh' f' keep u hsz=>?_
 have Ek:∀b o,¬OwnB env b->s.heap.get? b=some o->h'.get? b=some o:=λb o hb e=>keep b o (λq=>hb (.inl q)) e
 refine hQ h' _ ⟨nY fx.same,fx.t0,b8 fx.tk,fx.sz,fx.top,e.up λb o _ hb q=>Ek b o hb q,rq m x v,cm,f',?_⟩ (aD _) Ek
 exact(g.upF u).set hf (.inl ⟨hl,by simp [rq]⟩) (DJ.imp (λp=>p.up u) id) λy hy=>⟨by simp [rq,hy],rfl⟩
theorem Fx.storeC{v:Value}{c:Addr}{Q:Unit->Shared->Prop}(fx:Fx Dr env lo ex Γ s)(DJ:OkV Dr.heap lo s.heap v d)(hf:Fresh Γ x=true)(hk:env.scope.kind=.function)(hl:env.kindOf x=some .cell)(hc:env.cells.lookup x=some c)
  (hQ:∀h' t',Fx Dr env lo ex ((x,d)::Γ) {s with heap:=h',toks:=t'}->s.toks<=t'->(∀b o,¬OwnB env b->s.heap.get? b=some o->h'.get? b=some o)->Q () {s with heap:=h',toks:=t'}):wpAny (model prog w) A (storeName env x v) Q E s:=by
 obtain⟨e,m,cm,f,g⟩:=fx.fx
 refine Fm.storeC f hk hl hc λh' f' keep u hsz=>?_
 have Ek:∀b o,¬OwnB env b->s.heap.get? b=some o->h'.get? b=some o:=λb o hb e=>keep b o (λq=>hb (.inr ⟨x,q▸mem_of_lookup hc⟩)) e
 refine hQ h' s.toks ⟨nY fx.same,fx.t0,fx.tk,fx.sz,fx.top,e.up λb o _ hb q=>Ek b o hb q,m,rq cm x v,f',?_⟩ (ag _) Ek
 exact(g.upF u).set hf (.inr ⟨hl,⟨c,hc⟩,by simp [rq]⟩) (DJ.imp (λp=>p.up u) id) λy hy=>⟨rfl,by simp [rq,hy]⟩
noncomputable def Kp(env:Env)(h h':Heap):Prop:=∀b o,¬OwnB env b->h.get? b=some o->h'.get? b=some o
theorem Kp.of_up(u:Up h h'):Kp env h h':=λb o _ e=>u b o e
theorem Kp.trans{a b c:Heap}(x:Kp env a b)(y:Kp env b c):Kp env a c:=λn o hn e=>y n o hn (x n o hn e)
theorem nV{pos:Pos}(fx:Fx Dr env lo ex Γ s)(he:Ev w A env (hO Dr.heap env lo ex Γ) e (tN d))(hf:Fresh Γ x=true)(hk:env.scope.kind=.function)(hl:env.kindOf x=some .local)
  (hs:swapsWith e (some (.Name x px)) pos.line env=pure false)
  (hQ:∀s',Fx Dr env lo ex ((x,d)::Γ) s'->Kp env s.heap s'.heap->wpAny (model prog w) A (execs rest env) Q E s'):wpAny (model prog w) A (execs (.Assign [.Name x px] e pos::rest) env) Q E s:=by
 refine au (bu (he.run fx.fx fx.t λv h1 t1 u1 l1 DJ=>?_) hs)
 refine Fx.store (fx.move u1.up l1) (.inl (DJ.weaken fx.los)) hf hk hl λh' t' D6 l' k'=>?_
 exact hQ _ D6 ((Kp.of_up u1.up).trans k')
theorem qu{pos:Pos}{c:Addr}(fx:Fx Dr env lo ex Γ s)(he:Ev w A env (hO Dr.heap env lo ex Γ) e (tN d))(hf:Fresh Γ x=true)(hk:env.scope.kind=.function)(hl:env.kindOf x=some .cell)(hc:env.cells.lookup x=some c)
  (hs:swapsWith e (some (.Name x px)) pos.line env=pure false)
  (hQ:∀s',Fx Dr env lo ex ((x,d)::Γ) s'->Kp env s.heap s'.heap->wpAny (model prog w) A (execs rest env) Q E s'):wpAny (model prog w) A (execs (.Assign [.Name x px] e pos::rest) env) Q E s:=by
 refine au (bu (he.run fx.fx fx.t λv h1 t1 u1 l1 DJ=>?_) hs)
 refine Fx.storeC (fx.move u1.up l1) (.inl (DJ.weaken fx.los)) hf hk hl hc λh' t' D6 l' k'=>?_
 exact hQ _ D6 ((Kp.of_up u1.up).trans k')
theorem mn{pos:Pos}{T:TT}(fx:Fx Dr env lo ex Γ s)(he:Ev w A env (hO Dr.heap env lo ex Γ) e T)(hT:Lows T)
  (hQ:∀v h' t',Gr Dr.heap h'->Dr.toks<=t'->T Dr.heap.objs.size h' v->Q (.ret v) {Dr with heap:=h',toks:=t'}):wpAny (model prog w) A (execs (.Return (some e) pos::rest) env) Q E s:=by
 refine au (cL (he.run fx.fx fx.t λv h1 t1 u1 l1 DJ=>?_))
 have:=hQ v h1 t1 (fx.gr.trans u1) (ab fx.tk l1) (hT _ _ _ _ fx.gr.sz DJ)
 rw [<-nY fx.same] at this
 exact this
theorem qt{pos:Pos}{b:Bool}(fx:Fx Dr env lo ex Γ s)(ht:EvT w A env (hO Dr.heap env lo ex Γ) test b)
  (h:∀h' t',Gr s.heap h'->s.toks<=t'->Fx Dr env lo ex Γ {s with heap:=h',toks:=t'}->wpAny (model prog w) A (execs (if b then body else orelse) env) (λf s'=>match f with|.next=>wpAny (model prog w) A (execs rest env) Q E s'|f=>Q f s') E {s with heap:=h',toks:=t'}):
  wpAny (model prog w) A (execs (.If test body orelse pos::rest) env) Q E s:=by
 refine au (wpAny_If (ht _ _ _ fx.fx fx.t λh' t' u l=>?_))
 cases b
 ·exact h h' t' u l (fx.move u.up l)
 ·exact h h' t' u l (fx.move u.up l)
theorem Aa{pos:Pos}(fx:Fx Dr env lo ex Γ s)(ht:EvT w A env (hO Dr.heap env lo ex Γ) test false)
  (h:∀h' t',Gr s.heap h'->s.toks<=t'->Fx Dr env lo ex Γ {s with heap:=h',toks:=t'}->wpAny (model prog w) A (execs rest env) Q E {s with heap:=h',toks:=t'}):
  wpAny (model prog w) A (execs (.If test body [] pos::rest) env) Q E s :=
 au (wpAny_If (ht _ _ _ fx.fx fx.t λh' t' u l=>aH (h h' t' u l (fx.move u.up l))))
theorem z8{pos:Pos}(fx:Fx Dr env lo ex Γ s)(ht:EvT w A env (hO Dr.heap env lo ex Γ) test true)
 (h:∀h' t',Gr s.heap h'->s.toks<=t'->Fx Dr env lo ex Γ {s with heap:=h',toks:=t'}->wpAny (model prog w) A (execs body env) (λf s'=>match f with|.next=>wpAny (model prog w) A (execs rest env) Q E s'|f=>Q f s') E {s with heap:=h',toks:=t'}):
 wpAny (model prog w) A (execs (.If test body orelse pos::rest) env) Q E s:=qt (b:=true) fx ht h
theorem wN{pos HU:Pos}{P:Heap->Nat->Value->Heap->Prop}(rs:List Dt)(cl:List (Str×Addr))(fx:Fx Dr env lo ex Γ s)(hsz:rs.length<=sizeLine)
  {Lk:Prop} (hi:EvSrc w A env (hO Dr.heap env lo ex Γ) Lk iter target rs.length P) (he:EltOk w A env (hO Dr.heap env lo ex Γ) elt target scope cl P rs) (hf:Fresh Γ x=true)
  (DM:closureFor scope env=pure cl)
  (DK:scope.kind=.function) (DP:∀y∈scope.names,y.2=.local->scope.names.lookup y.1=some .local)
  (hs:∀x,foldedSetIterable iter env x=pure x)
  (hk:env.scope.kind=.function) (hl:env.kindOf x=some .local)
  (F3:swapsWith (.ListComp elt [⟨target,iter,[],0⟩] scope HU) (some (.Name x px)) pos.line env=pure true)
  (hQ:∀s',Fx Dr env lo ex ((x,.lst rs)::Γ) s'->Kp env s.heap s'.heap->wpAny (model prog w) A (execs rest env) Q E s'):wpAny (model prog w) A (execs (.Assign [.Name x px] (.ListComp elt [⟨target,iter,[],0⟩] scope HU) pos::rest) env) Q E s:=by
 obtain⟨xk,m,cm,f,g⟩:=id fx.fx
 have Q7:=fx.los
 refine au (sL (cl:=cl) f DM (hi s _ _ fx.fx fx.t λxv hb h1 t1 u0 u1 l1 src=>⟨hb,u0.up,ab fx.los u0.sz,?_⟩) F3 DK DP hk hl hs)
 refine Au (G:=hO Dr.heap env lo ex Γ) (fx.fx.up u0.up) u1 (ad fx.t l1) src hsz he λD C h' tk hC hD up ht DJ DN EZ Fq Vx Ru=>?_
 dsimp only at hC hD ht DJ Fq Ru
 have JN:=u1.sz
 have JO:=u0.sz
 have D4:@cA Nat _ env.locals lo:=f.own env.locals (.inl rfl)
 have IL:At h1.objs.size DN (.ref D) (.lst rs):=(DJ DN λb o hb GL e=>Fq b o hb (λq=>y_744 D4 Q7 JO JN GL q) e).pl_lst
 have Gd:∀b o,¬@Eq Nat b env.locals->s.heap.get? b=some o->DN.get? b=some o:=λb o hb e=>Fq b o (by have:=iF e;exact y_669 this JO JN hC) hb (up b o (u0.up b o e))
 have uF:UpF lo s.heap DN:=λb o hb e=>Gd b o (λq=>rj D4 hb q) e
 have kp:Kp env s.heap DN:=λb o hb e=>Gd b o (λq=>hb (.inl q)) e
 refine hQ {s with heap:=DN,toks:=EZ} ⟨nY fx.same,fx.t0,ab fx.tk (ab l1 (ab ht Ru)),fx.sz,fx.top,xk.up λb o _ hb q=>kp b o hb q,rq m x (.ref D),cm,Vx,?_⟩ kp
 exact(g.upF uF).set hf (.inl ⟨hl,by simp [rq]⟩) (.inl (IL.weaken (dh 0xcb10ba10a910c910 lo s.heap.objs.size hb.objs.size h1.objs.size rfl Q7 JO JN))) λy hy=>⟨by simp [rq,hy],rfl⟩
noncomputable def Scal:Dt->Bool
 |.int _|.bool _|.flt _|.is _=>true
 |_=>false
theorem Scal.move(h:Scal d=true){Dy DE:Heap}{v:Value}(x:At lo Dy v d):At Es DE v d:=by
 cases d<;>first|exact x|exact nb h
theorem GmOk.scal{m:Str->Option Value}(g:GmOk DA env lo Γ m cm h)(hs:∀(i:Nat) x d,Γ[i]?=some (x,d)->Scal d=true):GmOk DA env Es Γ m cm h' :=
 λi x d hi=>ci (g i x d hi) λv a b=>⟨v,a,.inl (b.elim (λq=>Scal.move (hs i x d hi) q) λq=>Scal.move (hs i x d hi) q)⟩
theorem FxH.low(x:FxH DA env lo ex Γ h)(hs:∀(i:Nat) x d,Γ[i]?=some (x,d)->Scal d=true)(hz:DA.objs.size<=lo)(k:∀b o,b<lo->h.get? b=some o->h'.get? b=some o):FxH DA env lo ex Γ h':=by
 obtain⟨e,m,cm,f,g⟩:=x
 refine⟨e.up λb o hb _ q=>k b o hb q,m,cm,?_,g.scal hs⟩
 refine⟨f.ns.at' λo e=>k _ o (f.own _ (.inl rfl)) e,λn c hc=>?_,f.uniq,f.apart,f.ne,f.own,λb o e=>k b o (ad (iF e) hz) (f.base b o e),f.fresh⟩
 refine ci (f.cell n c hc) λo ho hd=>?_
 exact⟨o,k c o (f.own c (.inr ⟨n,mem_of_lookup hc⟩)) ho,hd⟩
noncomputable def yL(val:Str->Value)(Γ:Ctx):Ctx:=Γ.map λp=>(p.1,.is (val p.1))
theorem pU{pos:Pos}{n:Nat}{P:Heap->Nat->Value->Heap->Prop}(Gp:Ctx)(GR:Nat->Ctx)(EI:Nat->Exs)(Inv:Nat->Prop)(Qe:Inv 0)
  (fx:Fx Dr env lo (EI 0) Γ s) (hi:EvSrc w A env (hO Dr.heap env lo (EI 0) Γ) Lk iter target n P) (hLk:Lk->EI 0=[])
  (Ly:∀p∈GR 0,p∈Γ) (OS:∀p∈Gp,p∈Γ)
  (GU:∀i (j:Nat) x d,(GR i)[j]?=some (x,d)->Scal d=true) (J8:∀i,(EI i).map (·.1)=(EI 0).map (·.1))
  (turn:∀(val:Str->Value) (i:Nat) (v:Value) (hb:Heap) (C':Shared) (E:Value->Shared->Prop),i<n->Inv i->Fx Dr env lo (EI i) (GR i ++ (Gp ++ yL val Gp)) C'->P hb i v C'.heap->UpF lo hb C'.heap->Up Dr.heap hb->lo<=hb.objs.size->s.heap.objs.size<=hb.objs.size ->
   wpAny (model prog w) A (assign target env v) (λ_ Ds=>wpAny (model prog w) A (execs body env) (λf s3=>match f with
    |.next|.cont=>Inv (i+1)/\Fx Dr env lo (EI (i+1)) (GR (i+1) ++ yL val Gp) s3/\∀b o,¬OwnX env (EI 0) b->C'.heap.get? b=some o->s3.heap.get? b=some o
    |.brk=>False
    |.ret v=>Q (.ret v) s3) E Ds) E C')
  (hQ:∀s',Inv n->(∀b o,¬OwnX env (EI 0) b->s.heap.get? b=some o->s'.heap.get? b=some o)->Fx Dr env lo (EI n) (GR n ++ Gp) s'->wpAny (model prog w) A (execs rest env) Q E s')
  (IX:∀x,foldedSetIterable iter env x=pure x):
  wpAny (model prog w) A (execs (.For target iter body [] pos::rest) env) Q E s:=by
 refine au (wpAny_For (hi s _ _ fx.fx fx.t λxv hb h1 t1 u0 u1 l1 src=>?_) IX)
 refine src _ _ λI fp wr St h2 tk W st Iu KD up sz DU=>?_
 dsimp only at up sz DU ⊢
 have fb:FxH Dr.heap env lo (EI 0) Γ hb:=fx.fx.up u0.up
 obtain⟨xk,m,cm,f,g⟩:=id fb
 have JW:lo<=hb.objs.size:=Ak fx.top fb
 let val:Str->Value:=λx=>if env.kindOf x=some .local then(m x).getD .none else(cm x).getD .none
 have Qh:∀x v,HasV env m cm x v->val x=v:=by
  intro x v hv
  rcases hv with ⟨a,b⟩|⟨a,_,b⟩
  ·simp [val,a,b]
  ·simp [val,a,b]
 have Eo:∀(i:Nat) x d,Gp[i]?=some (x,d)->HasV env m cm x (val x)/\OkV Dr.heap lo hb (val x) d:=by
  intro i x d hi
  obtain⟨j,hj⟩:=bE.mp (OS _ (aF hi))
  refine ci (g j x d hj) λv a b=>?_
  rw [Qh x v a];exact⟨a,b⟩
 have hOwnX:∀i b,OwnX env (EI i) b↔OwnX env (EI 0) b:=by
  intro i b
  have:(∃DB,(b,DB)∈EI i)↔∃DB,(b,DB)∈EI 0:=by
   have:=J8 i
   constructor
   ·rintro⟨DB,h⟩
    have:b∈(EI i).map (·.1):=bK.mpr ⟨_,h,rfl⟩
    rw [J8 i] at this
    refine ci (bK.mp this) λp hp Dz=>?_;subst Dz
    exact⟨p.2,hp⟩
   ·rintro⟨DB,h⟩
    have:b∈(EI 0).map (·.1):=bK.mpr ⟨_,h,rfl⟩
    rw [<-J8 i] at this
    refine ci (bK.mp this) λp hp Dz=>?_;subst Dz
    exact⟨p.2,hp⟩
  unfold OwnX
  rw [this]
 have Ja:∀b,OwnX env (EI 0) b->b<lo:=by
  rintro b (h|⟨DB,h⟩)
  ·exact f.own b h
  ·exact(xk b DB h).2.1
 have PI:∀b∈wr,lo<=b:=λb Em=>ab JW (KD b Em)
 have QR:∀b∈fp,¬OwnX env (EI 0) b:=by
  intro b Em ho
  rcases (Iu b Em).2 with h|⟨lk,xs,o,Nq,hc,k,hd⟩
  ·have:=Ja b ho;exact bX 0xba10a9149b12 b lo hb.objs.size rfl this JW h
  ·rcases ho with (q|⟨nm,hm⟩)|⟨DB,hm⟩
   ·refine oi (f.ns) λo' es ep e' d' _=>?_
    rw [<-q] at e'
    rw [Nq] at e';cases e'
    rw [hd] at d';cases d'
   ·refine ci (f.cell nm b (f.uniq nm b hm)) λo' e' d'=>?_
    rw [Nq] at e';cases e'
    rw [hd] at d';cases d'
   ·rw [hLk lk] at hm;cases hm
 have fit:∀i h,FxH Dr.heap env lo (EI i) (GR i ++ yL val Gp) h->UpF lo hb h->FxH Dr.heap env lo (EI i) (GR i ++ (Gp ++ yL val Gp)) h:=by
  rintro i h ⟨SF,m',L4,f',g'⟩ u
  refine⟨SF,m',L4,f',λj x d hj=>?_⟩
  have GX:=aF hj
  rcases eh.mp GX with q|q
  ·obtain⟨j',q'⟩:=bE.mp (cM (yL val Gp) q)
   exact g' j' x d q'
  ·rcases eh.mp q with q|q
   ·have qi:(x,Dt.is (val x))∈yL val Gp:=bK.mpr ⟨_,q,rfl⟩
    obtain⟨j',q'⟩:=bE.mp (cQ (GR i) qi)
    refine ci (g' j' x _ q') λv hv ho=>?_
    have Ov:v=val x:=by
     rcases ho with ho|ho<;>· simp only [q7,rb,q8,q9,qX,qZ,qW,qY] at ho;exact ho
    obtain⟨j2,q2⟩:=bE.mp q
    obtain⟨_,Fb⟩:=Eo j2 x d q2
    exact⟨v,hv,Ov▸Fb.imp (λp=>p.up u) id⟩
   ·obtain⟨j',q'⟩:=bE.mp (cQ (GR i) q)
    exact g' j' x d q'
 have toF:∀h:Heap,(∀b o,¬OwnX env (EI 0) b->hb.get? b=some o->h.get? b=some o)->UpF lo hb h:=λh k b o hl e=>k b o (λq=>by have:=Ja b q;exact qj this hl) e
 have VX:∀i,∃b,OwnX env (EI i) b/\lo<=b+1:=λi=>ci fx.top λb Em GL=>⟨b,(hOwnX i b).mpr Em,GL⟩
 have scal:∀i (j:Nat) x d,(GR i ++ yL val Gp)[j]?=some (x,d)->Scal d=true:=by
  intro i j x d hj
  rcases eh.mp (aF hj) with q|q
  ·obtain⟨j',q'⟩:=bE.mp q
   exact GU i j' x d q'
  ·refine ci (bK.mp q) λp hp e=>?_
   cases e;rfl
 refine kM (Bn (R:=λr s'=>match r with|.ok .next=>wpAny (model prog w) A (execs rest env) Q E s'|.ok f=>Q f s'|.error _=>False) W
  (λi s'=>Inv i/\Fx Dr env lo (EI i) (GR i ++ yL val Gp) s'/\(∀b o,¬OwnX env (EI 0) b->hb.get? b=some o->s'.heap.get? b=some o)) ?_ st (λi s' j=>j.2.1.t) ?_ ?_ ?_) ?_
 ·refine⟨Qe,⟨nY fx.same,fx.t0,ab fx.tk (ab l1 DU),fx.sz,fx.top,?_⟩,λb o _ e=>up b o (u1.up b o e)⟩
  obtain⟨SE,m2,cm2,f2,g2⟩:FxH Dr.heap env lo (EI 0) Γ h2:=(fb.up u1.up).up up
  have f3:Fm Dr.heap env lo m cm h2:=(f.up u1.up).up up
  refine⟨SE,m,cm,f3,λj x d hj=>?_⟩
  rcases eh.mp (aF hj) with q|q
  ·obtain⟨j',q'⟩:=bE.mp (Ly _ q)
   refine ci (g j' x d q') λv a b=>?_
   exact⟨v,a,b.imp (λp=>(p.up (u1.up.from _)).up (up.from _)) id⟩
  ·refine ci (bK.mp q) λp hp e=>?_
   cases e
   obtain⟨j',q'⟩:=bE.mp hp
   exact⟨val p.1,(Eo j' p.1 p.2 q').1,.inl (by simp only [q7,rb,q8,q9,qX,qZ,qW,qY])⟩
 ·rintro i s' h' t' ⟨iv,D6,u'⟩ k t live
  refine⟨iv,⟨nY D6.same,D6.t0,ab D6.tk t,D6.sz,D6.top,D6.fx.low (scal i) fx.sz λb o Em e=>k b o (λq=>by have:=PI b q;exact qj Em this) e⟩,λb o hl e=>?_⟩
  exact k b o (λq=>by have:=iF e;have:=KD b q;exact qj ‹_› this) (u' b o hl e)
 ·rintro i v C' E' Eg ⟨iv,D6,u'⟩ hP V2
  refine bb (turn val i v hb C' E' Eg iv ⟨D6.same,D6.t0,D6.tk,D6.sz,D6.top,fit i _ D6.fx (toF _ u')⟩ hP (toF _ u') f.base JW u0.sz) (λ_ Ds K3=>bb K3 (λfl s3 h3=>?_) λ_ _ e=>e) λ_ _ e=>e
  have step:Inv (i+1)/\Fx Dr env lo (EI (i+1)) (GR (i+1) ++ yL val Gp) s3/\(∀b o,¬OwnX env (EI 0) b->C'.heap.get? b=some o->s3.heap.get? b=some o) ->
    (Inv (i+1)/\Fx Dr env lo (EI (i+1)) (GR (i+1) ++ yL val Gp) s3/\(∀b o,¬OwnX env (EI 0) b->hb.get? b=some o->s3.heap.get? b=some o))/\∀b∈fp,∀o,C'.heap.get? b=some o->s3.heap.get? b=some o:=by
   rintro⟨T7,Fi,k3⟩
   exact⟨⟨T7,Fi,λb o hl e=>k3 b o hl (u' b o hl e)⟩,λb Em o e=>k3 b o (QR b Em) e⟩
  cases fl with
  |next=>exact step h3
  |cont=>exact step h3
  |brk=>exact h3.elim
  |ret v=>exact h3
 ·rintro s' ⟨iv,D6,u'⟩
  refine hQ s' iv (λb o hn e=>u' b o hn (u0.up b o e)) ⟨D6.same,D6.t0,D6.tk,D6.sz,D6.top,(fit n _ D6.fx (toF _ u')).weak λp hp=>?_⟩
  rcases eh.mp hp with q|q
  ·exact cM _ q
  ·exact cQ _ (cM _ q)
 ·intro r s' h'
  cases r with
  |ok f=>cases f<;>exact h'
  |error e=>exact h'.elim
end
theorem jN{a i:Expr}{pos:Pos}{k:Int}(ha:Ev w A env G a (tO (.lst ds)))(hi:Ev w A env G i (tV (pI k)))(h0:0<=k)(h1:k<2^63)(hd:ds[k.toNat]?=some d)
  (hs:∀o x,subscripted i false o x=operate [o,x] (getItem o x)):Ev w A env G (.Subscript a i pos) (tO d):=by
 intro s Q E g t hQ
 refine Subscript_ (ha s _ _ g t λva Dy t1 u1 l1 Dv=>hi _ _ _ (G.up u1.up g) (ad t l1) λvi h2 t2 u2 l2 DD=>?_)
 refine fL (At.lst.mp (Dv.up (u2.up.from _))) λl items Dz _ hl Dw=>?_;subst Dz
 refine ci (DD) λtk _ Dz=>?_;subst Dz
 have Du:=Dw.length
 have hk:k.toNat<ds.length:=(aV.mp hd).1
 have hx:∃x,items[k.toNat]?=some x:=⟨_,aY (by rw [aU] at Du;exact fv hk Du)⟩
 obtain⟨x,hx⟩:=hx
 refine tail_any (id:="list.__getitem__") hl.typeIs PySem.F.slot_list_getitem.lookup (wpAny_getItem_list hl h0 h1 hx ?_) (hs _ _)
 exact hQ x h2 t2 (u1.trans u2) (ab l1 l2) (Dw.get (by simpa using hx) hd)
theorem iH{a i:Expr}{pos:Pos}{k:Int}(ha:Ev w A env G a (tO (.tup ds)))(hi:Ev w A env G i (tV (pI k)))(h0:0<=k)(h1:k<2^63)(hd:ds[k.toNat]?=some d)
  (hs:∀o x,subscripted i false o x=operate [o,x] (getItem o x)):Ev w A env G (.Subscript a i pos) (tO d):=by
 intro s Q E g t hQ
 refine Subscript_ (ha s _ _ g t λva Dy t1 u1 l1 Dv=>hi _ _ _ (G.up u1.up g) (ad t l1) λvi h2 t2 u2 l2 DD=>?_)
 refine fL (At.tup.mp (Dv.up (u2.up.from _))) λl items Dz _ hl Dw=>?_;subst Dz
 refine ci (DD) λtk _ Dz=>?_;subst Dz
 have Du:=Dw.length
 have hk:k.toNat<ds.length:=(aV.mp hd).1
 have hx:∃x,items[k.toNat]?=some x:=⟨_,aY (by rw [aU] at Du;exact fv hk Du)⟩
 obtain⟨x,hx⟩:=hx
 have Ip:seqIndex? k items.size=some k.toNat:=by
  unfold seqIndex?
  rw [aU] at Du
  simp
  lia
 refine tail_any (id:="tuple.__getitem__") hl.typeIs slot_tuple_getitem.lookup (jp (x:=x) hl (cN 0x901119800000000000000081811 k rfl h0) h1 Ip hx ?_) (hs _ _)
 exact hQ x h2 t2 (u1.trans u2) (ab l1 l2) (Dw.get (by simpa using hx) hd)
theorem sm{a:Expr}{pos:Pos}(l:Gl env G "len" (.builtin "len"))(ha:Ev w A env G a (tO (.lst ds)))(Fk:ds.length<2^63)(Eb:starEach [a] env=[(false,eval a env)]):
  Ev w A env G (.Call (.Name "len" p) [a] [] pos) (tV (pI ds.length)):=by
 intro s Q E g t hQ
 refine aK (cC l g ?_)
 rw [Eb]
 refine bV rfl (aE (ar (ha s _ _ g t λva h1 t1 u1 l1 Dv=>aA ?_)))
 refine fL (At.lst.mp Dv) λa items Dz _ hl Dw=>?_;subst Dz
 have Du:=Dw.length
 rw [aU] at Du
 refine iQ hl (b6 0x9a18800000000000000081914800000000000000081a715 ds.length items.size rfl Fk Du) ?_
 exact hQ _ h1 _ u1 (ab l1 (ab (aD _) (aD _))) ⟨_,aB (dU _),by rw [Du]⟩
noncomputable def Ct1(w:World)(A:Around)(G:Heap->Prop)(a:Nat)(d T:Dt):Prop :=
 ∀(s:Shared) (v:Value) (Q:Value->Shared->Prop) (E:Value->Shared->Prop),G s.heap->0<s.toks->At 0 s.heap v d ->
  (∀v h' t',Gr s.heap h'->s.toks<=t'->At s.heap.objs.size h' v T->Q v {s with heap:=h',toks:=t'})->wpAny (model prog w) A (call (.ref a) [v]) Q E s
noncomputable def Ct2(w:World)(A:Around)(G:Heap->Prop)(a:Nat)(QU QT T:Dt):Prop :=
 ∀(s:Shared) (v1 v2:Value) (Q:Value->Shared->Prop) (E:Value->Shared->Prop),G s.heap->0<s.toks->At 0 s.heap v1 QU->At 0 s.heap v2 QT ->
  (∀v h' t',Gr s.heap h'->s.toks<=t'->At s.heap.objs.size h' v T->Q v {s with heap:=h',toks:=t'})->wpAny (model prog w) A (call (.ref a) [v1,v2]) Q E s
theorem oh{f:Str}{a:Nat}{pos:Pos}{T:Dt}{K:Heap->Prop}(l:Gl env G f (.ref a))(hK:∀h,G.p h->K h)(hf:∀h,K h->∃o fd,h.get? a=some o/\o.data=.func fd)(c:Ct1 w A K a d T)(he:Ev w A env G e (tO d))
  (Eb:starEach [e] env=[(false,eval e env)]):Ev w A env G (.Call (.Name f p) [e] [] pos) (tN T):=by
 intro s Q E g t hQ
 refine aK (cC l g ?_)
 rw [Eb]
 refine lF (hf _ (hK _ g)) λo fd ho hd=>?_
 refine b7 (o:=o) (fd:=fd) (aE (ar (he s _ _ g t λva h1 t1 u1 l1 Dv=>aA ⟨⟨u1.up _ _ ho,hd⟩,?_⟩)))
 refine c _ va _ _ (hK _ (G.up u1.up g)) (ad t l1) Dv λv h2 t2 u2 l2 DD=>?_
 exact hQ v h2 t2 (u1.trans u2) (ab l1 l2) (DD.weaken u1.sz)
theorem og{f:Str}{a:Nat}{pos:Pos}{d2 T:Dt}{K:Heap->Prop}(l:Gl env G f (.ref a))(hK:∀h,G.p h->K h)(hf:∀h,K h->∃o fd,h.get? a=some o/\o.data=.func fd)(c:Ct2 w A K a d d2 T)(he:Ev w A env G e (tO d))(HA:Ev w A env G e2 (tO d2))
  (Eb:starEach [e,e2] env=[(false,eval e env),(false,eval e2 env)]):Ev w A env G (.Call (.Name f p) [e,e2] [] pos) (tN T):=by
 intro s Q E g t hQ
 refine aK (cC l g ?_)
 rw [Eb]
 refine lF (hf _ (hK _ g)) λo fd ho hd=>?_
 refine b7 (o:=o) (fd:=fd) (aE (ar (he s _ _ g t λva h1 t1 u1 l1 Dv=>ar (HA _ _ _ (G.up u1.up g) (ad t l1) λvb h2 t2 u2 l2 DD=>aA ⟨⟨u2.up _ _ (u1.up _ _ ho),hd⟩,?_⟩))))
 refine c _ va vb _ _ (hK _ (G.up u2.up (G.up u1.up g))) (ad t (ab l1 l2)) (Dv.up (u2.up.from _)) DD λv h3 t3 u3 l3 p3=>?_
 exact hQ v h3 t3 ((u1.trans u2).trans u3) (ab l1 (ab l2 l3)) (p3.weaken (u1.trans u2).sz)
theorem rc{y:Str}{k0:Nat}{P:Value->Heap->Prop}{e:Dt}(hh:A.handled=none)(hC:hc.objs.size<=C)
  (hP:∀v h,P v h->∃T vx vy,v=.ref T/\h.IsTuple T #[vx,vy]/\At 0 hc vx d/\At 0 hc vy e) (Ec:cenv.locals=C)
  (hk:cenv.scope.kind=.function) (Hx:cenv.kindOf x=some .local) (Io:cenv.kindOf y=some .local) (Fe:y≠x):
  AsgOk w A (.Tuple [.Name x px,.Name y py] k0 tp) cenv C k hc P (λG'=>Ld cenv G' x d/\Ld cenv G' y e):=by
 intro v s Q E up cf t hv hQ
 refine Da (hP v _ hv) λT vx vy FP DQ hx hy=>?_;subst FP
 obtain⟨⟨m,hm⟩,DO⟩:=cf
 subst Ec
 have DH:@cA Nat _ cenv.locals s.heap.objs.size:=wh hm
 refine wpAny_assign_Tuple hh DQ rfl rfl λh' ext=>?_
 have FK:h'.Ns cenv.locals m:=hm.at' λo e=>ext _ o (bW DH) e
 have old:∀b o,s.heap.get? b=some o->h'.get? b=some o:=λb o e=>ext b o (bW (iF e)) e
 refine assignInOrder_cons (cJ (fh Hx FK (λh2 Ex GI=>?_) (by rw [hk];rfl)))
 refine assignInOrder_cons (cJ (fh Io Ex (λh3 GW GH=>assignInOrder_nil ?_) (by rw [hk];rfl)))
 have keep:∀b o,¬@Eq Nat b cenv.locals->s.heap.get? b=some o->h3.get? b=some o:=λb o hb e=>GH.extBut b o hb (GI.extBut b o hb (old b o e))
 have Jk:Up hc h3:=λb o e=>keep b o (by have:=iF e;exact vB this hC) (up b o e)
 refine hQ ⟨λh=>Up hc h/\∃m,h.Ns cenv.locals m/\m x=some vx/\m y=some vy,λu ⟨a,m,b,c⟩=>⟨a.trans u,m,b.keeps u,c⟩⟩ h3 (s.toks+1+1)
  ⟨⟨hk,λh ⟨a,m,b,c,_⟩=>⟨vx,.inl ⟨Hx,m,b,c⟩,hx.up (a.from _)⟩⟩,⟨hk,λh ⟨a,m,b,_,c⟩=>⟨vy,.inl ⟨Io,m,b,c⟩,hy.up (a.from _)⟩⟩⟩
  ⟨Jk,_,GW,by simp [iZ Fe],by simp⟩ (λh g=>g.1) ⟨⟨_,GW⟩,λj hj=>?_⟩ (λb o hb e=>keep b o (BX hb) e) (ab (aD _) (aD _))
 refine lF (DO j hj) λv' o ho hd=>?_
 exact⟨v',o,keep _ o (b6 82964980250 cenv.locals j rfl) ho,hd⟩
section
variable{ex:Exs}
theorem Fx.pair{y:Str}{k0 T:Nat}{vx vy:Value}{e:Dt}{Q:Unit->Shared->Prop}(hh:A.handled=none)(fx:Fx Dr env lo ex Γ s)(DQ:s.heap.IsTuple T #[vx,vy])(hx:OkV Dr.heap lo s.heap vx d)(hy:OkV Dr.heap lo s.heap vy e)
  (hf:Fresh Γ x=true) (Hz:Fresh Γ y=true) (hk:env.scope.kind=.function) (Hx:env.kindOf x=some .local) (Io:env.kindOf y=some .local) (Fe:x≠y)
  (hQ:∀h' t',Fx Dr env lo ex ((y,e)::(x,d)::Γ) {s with heap:=h',toks:=t'}->s.toks<=t'->(∀b o,¬OwnB env b->s.heap.get? b=some o->h'.get? b=some o)->Q () {s with heap:=h',toks:=t'}):
  wpAny (model prog w) A (assign (.Tuple [.Name x px,.Name y py] k0 tp) env (.ref T)) Q E s:=by
 refine wpAny_assign_Tuple hh DQ rfl rfl λh' ext=>?_
 have old:Up s.heap h':=λb o e=>ext b o (bW (iF e)) e
 refine assignInOrder_cons (cJ (Fx.store (fx.move old (ag _)) (hx.imp (λp=>p.up (old.from _)) id) hf hk Hx λh2 t2 ES l2 k2=>?_))
 have U4:Fresh ((x,d)::Γ) y=true:=by
  unfold Fresh;rw [List.all_cons];simp only [dZ]
  exact⟨by simpa using Fe,Hz⟩
 have own_lo:∀b,OwnB env b->b<lo:=by obtain⟨_,m,cm,f,g⟩:=fx.fx;exact f.own
 refine assignInOrder_cons (cJ (Fx.store ES (hy.imp (λp=>(p.up (old.from _)).up λb o hb e=>k2 b o (λq=>by have:=own_lo b q;exact qj this hb) e) id) U4 hk Io λh3 t3 Fi l3 k3=>assignInOrder_nil ?_))
 exact hQ h3 t3 Fi (ab l2 l3) λb o hb e=>k3 b o hb (k2 b o hb (old b o e))
end
noncomputable def dw:List (Int×Int)->List Int->List Int->Int
 |[],_,_=>0
 |(i,d)::r,ns,ms=>if ns.getD i.toNat 0<ms.getD i.toNat 0 then -d else if ns.getD i.toNat 0>ms.getD i.toNat 0 then d else dw r ns ms
theorem zr{mN mA:Str->Option Value}{x:Nat}{v:Value}(X:ClsAt s.heap 309 308 mN)(UF:mN "__getattribute__"=none)(UG:mN name=none)
  (hB:typeLookup (.type "object") name=pure none) (I:s.heap.Inst x 309 mA) (hv:mA name=some v) (hh:handedOut v=pure v) (hQ:Q v {s with toks:=s.toks+1}):wpAny (model prog w) A (getAttr (.ref x) name true) Q E s:=by
 obtain⟨h,g,d,t,os⟩:=s
 obtain⟨nm,q,bs,sn,sub,col,dd,k0,k1,k2,k3,k5,hC⟩:=X.obj
 exact load_attr hC X.ns UF UG hB I hv hh hQ
theorem y4(hh:A.handled=none){x c:Nat}{mA:Str->Option Value}{pos:Pos}(hG:∀h,G.p h->Up DA h)(kn:Kn DA)(hx:Ev w A env G (.Name "self" px) (tO (.is (.ref x))))
  (I:DA.Inst x 309 mA) (hs:mA "comp_select_list"=some (.ref c)) (hl:DA.IsList c items) (hT:∀v∈items.toList,∃T,v=.ref T):
  EvSrc w A env G True (.Attribute (.Name "self" px) "comp_select_list" pos) (.Tuple elts k tp) items.size (λ_ i v _=>items[i]?=some v):=by
 intro s Q E g t hQ
 refine Attribute_name (hx s _ _ g t λv h1 t1 u1 l1 Dv=>?_)
 replace Dv:=At_is Dv
 subst Dv
 have up:=(hG _ g).trans u1.up
 refine e1a7 ((kn.up up).tc) λmN X _ _ n1 n2 n3 n4=>?_
 refine zr X n1 n3 (by rw [typeLookup_type,builtinLookup_eq_fast];kernel_rfl) (I.keeps up) hs rfl ?_
 have Et:h1.IsList c items:=hl.at (up c)
 refine hQ _ h1 h1 _ u1 (Gr.refl _) (b8 l1) λQ' E' En=>cT Et ?_
 have DH:@cA Nat _ c h1.objs.size:=by obtain⟨o,ho,_⟩:=Et;exact iF ho
 refine En h1.objs.size [h1.objs.size,c] [h1.objs.size] _ _ _ (It.listT hh h1.objs.size c (bW DH) items hT) ⟨⟨_,am _ rfl,rfl,rfl⟩,Et.push _⟩ ?_ ?_ (Up.push _ _) (by rw [ao];exact aD _) (ag _)
 ·intro b hb
  rw [ao]
  simp at hb
  rcases hb with rfl|rfl
  ·exact⟨bo _,.inl (ag _)⟩
  ·exact⟨gL DH,.inr ⟨trivial,items,Et⟩⟩
 ·intro b hb;rw [ak.mp hb];exact ag _
theorem v8{vs vl vr:Value}{ns:List Int}(r:Room A 3)(kn:Kn s.heap)(t:0<s.toks)
  (hs:At 0 s.heap vs (.comp ks)) (hl:At 0 s.heap vl (tI ns)) (hr:At 0 s.heap vr (tI ms)) (hk:∀p∈ks,0<=p.1/\p.1.toNat<ns.length/\p.1.toNat<ms.length/\p.1<2^63)
  (hQ:∀v h' t',Gr s.heap h'->s.toks<=t'->pI (dw ks ns ms) v->Q v {s with heap:=h',toks:=t'}):
  wpAny (model prog w) A (call (.ref 306) [vs,vl,vr]) Q E s:=by
 refine jO (n:=2) r (kn.fn 306 (me 19 1) "TupleComp.compare" .none .none (co (by kernel_rfl))) kn.nl (binds:=[("self",vs),("left",vl),("right",vr)]) (λ_ _ _=>rfl)
  (fQ (.inl rfl) (fQ (.inl rfl) (fQ (.inl rfl) lS))) (by decide) λpm cd doc C' env he gr tk Ei ro fm top E=>?_
 subst he
 obtain⟨x,d,c,o,mA,items,rfl,_,_,_,ho,hc,Ip,hd,DY,hn,KS,KU,Fc,hz,hp⟩:=hs
 have I:s.heap.Inst x 309 mA:=⟨o,ho,hc,Ip,.inr ⟨d,hd,DY,hn⟩⟩
 have fx:Fx s (ky (me 19 1) "TupleComp.compare" .none .none 306 s.heap.objs.size pm cd doc) (s.heap.objs.size+1+nC (aZ (me 19 1)).names) []
   [("self",.is (.ref x)),("left",tI ns),("right",tI ms)] C':=by
  exact il Ei t tk top fm (sO (.ref x) rfl rfl (.inl At_rfl) (sO vl rfl rfl (.inr hl) (sO vr rfl rfl (.inr hr) mr)))
 generalize DZ:s.heap.objs.size+1+nC (aZ (me 19 1)).names=lo at fx
 have hT:∀v∈items.toList,∃T,v=.ref T:=by
  intro v hv
  obtain⟨i,hi⟩:=bE.mp hv
  have DH:i<ks.length:=by have:=(aV.mp hi).1;exact fq this hz
  obtain⟨T,t,u,a,_⟩:=hp i ks[i] (ae DH)
  rw [<-b9,hi] at a
  exact⟨T,by cases a;rfl⟩
 have RE:items.size=ks.length:=hz
 refine pU (Lk:=True) (P:=λ_ i v _=>items[i]?=some v) (n:=items.size) [("left",tI ns),("right",tI ms)] (λ_=>[]) (λ_=>[]) (λi=>dw ks ns ms=dw (ks.drop i) ns ms) rfl fx ?_ (λ_=>rfl)
  (λp hp=>nomatch hp) (λp hp=>List.mem_of_mem_tail hp) (λi j x d h=>by simp at h) (λ_=>rfl) ?_ ?_ (by intro _;rfl)
 ·exact y4 (DA:=s.heap) ro.hand (λh z9=>(FxH.bs z9)) kn (an (cu 0 rfl)) I KS Fc hT
 ·intro val i v hb M7 E' hi J6 D6 hv hub SA V4 V0
  have H7:i<ks.length:=fq hi hz
  obtain⟨T,t1,t2,a,_,n1,n2,DQ⟩:=hp i ks[i] (ae H7)
  rw [a] at hv;cases hv
  obtain⟨k0,k1,k2,k3⟩:=hk ks[i] (dY H7)
  refine Fx.pair (d:=.int ks[i].1) (e:=.int ks[i].2) ro.hand D6 (DQ.at (D6.gr.up T)) (.inl (At_int.mpr ⟨_,n1,rfl⟩)) (.inl (At_int.mpr ⟨_,n2,rfl⟩)) rfl rfl rfl rfl rfl (by decide) λh2 Ma ES l2 T4=>?_
  have hd:ks.drop i=ks[i]::ks.drop (i+1):=List.drop_eq_getElem_cons H7
  have Hf:=J6
  rw [hd] at Hf
  have gl:ns[ks[i].1.toNat]?=some (ns.getD ks[i].1.toNat 0):=by rw [aw,ae k1];rfl
  have gr:ms[ks[i].1.toNat]?=some (ms.getD ks[i].1.toNat 0):=by rw [aw,ae k2];rfl
  refine nV (d:=.int (ns.getD ks[i].1.toNat 0)) ES (Ev.nint (Ev.int (iH (an (cu 2 rfl)) (Ev.int (an (cu 1 rfl))) k0 k3 (by rw [ah,gl];rfl) (by intro _ _;rfl)))) rfl rfl rfl rfl λs3 Fi Oh=>?_
  refine nV (d:=.int (ms.getD ks[i].1.toNat 0)) Fi (Ev.nint (Ev.int (iH (an (cu 4 rfl)) (Ev.int (an (cu 2 rfl))) k0 k3 (by rw [ah,gr];rfl) (by intro _ _;rfl)))) rfl rfl rfl rfl λs4 Ic Og=>?_
  refine qt Ic (fJ (BD _ _) (Ev.int (an (cu 1 rfl))) (Ev.int (an (cu 0 rfl)))) λh5 t5 Vk l5 IB=>?_
  generalize hA:ns.getD ks[i].1.toNat 0=a1 at *
  generalize hB:ms.getD ks[i].1.toNat 0=b1 at *
  have Ep:dw (ks[i]::ks.drop (i+1)) ns ms=if a1<b1 then -ks[i].2 else if a1>b1 then ks[i].2 else dw (ks.drop (i+1)) ns ms:=by
   rw [<-hA,<-hB];rfl
  by_cases DH:a1<b1
  ·rw [if_pos (decide_eq_true DH)]
   refine mn IB (nW (Ev.int (an (cu 2 rfl)))) (Lows.v _) λv h' t' g' l' p'=>hQ v h' t' g' l' ?_
   rw [Hf,Ep,if_pos DH];exact p'
  ·rw [decide_eq_false DH]
   refine aH ?_
   refine qt IB (fJ (cm_gt _ _) (Ev.int (an (cu 1 rfl))) (Ev.int (an (cu 0 rfl)))) λh6 t6 Vj l6 FO=>?_
   by_cases NB:a1>b1
   ·rw [if_pos (decide_eq_true NB)]
    refine mn FO (Ev.int (an (cu 2 rfl))) (Lows.v _) λv h' t' g' l' p'=>hQ v h' t' g' l' ?_
    rw [Hf,Ep,if_neg DH,if_pos NB];exact p'
   ·rw [decide_eq_false NB]
    refine aH (aH ⟨?_,?_,?_⟩)
    ·rw [Hf,Ep,if_neg DH,if_neg NB]
    ·exact FO.pick [6,7]
    ·intro b o hb e
     have Em:¬OwnB _ b:=λq=>hb (.inl q)
     exact Vj.up b o (Vk.up b o (Og b o Em (Oh b o Em (T4 b o Em e))))
 ·intro s' J6 _ D6
  refine mn D6 br (Lows.v _) λv h' t' g' l' p'=>hQ v h' t' g' l' ?_
  rw [J6,gM (wt hz)]
  exact p'
theorem v4{pos:Pos}{a b:Expr}{ns:List Int}(r:Room A 3)(hG:∀h,G.p h->Kn h)(hk:Ev w A env G (.Name x px) (tO (.comp ks)))
  (ha:Ev w A env G a (tO (tI ns))) (hb:Ev w A env G b (tO (tI ms))) (KO:∀p∈ks,0<=p.1/\p.1.toNat<ns.length/\p.1.toNat<ms.length/\p.1<2^63)
  (Fl:(apos.endLine==pos.line)=true) (Eb:starEach [a,b] env=[(false,eval a env),(false,eval b env)]):
  Ev w A env G (.Call (.Attribute (.Name x px) "compare" apos) [a,b] [] pos) (tV (pI (dw ks ns ms))):=by
 intro s Q E g t hQ
 refine aa (hk s _ _ g t λvk h1 t1 u1 l1 Dv=>?_)
 refine aa (ez ?_)
 have GP:methodCallForm ([a,b].length+([]:List Keyword).length) (backTo pos (starEach [a,b] env)) (backToKw pos (keywordEach [] env))=true:=by rw [Eb];rfl
 have Ea:methodCallPos true (.Name x px) env apos pos=pure pos:=by unfold methodCallPos;simp [Fl]
 delta methodCall
 rw [GP]
 have Lj:Kn h1:=hG _ (G.up u1.up g)
 refine e1a7 (Lj.tc) λmN X Hf _ n1 n2 n3 n4=>?_
 obtain⟨nm,q,bs,sn,sub,col,dd,k0,k1,k2,k3,k5,hC⟩:=X.obj
 refine ci (Lj.tf 306 (.inl rfl)) λof UB U2=>?_
 have FI:=Dv
 simp only [q7,rb,q8,q9,qX,qZ,qW,qY] at Dv
 obtain⟨xo,d,c,o,mA,items,rfl,_,_,_,ho,hc,Ip,hd,DY,hn,KS,KU,Fc,hz,hp⟩:=Dv
 have I:h1.Inst xo 309 mA:=⟨o,ho,hc,Ip,.inr ⟨d,hd,DY,hn⟩⟩
 refine aa (bp (method_of (y:=none) hC X.ns n1 n2 Hf UB U2 (by rw [typeLookup_type,builtinLookup_eq_fast];kernel_rfl) I KU ?_))
 refine aa (cD Ea ?_)
 rw [Eb]
 obtain⟨Tq,pm,cd,doc,Qr,U8,_⟩:=Lj.fn 306 (me 19 1) "TupleComp.compare" .none .none (co (by kernel_rfl))
 have gg:=G.up u1.up g
 refine b7 (o:=Tq) (aE (ar (ha {s with heap:=h1,toks:=t1} _ _ gg (ad t l1) λva h2 t2 u2 l2 DD=>ar (hb _ _ _ (G.up u2.up gg) (ad t (ab l1 l2)) λvb h3 t3 u3 l3 p3 =>
  aA ⟨⟨u3.up _ _ (u2.up _ _ Qr),U8⟩,?_⟩))))
 have Q1:=u2.trans u3
 refine v8 r (hG _ (G.up u3.up (G.up u2.up gg))) (ad t (ab l1 (ab l2 l3))) (FI.up (Q1.up.from _)) (DD.up (u3.up.from _)) p3 KO λv h4 t4 u4 l4 p4=>?_
 exact hQ v h4 t4 ((u1.trans Q1).trans u4) (ab l1 (ab l2 (ab l3 l4))) p4
noncomputable def de(ks:List (Int×Int))(rows:List (List Int)):List (List Int):=rows.map λr=>rows.map λo=>dw ks r o
theorem y7{vk v:Value}(r:Room A 5)(kn:Kn s.heap)(t:0<s.toks)
  (KE:At 0 s.heap vk (.comp ks)) (hv:At 0 s.heap v (mO rows)) (KO:∀p∈ks,∀row∈rows,0<=p.1/\p.1.toNat<row.length/\p.1<2^63) (hsz:rows.length<=sizeLine)
  (hQ:∀v h' t',Gr s.heap h'->s.toks<=t'->At s.heap.objs.size h' v (uj (de ks rows))->Q v {s with heap:=h',toks:=t'}):
  wpAny (model prog w) A (call (.ref 323) [vk,v]) Q E s:=by
 refine jO (n:=4) r (kn.fn 323 (st 22) "_law_signs" .none .none (co (by kernel_rfl))) kn.nl (binds:=[("keys",vk),("rows",v)]) (λ_ _ _=>rfl)
  (fQ (.inr ⟨rfl,rfl⟩) (fQ (.inr ⟨rfl,rfl⟩) lS)) (by decide) λpm cd doc C' env he gr tk Ei ro fm top E=>?_
 subst he
 have fx:Fx s (ky (st 22) "_law_signs" .none .none 323 s.heap.objs.size pm cd doc) (s.heap.objs.size+1+nC (aZ (st 22)).names) [] [("keys",.comp ks),("rows",mO rows)] C':=by
  exact il Ei t tk top fm (tR vk (.inr ⟨rfl,⟨_,rfl⟩,rfl⟩) (.inr KE) (tR v (.inr ⟨rfl,⟨_,rfl⟩,rfl⟩) (.inr hv) (mr)))
 generalize DZ:s.heap.objs.size+1+nC (aZ (st 22)).names=lo at fx
 generalize hL:s.heap.objs.size=L at *
 have hG:∀h,(hO s.heap (ky (st 22) "_law_signs" .none .none 323 L pm cd doc) lo [] [("keys",.comp ks),("rows",mO rows)]).p h->Kn h:=λh z9=>kn.up (FxH.bs z9)
 refine mn fx (T:=tN (uj (de ks rows))) ?_ (Lows.n _) λv h' t' g' l' p'=>hQ v h' t' g' l' (hL▸p')
 have TU:Ld (ky (st 22) "_law_signs" .none .none 323 L pm cd doc) (hO s.heap (ky (st 22) "_law_signs" .none .none 323 L pm cd doc) lo [] [("keys",.comp ks),("rows",mO rows)]) "keys" (.comp ks):=cu 0 rfl
 have Rt:Ld (ky (st 22) "_law_signs" .none .none 323 L pm cd doc) (hO s.heap (ky (st 22) "_law_signs" .none .none 323 L pm cd doc) lo [] [("keys",.comp ks),("rows",mO rows)]) "rows" (mO rows):=cu 1 rfl
 refine d8 (Lk:=True) ((de ks rows).map λr=>.pl (r.map .int)) [("rows",L+2),("keys",L+1)] (λhc i v _=>∃d,(rows.map tI)[i]?=some d/\At 0 hc v d) (by simpa [de] using hsz) ?_ ?_ (by rfl) (by rfl) (by decide) (by intro _;rfl)
 ·rw [show ((de ks rows).map λr=>Dt.pl (r.map .int)).length=(rows.map tI).length by simp [de]]
  exact dD ro.hand (an Rt)
 ·intro C hc i r hr gp hC
  simp only [de,aP,ah,aq,bM] at hr
  refine ci (hr) λhd LL Dz=>?_;subst Dz
  refine⟨_,rf (d:=tI hd) (c:=C+1) hC (λv h z9=>ci z9 λd D1 DJ=>?_) rfl rfl rfl rfl (bo _) (ag _),λG' good up=>?_⟩
  ·rw [ah,LL] at D1;cases D1;exact DJ
  ·refine xQ (Lk:=True) (rows.map λo=>.int (dw ks hd o)) [("row",C+1),("keys",L+1)] (λhc i v _=>∃d,(rows.map tI)[i]?=some d/\At 0 hc v d) (by simpa using hsz) ?_ ?_ (by rfl) (by rfl) (by decide) (by intro _;rfl)
   ·rw [show (rows.map λo=>Dt.int (dw ks hd o)).length=(rows.map tI).length by simp]
    exact dD ro.hand (an (Rt.within gp up rfl rfl rfl rfl))
   ·intro C2 Gv i2 r2 Hw HC LU
    simp only [ah,aq] at Hw
    refine ci (Hw) λth Ls Dz=>?_;subst Dz
    refine⟨_,di (d:=tI th) LU (λv h z9=>ci z9 λd D1 DJ=>?_) rfl rfl rfl,λG2 Fn Gd=>?_⟩
    ·rw [ah,Ls] at D1;cases D1;exact DJ
    ·refine Ev.nint (v4 (ro.le (by decide)) (λh g=>(hG _ gp).up ((up _ HC).trans (Gd h g))) (an ((Ld.within (TU.within gp up rfl rfl rfl rfl) HC Gd rfl rfl rfl rfl))) (an (good.within HC Gd rfl rfl rfl rfl)) (an Fn) ?_ rfl rfl)
     intro p hp
     refine a3 (KO p hp hd (aF LL)) λh1 h2 h3=>?_
     refine a3 (KO p hp th (aF Ls)) λ_ h4 _=>?_
     exact⟨h1,h2,h4,h3⟩
theorem ScD.of_at{v:Value}(hs:∃i,d=.int i\/d=.flt i)(x:At lo h v d):ScD v d:=by
 obtain⟨i,rfl|rfl⟩:=hs
 ·exact At_int.mp x
 ·exact At_flt.mp x
theorem ScL.of_at:∀{vs:List Value} {ds:List Dt},(∀d∈ds,∃i,d=.int i\/d=.flt i)->AtAll lo h vs ds->F2 ScD vs ds
 |[],[],_,_=>.nil
 |v::vs,d::ds,hs,x=>by
  exact .cons (ScD.of_at (hs d aW) x.1) (ScL.of_at (λd hd=>hs d (az _ hd)) x.2)
 |[],_::_,_,x=>by simp only [aN,aC,aL,aR] at x
 |_::_,[],_,x=>by simp only [aN,aC,aL,aR] at x
theorem ScD.at{v:Value}(x:ScD v d):At lo h v d:=by
 cases d with
 |int i=>exact At_int.mpr x
 |bool b=>exact At_bool.mpr x
 |flt z=>exact At_flt.mpr x
 |_=>exact x.elim
theorem F2.atAll{vs:List Value}(x:F2 ScD vs ds):AtAll lo h vs ds:=by
 induction x with
 |nil=>simp only [aN,aC,aL,aR]
 |cons a _ ih=>exact⟨a.at,ih⟩
theorem F2.len{R:α->β->Prop}{l:List α}{m:List β}(x:F2 R l m):l.length=m.length:=by induction x<;>simp [*]
theorem F2.get{R:α->β->Prop}{l:List α}{m:List β}(x:F2 R l m):∀{i:Nat} {a b},l[i]?=some a->m[i]?=some b->R a b:=by
 induction x with
 |nil=>intro i a b h _;cases h
 |cons r _ ih =>
  intro i a b h g
  cases i with
  |zero=>exact ay h▸ay g▸r
  |succ i=>exact ih h g
theorem F2.set{R:α->β->Prop}{l:List α}{m:List β}(x:F2 R l m):∀{i:Nat} {a b},R a b->F2 R (l.set i a) (m.set i b):=by
 induction x with
 |nil=>intro i a b _;exact .nil
 |cons r x ih =>
  intro i a b q
  cases i with
  |zero=>exact .cons q x
  |succ i=>exact .cons r (ih q)
section
variable{Q:Flow->Shared->Prop}{ex:Exs}
theorem Fx.add{v:Value}(fx:Fx Dr env lo ex Γ s)(i:Nat)(hi:Γ[i]?=some (x,.is v))(ho:OkV Dr.heap lo s.heap v d):Fx Dr env lo ex ((x,d)::Γ) s:=by
 refine⟨fx.same,fx.t0,fx.tk,fx.sz,fx.top,?_⟩
 obtain⟨e,m,cm,f,g⟩:=fx.fx
 refine⟨e,m,cm,f,λj y e' hj=>?_⟩
 cases j with
 |zero =>
  obtain⟨rfl,rfl⟩:=hj
  refine ci (g i x _ hi) λv' hv UA=>?_
  have:v'=v:=by rcases UA with h|h<;>· simp only [q7,rb,q8,q9,qX,qZ,qW,qY] at h;exact h
  exact⟨v',hv,this▸ho⟩
 |succ j=>exact g j y e' hj
theorem zZ{pos:Pos}(Γ':Ctx)(fx:Fx Dr env lo [] Γ s)(HL:∀p∈Γ',p∈Γ)(GU:∀(i:Nat) x d,Γ'[i]?=some (x,d)->Scal d=true)(he:Ev w A env (hO Dr.heap env lo [] Γ) e (tN (.lst ds)))
  (Iv:∀d∈ds,∃i,d=.int i\/d=.flt i) (hf:Fresh Γ' x=true) (hk:env.scope.kind=.function) (hl:env.kindOf x=some .local)
  (hs:swapsWith e (some (.Name x px)) pos.line env=pure false)
  (hQ:∀a s',Dr.heap.objs.size<=a->lo<=a->Fx Dr env (a+1) [(a,ds)] ((x,.is (.ref a))::Γ') s'->wpAny (model prog w) A (execs rest env) Q E s'):wpAny (model prog w) A (execs (.Assign [.Name x px] e pos::rest) env) Q E s:=by
 refine au (bu (he.run fx.fx fx.t λv h1 t1 u1 l1 DJ=>?_) hs)
 refine fL (At.lst.mp DJ) λa DB Dz ha Fc Dw=>?_;subst Dz
 have FU:=fx.los
 obtain⟨_,m,cm,f,g0⟩:=(fx.move u1.up l1).fx
 have g:GmOk Dr.heap env lo Γ' m cm h1:=λi y d hy=>et (bE.mp (HL (y,d) (aF hy))) λj hj=>g0 j y d hj
 have hsz:=fx.sz
 have DH:@cA Nat _ a h1.objs.size:=by obtain⟨o,ho,_⟩:=Fc;exact iF ho
 have R9:@iC Nat _ s.heap.objs.size a:=ha
 have Nr:¬OwnB env a:=λq=>by have:=f.own a q;exact bX 0xba10a9149b12 a lo s.heap.objs.size rfl this FU ha
 have UI:Dr.heap.get? a=none:=df (dh 0xcb10ba10a910c910 Dr.heap.objs.size lo s.heap.objs.size a rfl hsz FU ha)
 have D6:Fx Dr env (a+1) [(a,ds)] Γ' {s with heap:=h1,toks:=t1}:=by
  refine⟨nY fx.same,fx.t0,ab fx.tk l1,dh 0x196217421522111c2910 Dr.heap.objs.size lo s.heap.objs.size a rfl hsz FU ha,⟨a,.inr ⟨ds,ak.mpr rfl⟩,ag _⟩,λb Ha hb=>?_,m,cm,?_,g.scal GU⟩
  ·rw [ak] at hb;cases hb
   exact⟨⟨DB,Fc,ScL.of_at Iv Dw⟩,bo _,UI,Nr⟩
  ·exact{f with own:=λb hb=>by have:=f.own b hb;exact dh 0x196217421522911c2914 b lo s.heap.objs.size a rfl this FU ha}
 refine Fx.store D6 (.inl (by simp only [q7,rb,q8,q9,qX,qZ,qW,qY])) hf hk hl λh' t' ES l2 k2=>hQ a _ (by have:=ab hsz FU;exact dh 0xcb10ba10a910c910 Dr.heap.objs.size lo s.heap.objs.size a rfl hsz FU ha) (ab ‹_› ‹_›) ES
theorem rD{a:Nat}{pos:Pos}{i val:Expr}{k old:Int}(fx:Fx Dr env lo [(a,ds)] Γ s)(n:Nat)(hn:Γ[n]?=some (x,.is (.ref a)))
  (hi:Ev w A env (hO Dr.heap env lo [(a,ds)] Γ) i (tV (pI k))) (hv:Ev w A env (hO Dr.heap env lo [(a,ds)] Γ) val (tV (pI c))) (h0:0<=k) (h1:k<2^63) (hd:ds[k.toNat]?=some (.int old))
  (hk:env.scope.kind=.function) (hx:(x==("__debug__":Str))=false)
  (hs:∀ov iv new,augStore i ov iv new=(do holding [new,ov,iv] (setItem ov iv new);release [new,ov,iv] [];pure .next))
  (hQ:∀s',Fx Dr env lo [(a,ds.set k.toNat (.int (old+c)))] Γ s'->(∀b o,¬@Eq Nat b a->s.heap.get? b=some o->s'.heap.get? b=some o)->wpAny (model prog w) A (execs rest env) Q E s'):
  wpAny (model prog w) A (execs (.AugAssign (.Subscript (.Name x px) i tp) .Add val pos::rest) env) Q E s:=by
 have MN:Ev w A env (hO Dr.heap env lo [(a,ds)] Γ) (.Name x px) (tO (.is (.ref a))):=an (cu n hn hk) hx
 refine au (wpAny_AugAssign_SubscriptAny (MN.run fx.fx fx.t λv Dy t1 u1 l1 Dv=>?_) hs)
 subst Dv
 have Po:=fx.move u1.up l1
 refine hi.run Po.fx Po.t λvi h2 t2 u2 l2 DD=>?_
 refine ci (DD) λtk DU Dz=>?_;subst Dz
 have ES:=Po.move u2.up l2
 obtain⟨⟨DB,Fc,GU⟩,DH,Mt,Jd⟩:=ES.fx.1 a ds (ak.mpr rfl)
 have Du:=F2.len GU
 have RS:k.toNat<ds.length:=(aV.mp hd).1
 have QG:k.toNat<DB.size:=fv RS Du
 have RJ:DB[k.toNat]?=some DB[k.toNat]:=aY QG
 refine wpAny_getItem_list Fc h0 h1 RJ ?_
 have hold:pI old DB[k.toNat]:=GU.get (by rw [b9];exact RJ) hd
 refine ci (hold) λt0 _ hold=>?_
 rw [hold]
 refine hv.run ES.fx ES.t λvv h3 t3 u3 l3 p3=>?_
 refine ci (p3) λtc _ Dz=>?_;subst Dz
 have Fi:=ES.move u3.up l3
 refine j7 ?_
 obtain⟨⟨Ha,QE,Mr⟩,_,_,_⟩:=Fi.fx.1 a ds (ak.mpr rfl)
 have MR:=F2.len Mr
 refine wpAny_setItem_list QE h0 h1 (by have:=Int.toNat_of_nonneg h0;exact wl 0x97911ab1ca914b7915 (Int.toNat k) ds.length Ha.size k rfl RS MR (bT k)) λh4 OO S7=>?_
 have keep:∀b o,¬@Eq Nat b a->h3.get? b=some o->h4.get? b=some o:=λb o hb e=>S7.extBut b o hb e
 obtain⟨_,m,cm,f,g⟩:=Fi.fx
 have own_ne:∀b,OwnB env b->¬@Eq Nat b a:=λb hb e=>Jd (e▸hb)
 refine hQ {s with heap:=h4,toks:=t3+1} ⟨nY fx.same,fx.t0,b8 (ab fx.tk (ab l1 (ab l2 l3))),fx.sz,?_,λb MH hb=>?_,m,cm,?_,g.upF λb o hb e=>keep b o (λq=>by have h5:@cA Nat _ a lo:=DH;exact rj DH hb q) e⟩
  λb o hb e=>keep b o hb (u3.up _ _ (u2.up _ _ (u1.up _ _ e)))
 ·refine ci (fx.top) λb ho hb=>?_
  refine⟨b,?_,hb⟩
  rcases ho with ho|⟨MH,hm⟩
  ·exact .inl ho
  ·rw [ak] at hm;cases hm
   exact .inr ⟨_,ak.mpr rfl⟩
 ·rw [ak] at hb;cases hb
  refine⟨⟨_,OO,?_⟩,DH,Mt,Jd⟩
  have:(Ha.setIfInBounds k.toNat (dH (old+c) t3)).toList=Ha.toList.set k.toNat (dH (old+c) t3):=by simp
  unfold ScL
  rw [this]
  exact Mr.set ⟨t3,aB Fi.t,rfl⟩
 ·refine⟨f.ns.at' λo e=>keep _ o (own_ne _ (.inl rfl)) e,λn c hc=>?_,f.uniq,f.apart,f.ne,f.own,λb o e=>keep b o (λq=>by rw [q,Mt] at e;cases e) (f.base b o e),f.fresh⟩
  refine ci (f.cell n c hc) λo ho hd=>?_
  exact⟨o,keep c o (own_ne c (.inr ⟨n,mem_of_lookup hc⟩)) ho,hd⟩
theorem Fx.done{a:Nat}(fx:Fx Dr env lo [(a,ds)] Γ s)(hb:Dr.heap.objs.size<=a):At Dr.heap.objs.size s.heap (.ref a) (.lst ds):=by
 obtain⟨⟨DB,Fc,GU⟩,_,_,_⟩:=fx.fx.1 a ds (ak.mpr rfl)
 exact At.lst.mpr ⟨a,DB,rfl,hb,Fc,F2.atAll GU⟩
end
noncomputable def tt(m:List (List Int))(i j:Nat):Int:=(m.getD i []).getD j 0
noncomputable def zO(c:List Int)(v:Int):List Int:=c.set v.toNat (c.getD v.toNat 0+1)
noncomputable def thI(m:List (List Int))(j k:Nat):Nat->List Int->List Int
 |0,c=>c
 |i+1,c=>zO (thI m j k i c) (tt m i j+tt m i k+tt m j k)
noncomputable def thJ(m:List (List Int))(k:Nat):Nat->List Int->List Int
 |0,c=>c
 |j+1,c=>thI m j k j (thJ m k j c)
noncomputable def thK(m:List (List Int)):Nat->List Int
 |0=>[0,0,0,0]
 |k+1=>thJ m k k (thK m k)
section
variable{m:List (List Int)}{c:List Int}
theorem ti0:thI m j k 0 c=c:=rfl
theorem tiS:thI m j k (i+1) c=zO (thI m j k i c) (tt m i j+tt m i k+tt m j k):=rfl
theorem tj0:thJ m k 0 c=c:=rfl
theorem tjS:thJ m k (j+1) c=thI m j k j (thJ m k j c):=rfl
theorem tk0:thK m 0=[0,0,0,0]:=rfl
theorem tkS:thK m (k+1)=thJ m k k (thK m k):=rfl
end
theorem qo(m:List (List Int))(j k:Nat):∀i c,(thI m j k i c).length=c.length
 |0,_=>rfl
 |i+1,c=>by simp [ti0,tiS,zO,qo m j k i c]
theorem qm(m:List (List Int))(k:Nat):∀j c,(thJ m k j c).length=c.length
 |0,_=>rfl
 |j+1,c=>by rw [thJ,qo,qm m k j c]
theorem mH(m:List (List Int)):∀k,(thK m k).length=4
 |0=>rfl
 |k+1=>by rw [thK,qm,mH m k]
noncomputable abbrev dInts(c:List Int):Dt:=.lst (c.map .int)
structure Mat01(m:List (List Int)):Prop where
 row:∀i,i<m.length->∃r,m[i]?=some r/\r.length=m.length
 v:∀i j,tt m i j=0\/tt m i j=1
theorem Bq{y z:Str}{m:List (List Int)}{pz ps pos:Pos}(hm:Mat01 m)(hi:i<m.length)(hj:j<m.length)(hsz:m.length<=sizeLine)(lx:Ld env G x (sP m))(ly:Ld env G y (.int i))(lz:Ld env G z (.int j))
  (dx:(x==("__debug__":Str))=false) (dy:(y==("__debug__":Str))=false) (dz:(z==("__debug__":Str))=false):
  Ev w A env G (.Subscript (.Subscript (.Name x px) (.Name y py) ps) (.Name z pz) pos) (tV (pI (tt m i j))):=by
 refine ci (hm.row i hi) λr hr hl=>?_
 have Hb:sizeLine=16777216:=by decide
 have h1:((m.map λr=>Dt.lst (r.map .int))[(i:Int).toNat]?)=some (dInts r):=by simp [hr]
 have h2:((r.map Dt.int)[(j:Int).toNat]?)=some (.int (tt m i j)):=by
  have:r[j]?=some (r[j]'(fv hj hl)):=ae _
  simp [tt,aw,hr,this]
 exact Ev.int (jN (jN (an lx dx) (Ev.int (an ly dy)) nq (b6 0x100000051a10a9148000000000000000819715 i m.length rfl hi hsz) h1 (by intro _ _;rfl)) (Ev.int (an lz dz)) nq (b6 0x100000051a10a9148000000000000000819715 j m.length rfl hj hsz) h2 (by intro _ _;rfl))
theorem wF{v:Value}{m:List (List Int)}(r:Room A 3)(kn:Kn s.heap)(t:0<s.toks)
  (hv:At 0 s.heap v (sP m)) (hm:Mat01 m) (hsz:m.length<=sizeLine)
  (hQ:∀v h' t',Gr s.heap h'->s.toks<=t'->At s.heap.objs.size h' v (dInts (thK m m.length))->Q v {s with heap:=h',toks:=t'}):
  wpAny (model prog w) A (call (.ref 335) [v]) Q E s:=by
 refine jO (n:=2) r (kn.fn 335 (st 24) "_law_threes" .none .none (co (by kernel_rfl))) kn.nl (binds:=[("turned",v)]) (λ_ _ _=>rfl)
  (fQ (.inl rfl) lS) (by decide) λpm cd doc C' env he gr tk Ei ro fm top E=>?_
 have Hb:sizeLine=16777216:=by decide
 have fx:Fx s env (s.heap.objs.size+1+nC (aZ (st 24)).names) [] [("turned",.is v)] C':=by
  subst he
  exact il Ei t tk top fm (sO v rfl rfl (.inl At_rfl) mr)
 generalize DZ:s.heap.objs.size+1+nC (aZ (st 24)).names=lo at fx
 generalize hL:s.heap.objs.size=L at *
 have hloL:L+1<=lo:=b6 0xa019218a910 (L+(1:Nat)) lo rfl DZ
 have hk:env.scope.kind=.function:=by subst he;rfl
 have UH:∀d∈([.int 0,.int 0,.int 0,.int 0]:List Dt),∃i,d=.int i\/d=.flt i:=by simp
 refine zZ (ds:=[.int 0,.int 0,.int 0,.int 0]) _ fx (λp hp=>hp) (λi x d h=>?_) (mK (ds:=[.int 0,.int 0,.int 0,.int 0]) (m5 (Stb.n _) (λT hT=>?_) (Ev.nint br) (m5 (Stb.n _) (λT hT=>?_) (Ev.nint br) (m5 (Stb.n _) (λT hT=>?_) (Ev.nint br) (m5 (Stb.n _) (λT hT=>?_) (Ev.nint br) ec))))) UH rfl hk (by subst he;rfl) (by rfl) λa Ds haL _ ES=>?_
 ·cases i with|zero=>cases h;rfl|succ i=>cases h
 ·simp at hT;subst hT;exact Lows.n _
 ·simp at hT;subst hT;exact Lows.n _
 ·simp at hT;subst hT;exact Lows.n _
 ·simp at hT
 have Fi:=ES.add (d:=sP m) 1 rfl (.inr hv)
 have FM:∀{ex Γ lo},Gl env (hO s.heap env lo ex Γ) "range" (.type "range"):=by intro ex Γ lo;subst he;exact glF kn (.inr (co (by kernel_rfl)))
 have Hn:∀{ex Γ lo},Gl env (hO s.heap env lo ex Γ) "len" (.builtin "len"):=by intro ex Γ lo;subst he;exact glF kn (.inr (co (by kernel_rfl)))
 have lc:∀x,x=("k":Str)\/x=("j":Str)\/x=("i":Str)->env.kindOf x=some .local:=by subst he;rintro x (rfl|rfl|rfl)<;>rfl
 refine pU (Lk:=False) (P:=λ_ i v _=>pI i v) (n:=(m.length:Int).toNat) [("counts",.is (.ref a)),("turned",sP m)] (λ_=>[]) (λk=>[(a,(thK m k).map .int)]) (λ_=>True) trivial Fi ?_ (λh=>h.elim)
  (λp hp=>nomatch hp) (λp hp=>by simp at hp ⊢;rcases hp with rfl|rfl<;>simp) (λi j x d h=>by simp at h) (λ_=>rfl) ?_ ?_ (by intro _;rfl)
 ·refine j5 (by intro _ _;rfl) ro.hand FM ?_ nq (cV 0x1000000519104000000000000000819715 m.length rfl hsz)
  refine sm Hn (an (cu 0 rfl hk)) (by simp;exact cV 0x100000051910800000000000000081914 m.length rfl hsz) rfl |>.mono ?_
  intro lo h v hv;simpa using hv
 ·intro val k vk hb M7 E' Ny _ LZ KE _ _ _ _
  have He:k<m.length:=AL Ny
  refine cJ (Fx.store (d:=.int k) LZ (.inl (At_int.mpr KE)) rfl hk (lc _ (.inl rfl)) λh3 t3 Fi l3 Oh=>?_)
  refine pU (Lk:=False) (P:=λ_ i v _=>pI i v) (n:=(k:Int).toNat) [("k",.int k),("counts",.is (.ref a)),("turned",sP m),("counts",.is (val "counts")),("turned",.is (val "turned"))] (λ_=>[]) (λj=>[(a,(thJ m k j (thK m k)).map .int)]) (λ_=>True) trivial Fi ?_ (λh=>h.elim)
   (λp hp=>nomatch hp) (λp hp=>hp) (λi j x d h=>by simp at h) (λ_=>rfl) ?_ ?_ (by intro _;rfl)
  ·exact j5 (by intro _ _;rfl) ro.hand FM (Ev.int (an (cu 0 rfl hk))) nq (b6 0x100000051a10a9144000000000000000819715 k m.length rfl He hsz)
  ·intro VW j vj GL s4 E4 UT _ Vs Um _ _ _ _
   have HQ:j<k:=AL UT
   refine cJ (Fx.store (d:=.int j) Vs (.inl (At_int.mpr Um)) rfl hk (lc _ (.inr (.inl rfl))) λh5 t5 IB l5 T3=>?_)
   refine pU (Lk:=False) (P:=λ_ i v _=>pI i v) (n:=(j:Int).toNat) _
    (λ_=>[]) (λi=>[(a,(thI m j k i (thJ m k j (thK m k))).map .int)]) (λ_=>True) trivial IB ?_ (λh=>h.elim)
    (λp hp=>nomatch hp) (λp hp=>hp) (λi j x d h=>by simp at h) (λ_=>rfl) ?_ ?_ (by intro _;rfl)
   ·exact j5 (by intro _ _;rfl) ro.hand FM (Ev.int (an (cu 0 rfl hk))) nq (bX 0x100000051b10ba14a9144000000000000000819715 j k m.length rfl HQ He hsz)
   ·intro VV i vi hb3 DI E6 Eg _ Vt Ox _ _ _ _
    have EE:i<j:=AL Eg
    refine cJ (Fx.store (d:=.int i) Vt (.inl (At_int.mpr Ox)) rfl hk (lc _ (.inr (.inr rfl))) λh7 t7 NN l7 TZ=>?_)
    generalize HR:thI m j k i (thJ m k j (thK m k))=Gm at *
    have MP:Gm.length=4:=by rw [<-HR,qo,qm,mH]
    have b1:=hm.v i j
    have b2:=hm.v i k
    have b3:=hm.v j k
    generalize hT:tt m i j+tt m i k+tt m j k=T at *
    have hT4:0<=T/\T<4:=y_578 b1 b2 hT b3
    refine rD (a:=a) (ds:=Gm.map .int) (k:=T) (c:=1) (old:=Gm.getD T.toNat 0) NN 3 rfl ?_ br hT4.1 (cN 0x421915800000000000000081915 T rfl hT4.2) ?_ hk rfl (by intros;rfl) λs8 K7 k8=>?_
    ·rw [<-hT]
     exact bH (je _ _) (bH (je _ _) (Bq hm (jZ EE HQ He) (gm HQ He) hsz (cu 4 rfl hk) (cu 0 rfl hk) (cu 1 rfl hk) rfl rfl rfl) (Bq hm (jZ EE HQ He) ‹_› hsz (cu 4 rfl hk) (cu 0 rfl hk) (cu 2 rfl hk) rfl rfl rfl))
      (Bq hm (gm HQ He) ‹_› hsz (cu 4 rfl hk) (cu 1 rfl hk) (cu 2 rfl hk) rfl rfl rfl)
    ·have:T.toNat<Gm.length:=y_139 MP b1 b2 hT b3
     simp [aw,this]
    ·refine aH ⟨trivial,?_,?_⟩
     ·have hb:(Gm.map Dt.int).set T.toNat (.int (Gm.getD T.toNat 0+1))=(zO Gm T).map .int:=by simp [zO,List.map_set]
      rw [hb] at K7
      show Fx s env (a+1) [(a,(zO (thI m j k i (thJ m k j (thK m k))) (tt m i j+tt m i k+tt m j k)).map .int)] _ s8
      rw [HR,hT]
      exact K7.pick [12,13,14,15,16,17,18,19,20,21,22]
     ·intro b o hb e
      exact k8 b o (λq=>hb (.inr ⟨_,by rw [q];exact ak.mpr rfl⟩)) (TZ b o (λq=>hb (.inl q)) e)
   ·intro F9 _ Li Fu
    refine aH ⟨trivial,?_,?_⟩
    ·exact Fu.pick [6,7,8,9,10]
    ·intro b o hb e
     exact Li b o (λq=>hb (q.imp id fun⟨DB,h⟩=>⟨_,by rw [ak] at h ⊢;cases h;rfl⟩)) (T3 b o (λq=>hb (.inl q)) e)
  ·intro F9 _ Li Fu
   refine aH ⟨trivial,?_,?_⟩
   ·exact Fu.pick [3,4]
   ·intro b o hb e
    exact Li b o (λq=>hb (q.imp id fun⟨DB,h⟩=>⟨_,by rw [ak] at h ⊢;cases h;rfl⟩)) (Oh b o (λq=>hb (.inl q)) e)
 ·intro F9 _ _ Fu
  have Je:=Fu.done ‹_›
  refine au (cL ((an (cu 0 rfl hk)).run Fu.fx Fu.t λv' h' t' g' l' p'=>?_))
  replace p':=At_is p'
  subst p'
  have:=hQ (.ref a) h' t' (Fu.gr.trans g') (ab Fu.tk l') (by rw [hL] at Je;simpa using Je.up (g'.up.from _))
  rw [<-nY Fu.same] at this
  exact this
section
open PySem.AutoSeq1 (wpAny_loadPart')
theorem AtAll.drop:∀{vs:List Value} {ds:List Dt} (k:Nat),AtAll lo h vs ds->AtAll lo h (vs.drop k) (ds.drop k)
 |_,_,0,x=>by simpa using x
 |[],[],k+1,x=>by simpa using x
 |v::vs,d::ds,k+1,x=>by
  exact AtAll.drop k x.2
 |[],_::_,_+1,x=>by simp only [aN,aC,aL,aR] at x
 |_::_,[],_+1,x=>by simp only [aN,aC,aL,aR] at x
theorem AtAll.take:∀{vs:List Value} {ds:List Dt} (k:Nat),AtAll lo h vs ds->AtAll lo h (vs.take k) (ds.take k)
 |_,_,0,x=>by simp [aN,aC,aL,aR]
 |[],[],k+1,x=>by simpa using x
 |v::vs,d::ds,k+1,x=>by
  exact⟨x.1,AtAll.take k x.2⟩
 |[],_::_,_+1,x=>by simp only [aN,aC,aL,aR] at x
 |_::_,[],_+1,x=>by simp only [aN,aC,aL,aR] at x
theorem AtAll.append:∀{vs ws:List Value} {ds es:List Dt},AtAll lo h vs ds->AtAll lo h ws es->AtAll lo h (vs ++ ws) (ds ++ es)
 |[],_,[],_,_,y=>by simpa using y
 |v::vs,_,d::ds,_,x,y=>by
  exact⟨x.1,AtAll.append x.2 y⟩
 |[],_,_::_,_,x,_=>by simp only [aN,aC,aL,aR] at x
 |_::_,_,[],_,x,_=>by simp only [aN,aC,aL,aR] at x
theorem AtAll.scal:∀{vs:List Value} {ds:List Dt},(∀d∈ds,Scal d=true)->AtAll lo h vs ds->AtAll Es h' vs ds
 |[],[],_,_=>by simp only [aN,aC,aL,aR]
 |v::vs,d::ds,hs,x=>by
  exact⟨Scal.move (hs d aW) x.1,AtAll.scal (λd hd=>hs d (az _ hd)) x.2⟩
 |[],_::_,_,x=>by simp only [aN,aC,aL,aR] at x
 |_::_,[],_,x=>by simp only [aN,aC,aL,aR] at x
theorem wU(l:List α)(a b:Nat)(E1:a<=b):(l.drop (min a l.length)).take (min b l.length-min a l.length)=(l.drop a).take (b-a):=by
 rcases i4 a l.length with h|h
 ·rw [fT h]
  rcases i4 b l.length with h2|h2
  ·rw [fT h2]
  ·rw [eM h2,kT (by simp),kT (by simp;exact dh 0xcb2a10a910cb2910 l.length b (b-a) a rfl h2 (fG b a))]
 ·rw [eM h,gM (l:=l) (ag _),gM h];simp
theorem bk(h:Ev w A env G e (tN d))(r:Evs w A env G es (ds.map tN))(he:starEach (e::es) env=(false,eval e env)::starEach es env:=by rfl):
  Evs w A env G (e::es) ((d::ds).map tN):=
 m5 (Stb.n _) (λT hT=>by obtain⟨d,_,rfl⟩:=bK.mp hT;exact Lows.n _) h r he
theorem xM{a:Expr}{pos:Pos}(ha:Ev w A env G a (tO (.lst ds)))(he:Ev w A env G e (tV (pI k)))(hs:∀d∈ds,Scal d=true)(hsz:ds.length<=sizeLine)
  (ht:∀o r,letTemporaryGo a o r=pure ()):Ev w A env G (.Subscript a (.Slice none (some e) none p) pos) (tN (.lst (ds.take k))):=by
 intro s Q E g t hQ
 refine jl (ha s _ _ g t λva Dy t1 u1 l1 Dv=>?_) ht
 refine ai ?_
 refine he _ _ _ (G.up u1.up g) (ad t l1) λvu h2 t2 u2 l2 DD=>?_
 refine fL (At.lst.mp (Dv.up (u2.up.from _))) λl items Dz _ hl Dw=>?_;subst Dz
 refine ci (DD) λtk _ Dz=>?_;subst Dz
 have Du:=Dw.length
 have g2:Gr h2 ((h2.push {cls:=.type "slice",data:=.fields #[.none,.int k tk,.none]}).push {cls:=.type "list",data:=.seq (slicePick items none (some (k:Int)) none)}):=(Gr.push _ _).trans (Gr.push _ _)
 refine⟨l,items,none,some (k:Int),rfl,hl,rl hsz Du,.none,.int _ _,?_⟩
 refine hQ _ _ _ ((u1.trans u2).trans g2) (ab l1 l2) (At.lst.mpr ⟨_,slicePick items none (some (k:Int)) none,rfl,?_,?_,?_⟩)
 ·have h1:s.heap.objs.size<=h2.objs.size:=(u1.trans u2).sz
  exact b8 h1
 ·have:=am (h2.push {cls:=.type "slice",data:=.fields #[.none,.int k tk,.none]}) (o:={cls:=.type "list",data:=.seq (slicePick items none (some (k:Int)) none)}) rfl
  rw [ao] at this
  exact⟨_,this,rfl,_,rfl⟩
 ·rw [slicePick_upto']
  exact(Dw.scal hs).take k
theorem C5{a:Expr}{pos:Pos}(ha:Ev w A env G a (tO (.lst ds)))(he:Ev w A env G e (tV (pI j)))(HA:Ev w A env G e2 (tV (pI k)))(OP:j<=k)(hs:∀d∈ds,Scal d=true)(hsz:ds.length<=sizeLine)
  (ht:∀o r,letTemporaryGo a o r=pure ()):Ev w A env G (.Subscript a (.Slice (some e) (some e2) none p) pos) (tN (.lst ((ds.drop j).take (k-j)))):=by
 intro s Q E g t hQ
 refine jl (ha s _ _ g t λva Dy t1 u1 l1 Dv=>?_) ht
 refine he _ _ _ (G.up u1.up g) (ad t l1) λvl h2 t2 u2 l2 DD=>?_
 refine HA _ _ _ (G.up u2.up (G.up u1.up g)) (ad t (ab l1 l2)) λvu h3 t3 u3 l3 p3=>?_
 refine fL (At.lst.mp (Dv.up ((u2.trans u3).up.from _))) λl items Dz _ hl Dw=>?_;subst Dz
 refine ci (DD) λtk _ Dz=>?_;subst Dz
 refine ci (p3) λKu _ Dz=>?_;subst Dz
 have Du:=Dw.length
 have g2:Gr h3 ((h3.push {cls:=.type "slice",data:=.fields #[.int j tk,.int k Ku,.none]}).push {cls:=.type "list",data:=.seq (slicePick items (some (j:Int)) (some (k:Int)) none)}):=(Gr.push _ _).trans (Gr.push _ _)
 refine⟨l,items,some (j:Int),some (k:Int),rfl,hl,rl hsz Du,.int _ _,.int _ _,?_⟩
 refine hQ _ _ _ (((u1.trans u2).trans u3).trans g2) (ab l1 (ab l2 l3)) (At.lst.mpr ⟨_,slicePick items (some (j:Int)) (some (k:Int)) none,rfl,?_,?_,?_⟩)
 ·have h1:s.heap.objs.size<=h3.objs.size:=((u1.trans u2).trans u3).sz
  exact b8 h1
 ·have:=am (h3.push {cls:=.type "slice",data:=.fields #[.int j tk,.int k Ku,.none]}) (o:={cls:=.type "list",data:=.seq (slicePick items (some (j:Int)) (some (k:Int)) none)}) rfl
  rw [ao] at this
  exact⟨_,this,rfl,_,rfl⟩
 ·rw [slicePick_plain]
  simp only [Option.elim,clipAt_nat]
  have:=wU items.toList j k OP
  rw [aU] at this
  rw [this]
  exact((Dw.scal hs).drop j).take (k-j)
theorem ud{a b:Expr}{pos:Pos}{es:List Dt}(ha:Ev w A env G a (tO (.lst ds)))(hb:Ev w A env G b (tO (.lst es)))(hs:∀d∈ds ++ es,Scal d=true)(hsz:ds.length+es.length<=sizeLine):
  Ev w A env G (.BinOp a .Add b pos) (tN (.lst (ds ++ es))):=by
 intro s Q E g t hQ
 refine fz (ha s _ _ g t λva h1 t1 u1 l1 Dv=>hb _ _ _ (G.up u1.up g) (ad t l1) λvb h2 t2 u2 PX DD=>?_)
 refine fL (At.lst.mp (Dv.up (u2.up.from _))) λl items Dz _ hl Dw=>?_;subst Dz
 refine fL (At.lst.mp DD) λl2 Dx Dz _ Ej DG=>?_;subst Dz
 have Du:=Dw.length
 have MQ:=DG.length
 obtain⟨⟨cls,dd,data,sl⟩,ho,hc,n,hd⟩:=id hl
 obtain⟨⟨Km,HD,data2,Eu⟩,Fb,Gv,n2,Fs⟩:=id Ej
 subst hc hd Gv Fs
 refine concat_meets ⟨_,ho,rfl⟩ ⟨_,Fb,rfl⟩ noFill_list_add seq_list_add PySem.F.slot_list_add PySem.F.entry_list_add (PySem.F.args_list_add_2 _ _) (list_addW l l2 items Dx n n2 dd HD sl Eu (y_267 Du hsz MQ)) ⟨ho,Fb,?_⟩
 have:=hQ (.ref h2.objs.size) (h2.push {cls:=.type "list",data:=.seq (items ++ Dx)}) t2 ((u1.trans u2).trans (Gr.push _ _)) (ab l1 PX)
  (At.lst.mpr ⟨h2.objs.size,items ++ Dx,rfl,(u1.trans u2).sz,⟨_,am _ rfl,rfl,_,rfl⟩,by
   rw [Array.toList_append]
   exact AtAll.append (Dw.scal λd hd=>hs d (cM _ hd)) (DG.scal λd hd=>hs d (cQ _ hd))⟩)
 exact this
theorem pY(l:Addr)(items:Array Value):
  Meets (Builtin.«enumerate.__new__» ⟨[.type "enumerate",.ref l],[]⟩) (λ_ R s=>s.heap.IsList l items /\
   R (.ok (.ret (.ref (s.heap.push {cls:=.type "list_iterator",data:=.fields #[.ref l,.int 0 0]}).objs.size)))
    {s with heap:=(s.heap.push {cls:=.type "list_iterator",data:=.fields #[.ref l,.int 0 0]}).push {cls:=.type "enumerate",data:=.fields #[.none,.bool false,.ref s.heap.objs.size,rawInt 0,.none,.none]}}):=
 .of_wp λprog w A R s h=>by
  obtain⟨hp,g,d,tk,os⟩:=s;obtain⟨hL,h⟩:=h
  have HL:=sub_enumerate
  have hL':Heap.IsList (Shared.heap ⟨hp,g,d,tk,os⟩) l items:=hL
  refine ci (hL) λo hl _=>?_
  wp_walk using dL hl
  refine wpAny_stack_any λst=>ai ?_
  generalize kb _ _ _ _=b
  cases b <;>
  ·wp_walk using dL hl,cT hL'
   exact⟨_,rfl,h⟩
theorem y5(hh:A.handled=none){pos:Pos}{xs:List Dt}(l:Gl env G "enumerate" (.type "enumerate"))(he:Ev w A env G e (tN (.lst xs)))(hs:∀d∈xs,Scal d=true)
  (Eb:starEach [e] env=[(false,eval e env)]):
  EvSrc w A env G False (.Call (.Name "enumerate" p) [e] [] pos) (.Tuple elts k Fy) xs.length
   (λ_ i v h=>∃T t a x,v=.ref T/\t≠0/\xs[i]?=some a/\At 0 h x a/\h.IsTuple T #[.int i t,x]):=by
 intro s Q E g t hQ
 refine aK (cC l g ?_)
 rw [Eb]
 refine cE rfl (aE (ar (he s _ _ g t λnv h1 t1 u1 l1 Dv=>aA ?_)))
 refine fL (At.lst.mp Dv) λa1 Ed Dz LQ FB E7=>?_;subst Dz
 have n1:=E7.length
 rw [aU] at n1
 have s1:@cA Nat _ a1 h1.objs.size:=by obtain⟨o,ho,_⟩:=FB;exact iF ho
 have V6:@iC Nat _ s.heap.objs.size a1:=LQ
 refine callType_new jR (by decide) (iK _) (iW _) (λobj=>jn obj _) iX (pY a1 Ed) ⟨FB,?_⟩
 show _/\_
 have hz:(h1.push {cls:=.type "list_iterator",data:=.fields #[.ref a1,.int 0 0]}).objs.size=h1.objs.size+1:=ao ..
 rw [hz]
 have he:IsEnum ((h1.push {cls:=.type "list_iterator",data:=.fields #[.ref a1,.int 0 0]}).push
   {cls:=.type "enumerate",data:=.fields #[.none,.bool false,.ref h1.objs.size,rawInt 0,.none,.none]}) (h1.objs.size+1) h1.objs.size 0 .none:=by
  have:=am (h1.push {cls:=.type "list_iterator",data:=.fields #[.ref a1,.int 0 0]})
   (o:={cls:=.type "enumerate",data:=.fields #[.none,.bool false,.ref h1.objs.size,rawInt 0,.none,.none]}) rfl
  rw [hz] at this;exact this
 have LX:Gr h1 ((h1.push {cls:=.type "list_iterator",data:=.fields #[.ref a1,.int 0 0]}).push
   {cls:=.type "enumerate",data:=.fields #[.none,.bool false,.ref h1.objs.size,rawInt 0,.none,.none]}):=(Gr.push _ _).trans (Gr.push _ _)
 refine⟨⟨_,he,rfl⟩,hQ _ s.heap _ _ (Gr.refl _) (u1.trans LX) l1 λQ' E' En=>?_⟩
 refine wpAny_pyIter_enum he ?_
 have W:=It.enum (w:=w) hh (elts:=elts) (k:=k) (pos:=Fy) (h1.objs.size+1) h1.objs.size a1 (cV 319918618 h1.objs.size rfl) (b6 23238207482142 a1 h1.objs.size rfl s1) (sZ s1) Ed
 rw [n1] at W
 refine En (h1.objs.size+1) _ _ _ _ _ (W.mono' λi v h hi hp=>?_) ⟨⟨_,he⟩,⟨_,af _ (am _ rfl),rfl,rfl⟩,(FB.push _).push _⟩ ?_ ?_ (Up.refl _) (ag _) (ag _)
 ·refine Da (hp) λT t x FP ht hx DQ=>?_;subst FP
  have hd:xs[i]?=some xs[i]:=ae hi
  exact⟨T,t,xs[i],x,rfl,ht,hd,Scal.move (hs _ (dY hi)) (E7.get (by simpa using hx) hd),DQ⟩
 ·intro b hb
  rw [ao,hz]
  simp at hb
  have:=u1.sz
  rcases hb with rfl|rfl|rfl
  ·exact⟨vF,.inl (bX 0x13621522911a2b10 a1 h1.objs.size s.heap.objs.size rfl s1 LQ)⟩
  ·exact⟨cV 2349641902356 h1.objs.size rfl,.inl ‹_›⟩
  ·exact⟨b6 0x2a4522311a22914 b h1.objs.size rfl s1,.inl ‹_›⟩
 ·intro b hb
  simp at hb
  have:=u1.sz
  rcases hb with rfl|rfl<;>lia
end
theorem Fx.freeze{a:Nat}(fx:Fx Dr env (a+1) [(a,ds)] Γ s)(n:Nat)(hn:Γ[n]?=some (x,.is (.ref a)))(E0:lo<=a)(hsz:Dr.heap.objs.size<=lo)(D4:∀b,OwnB env b->b<lo)(top:∃b,OwnB env b/\lo<=b+1):
  Fx Dr env lo [] ((x,.lst ds)::Γ) s:=by
 obtain⟨⟨DB,Fc,GU⟩,_,_,_⟩:=fx.fx.1 a ds (ak.mpr rfl)
 have DJ:At lo s.heap (.ref a) (.lst ds):=At.lst.mpr ⟨a,DB,rfl,E0,Fc,F2.atAll GU⟩
 have D6:Fx Dr env lo [] Γ s:=by
  obtain⟨_,m,cm,f,g⟩:=fx.fx
  refine⟨fx.same,fx.t0,fx.tk,hsz,ci top λb h1 h2=>⟨b,.inl h1,h2⟩,λa DB h=>(nomatch h),m,cm,{f with own:=D4},λi y d hi=>?_⟩
  refine ci (g i y d hi) λv hv ho=>?_
  exact⟨v,hv,ho.imp (λp=>p.weaken (vD E0)) id⟩
 exact D6.add n hn (.inl DJ)
noncomputable def gu(B':List Int):List Int:=[37,28,14,37,50,28] ++ (B'.take 6).map λx=>x.fmod 144
noncomputable def wd(c:List Int)(k:Nat)(x:Int):List Int:=c.set (k%6) (c.getD (k%6) 0+x.fmod 144)
noncomputable def ik(base xs:List Int):Nat->List Int
 |0=>base
 |k+1=>wd (ik base xs k) k (xs.getD k 0)
theorem nk0{base xs:List Int}:ik base xs 0=base:=rfl
theorem nkS{base xs:List Int}:ik base xs (k+1)=wd (ik base xs k) k (xs.getD k 0):=rfl
theorem iw(base xs:List Int):∀k,(ik base xs k).length=base.length
 |0=>rfl
 |k+1=>by simp [nk0,nkS,wd,iw base xs k]
noncomputable def aS(B':List Int):List (List Int):=
 (ik (gu B') ((B'.drop 6).take 54) ((B'.drop 6).take 54).length).mapIdx λk x=>[x.fmod 12,(x.fdiv 12).fmod 12,(k:Int)]
section
open SeqAt
theorem IA.inj{vs:List Value}{ns:List Int}(x:IA vs ns)(y:IA vs ms):ns=ms:=by
 induction x generalizing ms with
 |nil=>cases y;rfl
 |cons _ ih=>cases y with
  |cons y=>rw [ih y]
theorem dInts.inj{v:Value}{ns:List Int}(x:At lo h v (dInts ns))(y:At Es h v (dInts ms)):ns=ms:=by
 obtain⟨a,items,rfl,_,⟨o,ho,_,k,hd⟩,Dw⟩:=At.lst.mp x
 obtain⟨b,Dx,e,_,⟨o2,Fb,_,k2,Fs⟩,DG⟩:=At.lst.mp y
 cases e
 rw [ho] at Fb;cases Fb
 rw [hd] at Fs;cases Fs
 exact(IA.of Dw).inj (IA.of DG)
theorem lI[BEq α][LawfulBEq α]{l m:List α}(h:l.length=m.length)(e:Nat->Bool)(he:∀j (h1:j<l.length) (h2:j<m.length),e j=(l[j]==m[j])):(aG l.length).all e=(l==m):=by
 rw [dO,List.all_eq_true,beq_iff_eq]
 constructor
 ·intro q
  refine List.ext_getElem h λj h1 h2=>?_
  have:=q j (cj.mpr h1)
  rw [he j h1 h2] at this
  exact eq_of_beq this
 ·rintro rfl j hj
  rw [he j (cj.mp hj) (cj.mp hj)]
  exact beq_self_eq_true _
theorem nB{vs ws:List Value}{ns:List Int}(x:AtAll lo h vs (ns.map .int))(y:AtAll Es h' ws (ms.map .int))(h1:j<ns.length)(h2:j<ms.length)(k1:j<vs.length)(k2:j<ws.length):EqAt A s vs[j] ws[j] (ns[j]==ms[j]):=by
 have a:=x.get (i:=j) (ae k1) (show (ns.map Dt.int)[j]?=some (.int ns[j]) by simp [h1])
 have b:=y.get (i:=j) (ae k2) (show (ms.map Dt.int)[j]?=some (.int ms[j]) by simp [h2])
 refine ci (At_int.mp a) λt _ e1=>?_
 refine ci (At_int.mp b) λu _ e2=>?_
 rw [e1,e2]
 exact EqAt.int_int _ _ _ _
theorem rcI{v w:Value}(hu:A.units<cLine)(hv:At 0 s.heap v (dInts r))(hw:At 0 s.heap w (dInts r')):RcAt A s v w (r==r'):=by
 refine fL (At.lst.mp hv) λa items Dz _ hl Dw=>?_;subst Dz
 refine fL (At.lst.mp hw) λb Dx Dz _ Ej DG=>?_;subst Dz
 have n1:=Dw.length
 have n2:=DG.length
 rw [aU,bR] at n1 n2
 by_cases Du:r.length=r'.length
 ·have:=RcAt.lists (A:=A) (e:=λj=>r[j]?==r'[j]?) hl Ej (sW n1 n2 Du) hu λj h1 h2=>by
   have:=nB (A:=A.in1) (s:=s) Dw DG (j:=j) (fq h1 n1) (k9 h1 n1 Du) (by simpa using h1) (by simpa using h2)
   rw [show (r[j]?==r'[j]?)=(r[j]'(fq h1 n1)==r'[j]'(k9 h1 n1 Du)) by rw [ae (fq h1 n1),ae (k9 h1 n1 Du)];rfl]
   simpa using this
  rw [n1,lI Du _ λj h1 h2=>by rw [ae h1,ae h2];rfl] at this
  exact this
 ·have:=RcAt.lists_lengths (A:=A) (s:=s) hl Ej (by simp;exact yR n1 n2 Du) hu
  rw [show (r==r')=false from beq_eq_false_iff_ne.mpr λe=>Du (by rw [e])]
  exact this
theorem eqI{v w:Value}(hu:A.units<cLine)(hv:At 0 s.heap v (dInts r))(hw:At 0 s.heap w (dInts r')):EqAt A s v w (r==r'):=by
 have OD:=rcI hu hv hw
 refine fL (At.lst.mp hv) λa items Dz _ hl Dw=>?_;subst Dz
 refine fL (At.lst.mp hw) λb Dx Dz _ Ej DG=>?_;subst Dz
 by_cases E1:a=b
 ·subst E1
  have:=dInts.inj hv hw
  subst this
  rw [beq_self_eq_true]
  exact EqAt.same _
 ·exact EqAt.of_refs E1 OD
theorem rneI{v w:Value}(hu:A.units<cLine)(hv:At 0 s.heap v (dInts r))(hw:At 0 s.heap w (dInts r')):RcNeAt A s v w (!(r==r')):=by
 refine fL (At.lst.mp hv) λa items Dz _ hl Dw=>?_;subst Dz
 refine fL (At.lst.mp hw) λb Dx Dz _ Ej DG=>?_;subst Dz
 have n1:=Dw.length
 have n2:=DG.length
 rw [aU,bR] at n1 n2
 by_cases Du:r.length=r'.length
 ·have:=RcNeAt.lists (A:=A) (e:=λj=>r[j]?==r'[j]?) hl Ej (sW n1 n2 Du) hu λj h1 h2=>by
   have:=nB (A:=A.in1) (s:=s) Dw DG (j:=j) (fq h1 n1) (k9 h1 n1 Du) (by simpa using h1) (by simpa using h2)
   rw [show (r[j]?==r'[j]?)=(r[j]'(fq h1 n1)==r'[j]'(k9 h1 n1 Du)) by rw [ae (fq h1 n1),ae (k9 h1 n1 Du)];rfl]
   simpa using this
  rw [n1,lI Du _ λj h1 h2=>by rw [ae h1,ae h2];rfl] at this
  exact this
 ·have:=RcNeAt.lists_lengths (A:=A) (s:=s) hl Ej (by simp;exact yR n1 n2 Du) hu
  rw [show (r==r')=false from beq_eq_false_iff_ne.mpr λe=>Du (by rw [e])]
  exact this
theorem rneM{v w:Value}{r r':List (List Int)}(hu:A.units+1<cLine)(hv:At 0 s.heap v (sP r))(hw:At 0 s.heap w (sP r')):RcNeAt A s v w (!(r==r')):=by
 refine fL (At.lst.mp hv) λa items Dz _ hl Dw=>?_;subst Dz
 refine fL (At.lst.mp hw) λb Dx Dz _ Ej DG=>?_;subst Dz
 have n1:=Dw.length
 have n2:=DG.length
 rw [aU,bR] at n1 n2
 by_cases Du:r.length=r'.length
 ·have:=RcNeAt.lists (A:=A) (e:=λj=>r[j]?==r'[j]?) hl Ej (sW n1 n2 Du) (aJ ‹_›) λj h1 h2=>by
   have a:=Dw.get (i:=j) (show items.toList[j]?=some items[j] by simp [h1]) (show (r.map λr=>Dt.lst (r.map .int))[j]?=some (dInts (r[j]'(fq h1 n1))) by simp [show j<r.length by exact fq h1 n1])
   have b:=DG.get (i:=j) (show Dx.toList[j]?=some Dx[j] by simp [h2]) (show (r'.map λr=>Dt.lst (r.map .int))[j]?=some (dInts (r'[j]'(k9 h1 n1 Du))) by simp [show j<r'.length by exact k9 h1 n1 Du])
   have:=eqI (A:=A.in1) (s:=s) (by rw [units_in1];exact Cp hu) a b
   rw [show (r[j]?==r'[j]?)=(r[j]'(fq h1 n1)==r'[j]'(k9 h1 n1 Du)) by rw [ae (fq h1 n1),ae (k9 h1 n1 Du)];rfl]
   exact this
  rw [n1,lI Du _ λj h1 h2=>by rw [ae h1,ae h2];rfl] at this
  exact this
 ·have:=RcNeAt.lists_lengths (A:=A) (s:=s) hl Ej (by simp;exact yR n1 n2 Du) (aJ ‹_›)
  rw [show (r==r')=false from beq_eq_false_iff_ne.mpr λe=>Du (by rw [e])]
  exact this
noncomputable abbrev pK(c:List Int):Dt:=.lst (c.map .flt)
theorem eqFI{x:UInt64}{t u:Tok}{i:Int}(hx:FQ x z):EqAt A s (.float x t) (.int i u) (z==2*i):=λprog w E Q h=>by
 refine bp ?_
 refine wpAny_ite_split (λE1=>absurd (eq_of_beq E1) nofun) (λ_=>?_)
 refine aa (bb (PyProof.Rows.eq_fi (Q:=λv s'=>v=.bool (z==2*i)/\s'=s) ⟨?_,rfl⟩) ?_ λ_ _ x=>x)
 ·rw [hx.cmpInt]
  congr 1
  rw [dO,beq_iff_eq,beq_iff_eq,eo]
  exact Int.compare_eq_eq
 ·rintro v s' ⟨rfl,rfl⟩
  exact dq h
theorem rneF{v w:Value}{is:List Int}(hu:A.units<cLine)(hv:At 0 s.heap v (pK zs))(hw:At 0 s.heap w (dInts is)):RcNeAt A s v w (!(zs==is.map λi=>2*i)):=by
 refine fL (At.lst.mp hv) λa items Dz _ hl Dw=>?_;subst Dz
 refine fL (At.lst.mp hw) λb Dx Dz _ Ej DG=>?_;subst Dz
 have n1:=Dw.length
 have n2:=DG.length
 rw [aU,bR] at n1 n2
 by_cases Du:zs.length=is.length
 ·have:=RcNeAt.lists (A:=A) (e:=λj=>zs[j]?==(is.map λi=>2*i)[j]?) hl Ej (sW n1 n2 Du) hu λj h1 h2=>by
   have a:=Dw.get (i:=j) (show items.toList[j]?=some items[j] by simp [h1]) (show (zs.map Dt.flt)[j]?=some (.flt (zs[j]'(fq h1 n1))) by simp [show j<zs.length by exact fq h1 n1])
   have b:=DG.get (i:=j) (show Dx.toList[j]?=some Dx[j] by simp [h2]) (show (is.map Dt.int)[j]?=some (.int (is[j]'(k9 h1 n1 Du))) by simp [show j<is.length by exact k9 h1 n1 Du])
   refine uh (At_flt.mp a) λx t _ hx e1=>?_
   refine ci (At_int.mp b) λu _ e2=>?_
   rw [e1,e2]
   have:=eqFI (A:=A.in1) (s:=s) (t:=t) (u:=u) (i:=is[j]'(k9 h1 n1 Du)) hx
   rw [show (zs[j]?==(is.map λi=>2*i)[j]?)=(zs[j]'(fq h1 n1)==2*is[j]'(k9 h1 n1 Du)) by rw [ae (fq h1 n1),ah,ae (k9 h1 n1 Du)];rfl]
   exact this
  rw [n1,lI (m:=is.map λi=>2*i) (by simpa using Du) _ λj h1 h2=>by rw [ae h1,ae h2];rfl] at this
  exact this
 ·have:=RcNeAt.lists_lengths (A:=A) (s:=s) hl Ej (by simp;exact yR n1 n2 Du) hu
  rw [show (zs==is.map λi=>2*i)=false from beq_eq_false_iff_ne.mpr λe=>Du (by rw [e];simp)]
  exact this
theorem rneT{v w:Value}{a b c d:Bool}(hu:A.units<cLine)(hv:At 0 s.heap v (.tup [.bool a,.bool b]))(hw:At 0 s.heap w (.tup [.bool c,.bool d])):RcNeAt A s v w (!(a==c&&b==d)):=by
 refine fL (At.tup.mp hv) λl items Dz _ hl Dw=>?_;subst Dz
 refine fL (At.tup.mp hw) λl2 Dx Dz _ Ej DG=>?_;subst Dz
 obtain⟨DB,rfl⟩:∃DB,items=i5 DB:=⟨items.toList,by simp⟩
 obtain⟨Qc,rfl⟩:∃DB,Dx=i5 DB:=⟨Dx.toList,by simp⟩
 match DB,Qc,Dw,DG with
 |[x,y],[x2,y2],Dw,DG =>
  refine a3 (Dw) λe1 e2 _=>?_
  refine a3 (DG) λe3 e4 _=>?_
  have e1:=At_bool.mp e1
  have e2:=At_bool.mp e2
  have e3:=At_bool.mp e3
  have e4:=At_bool.mp e4
  subst e1 e2 e3 e4
  have:=RcNeAt.tuples (A:=A) (e:=λj=>if j=0 then a==c else b==d) hl Ej hu λj h1 h2=>by
   rcases (show j=0\/j=1 by exact y_709 h1) with rfl|rfl
   ·exact EqAt.bool_bool _ _
   ·exact EqAt.bool_bool _ _
  simpa [aG,List.range.loop] using this
 |[],_,Dw,_=>simp only [aN,aC,aL,aR] at Dw
 |[_],_,Dw,_=>simp [aN,aC,aL,aR] at Dw
 |_::_::_::_,_,Dw,_=>simp [aN,aC,aL,aR] at Dw
 |_,[],_,Dw=>simp only [aN,aC,aL,aR] at Dw
 |_,[_],_,Dw=>simp [aN,aC,aL,aR] at Dw
 |_,_::_::_::_,_,Dw=>simp [aN,aC,aL,aR] at Dw
theorem AA(hu:A.units<cLine)(r r':List Int):CmH w A .Eq (dInts r) (dInts r') (r==r'):=λs va vb Q E _ ha hb hQ=>rcI hu ha hb prog w E Q hQ
theorem Dj(hu:A.units<cLine)(r r':List Int):CmH w A .NotEq (dInts r) (dInts r') (!(r==r')):=λs va vb Q E _ ha hb hQ=>rneI hu ha hb prog w E Q hQ
theorem yh(hu:A.units+1<cLine)(r r':List (List Int)):CmH w A .NotEq (sP r) (sP r') (!(r==r')):=λs va vb Q E _ ha hb hQ=>rneM hu ha hb prog w E Q hQ
theorem yi(hu:A.units<cLine)(zs is:List Int):CmH w A .NotEq (pK zs) (dInts is) (!(zs==is.map λi=>2*i)):=λs va vb Q E _ ha hb hQ=>rneF hu ha hb prog w E Q hQ
theorem Di(hu:A.units<cLine)(a b c d:Bool):CmH w A .NotEq (.tup [.bool a,.bool b]) (.tup [.bool c,.bool d]) (!(a==c&&b==d)):=λs va vb Q E _ ha hb hQ=>rneT hu ha hb prog w E Q hQ
theorem Ld.into{G':Cx}(g:G.p hc)(u:∀h,G'.p h->Up hc h)(l:Ld env G x d)(hx:env.kindOf x=some .cell)(hk:cenv.scope.kind=.function)(hl:cenv.kindOf x=some .cell)
 (hc:cenv.cells.lookup x=env.cells.lookup x):Ld cenv G' x d:=l.within g u hx hk hl hc
theorem Bs{a:Expr}{pos:Pos}{n:Nat}(l:Gl env G "len" (.builtin "len"))(ha:Ev w A env G a (tO (.lst ds)))(hn:ds.length=n)(Fk:n<2^63)(Eb:starEach [a] env=[(false,eval a env)]):
 Ev w A env G (.Call (.Name "len" p) [a] [] pos) (tV (pI n)):=hn▸sm l ha (hn▸Fk) Eb
theorem C4{a b:Expr}{pos:Pos}{p q:Bool}(ha:Ev w A env G a (tV (pB p)))(hb:p=false->Ev w A env G b (tV (pB q))):Ev w A env G (.BoolOp .Or [a,b] pos) (tV (pB (p||q))):=by
 intro s Q E g t hQ
 refine wpAny_Or2 (ha s _ _ g t λva h1 t1 u1 l1 Dv=>?_)
 subst Dv
 refine dq ?_
 cases p with
 |true=>exact hQ _ h1 t1 u1 l1 rfl
 |false =>
  refine hb rfl _ _ _ (G.up u1.up g) (ad t l1) λv h2 t2 u2 l2 DD=>?_
  exact hQ v h2 t2 (u1.trans u2) (ab l1 l2) DD
section
variable{Q:Flow->Shared->Prop}{ex:Exs}
theorem uy{pos:Pos}(l:List Nat)(fx:Fx Dr env lo ex Γ s)(he:Ev w A env (hO Dr.heap env lo ex Γ) e (tN d))(hf:Fresh (zg Γ l) x=true)(hk:env.scope.kind=.function)(hl:env.kindOf x=some .local)
  (hs:swapsWith e (some (.Name x px)) pos.line env=pure false)
  (hQ:∀s',Fx Dr env lo ex ((x,d)::zg Γ l) s'->Kp env s.heap s'.heap->wpAny (model prog w) A (execs rest env) Q E s'):wpAny (model prog w) A (execs (.Assign [.Name x px] e pos::rest) env) Q E s:=by
 refine au (bu (he.run fx.fx fx.t λv h1 t1 u1 l1 DJ=>?_) hs)
 refine Fx.store ((fx.move u1.up l1).pick l) (.inl (DJ.weaken fx.los)) hf hk hl λh' t' D6 l' k'=>?_
 exact hQ _ D6 ((Kp.of_up u1.up).trans k')
end
end
noncomputable def g8(d:Int)(one:List Int):List Int:=one.map λp=>p-p.fmod d
noncomputable def ja(d:Int)(one:List Int):List Int:=one.map λp=>2*(p-p.fmod d)+d-1-p
noncomputable def lK(d:Int)(one:List Int):List Int:=one.map λp=>(one.length:Int)-d-2*(p-p.fmod d)+p
noncomputable def pcT(one two:List Int):Nat->Bool
 |0=>false
 |k+1=>pcT one two k||((one.length:Int).fmod (k+1:Nat)==0&&two==ja (k+1:Nat) one)
noncomputable def pcM(one two:List Int):Nat->Bool
 |0=>false
 |k+1=>pcM one two k||((one.length:Int).fmod (k+1:Nat)==0&&two==lK (k+1:Nat) one)
section
variable{one two:List Int}
theorem pt0:pcT one two 0=false:=rfl
theorem ptS:pcT one two (k+1)=(pcT one two k||((one.length:Int).fmod (k+1:Nat)==0&&two==ja (k+1:Nat) one)):=rfl
theorem pm0:pcM one two 0=false:=rfl
theorem pmS:pcM one two (k+1)=(pcM one two k||((one.length:Int).fmod (k+1:Nat)==0&&two==lK (k+1:Nat) one)):=rfl
end
theorem w8{v1 v2:Value}{one two:List Int}(r:Room A 3)(kn:Kn s.heap)(t:0<s.toks)
  (KG:At 0 s.heap v1 (dInts one)) (Oy:At 0 s.heap v2 (dInts two)) (hsz:one.length<=1000000)
  (hQ:∀v h' t',Gr s.heap h'->s.toks<=t'->At s.heap.objs.size h' v (.tup [.bool (pcT one two one.length),.bool (pcM one two one.length)])->Q v {s with heap:=h',toks:=t'}):
  wpAny (model prog w) A (call (.ref 340) [v1,v2]) Q E s:=by
 refine jO (n:=2) r (kn.fn 340 (st 25) "_law_pieces" .none .none (co (by kernel_rfl))) kn.nl (binds:=[("one",v1),("two",v2)]) (λ_ _ _=>rfl)
  (fQ (.inl rfl) (fQ (.inl rfl) lS)) (by decide) λpm cd doc C' env he gr tk Ei ro fm top E=>?_
 subst he
 have Hb:sizeLine=16777216:=by decide
 have fx:Fx s (ky (st 25) "_law_pieces" .none .none 340 s.heap.objs.size pm cd doc) (s.heap.objs.size+1+nC (aZ (st 25)).names) [] [("one",dInts one),("two",dInts two)] C':=by
  exact il Ei t tk top fm (sO v1 rfl rfl (.inr KG) (sO v2 rfl rfl (.inr Oy) mr))
 generalize DZ:s.heap.objs.size+1+nC (aZ (st 25)).names=lo at fx
 generalize hL:s.heap.objs.size=L at *
 have hu:=bU (cI _ _) ro.units
 have Hn:∀{ex Γ lo},Gl (ky (st 25) "_law_pieces" .none .none 340 L pm cd doc) (hO s.heap (ky (st 25) "_law_pieces" .none .none 340 L pm cd doc) lo ex Γ) "len" (.builtin "len"):=glF kn (.inr (co (by kernel_rfl)))
 have FM:∀{ex Γ lo},Gl (ky (st 25) "_law_pieces" .none .none 340 L pm cd doc) (hO s.heap (ky (st 25) "_law_pieces" .none .none 340 L pm cd doc) lo ex Γ) "range" (.type "range"):=glF kn (.inr (co (by kernel_rfl)))
 have NJ:∀{ex Γ lo},Gl (ky (st 25) "_law_pieces" .none .none 340 L pm cd doc) (hO s.heap (ky (st 25) "_law_pieces" .none .none 340 L pm cd doc) lo ex Γ) "zip" (.type "zip"):=glF kn (.inr (co (by kernel_rfl)))
 have hk:(ky (st 25) "_law_pieces" .none .none 340 L pm cd doc).scope.kind=.function:=rfl
 refine qu (d:=.int one.length) fx (Ev.nint (Bs Hn (an (cu 0 rfl hk)) (by simp) (cV 0xf424051910800000000000000081914 one.length rfl hsz) rfl)) rfl hk rfl (c:=L+1) rfl rfl λDs ES _=>?_
 refine nV (d:=.bool false) ES (Ev.nbool gy) rfl hk rfl rfl λs3 Fi _=>?_
 refine nV (d:=.bool false) Fi (Ev.nbool gy) rfl hk rfl rfl λs4 Ic _=>?_
 refine pU (Lk:=False) (P:=λ_ i v _=>pI (1+i) v) (n:=((one.length:Int)+1-1).toNat) [("size",.int one.length),("one",dInts one),("two",dInts two)] (λk=>[("turned",.bool (pcT one two k)),("moved",.bool (pcM one two k))]) (λ_=>[]) (λ_=>True) trivial Ic ?_ (λ_=>rfl)
  (λp hp=>by simp at hp ⊢;rcases hp with rfl|rfl<;>simp [pt0,ptS,pm0,pmS]) (λp hp=>by simp at hp ⊢;rcases hp with rfl|rfl|rfl<;>simp) (λi j x d h=>by
   cases j with|zero=>cases h;rfl|succ j=>cases j with|zero=>cases h;rfl|succ j=>cases h) (λ_=>rfl) ?_ ?_ (by intro _;rfl)
 ·refine vM (by intro _ _;rfl) ro.hand FM br (bH (je _ _) (Ev.int (an (cu 2 rfl hk))) br) (by decide) (cV 146882760977 one.length rfl) (cV 0x1e8480a32208000000000000001031197215 one.length rfl hsz) rfl
 ·intro val k vk hb s5 E' Ny _ LZ KE _ _ _ _
  have Qg:pI ((k+1:Nat):Int) vk:=by
   have e:(1+(k:Int))=((k+1:Nat):Int):=y_426
   rw [e] at KE;exact KE
  generalize hd:((k+1:Nat):Int)=d at *
  have R5:d≠0:=lL 5367345225668891 k d rfl hd
  have V5:-(2^64)<d/\d<2^64:=y_567 hsz Ny hd
  refine cJ (Fx.storeC (d:=.int d) LZ (.inl (At_int.mpr Qg)) rfl hk rfl (c:=L+2) rfl λh6 t6 FO l6 Rx=>?_)
  refine qt FO (fJ (uq _ _) (bH (oG _ _ R5) (Ev.int (an (cu 3 rfl hk))) (Ev.int (an (cu 0 rfl hk)))) br) λh7 t7 Sb l7 NN=>?_
  by_cases Ka:(one.length:Int).fmod d=0
  ·rw [if_pos (by simpa using Ka)]
   refine wN ((g8 d one).map .int) [("part",L+2)] (Lk:=True) (P:=λhc i v _=>∃e,(one.map Dt.int)[i]?=some e/\At 0 hc v e) NN ?_ ?_ ?_ rfl ?_ ?_ ?_ ?_ hk rfl rfl λs8 K7 TY=>?_
   ·simp [g8];exact ww hsz
   ·rw [show ((g8 d one).map Dt.int).length=(one.map Dt.int).length by simp [g8]]
    exact dD ro.hand (an (cu 4 rfl hk))
   ·intro C hc i r hr gp hC
    simp only [g8,aP,ah,aq,bM] at hr
    obtain⟨x,hx,rfl⟩:=hr
    refine⟨_,di (d:=.int x) hC (λv h z9=>ci z9 λe Jz DJ=>?_) rfl rfl rfl,λG' good up=>?_⟩
    ·rw [ah,hx] at Jz;cases Jz;exact DJ
    ·exact Ev.nint (bH (gV _ _) (Ev.int (an good)) (bH (oG _ _ R5) (Ev.int (an good)) (Ev.int (an (Ld.into gp up (cu 0 rfl hk) rfl rfl rfl rfl)))))
   ·rfl
   ·rfl
   ·decide
   ·intro _;rfl
   ·refine uy (d:=.bool (pcT one two k||two==ja d one)) [0,1,3,4,5,6,7,8,9] K7 (Ev.nbool ?_) rfl hk rfl rfl λF9 Fu Li=>?_
    ·refine C4 (Ev.bool (an (cu 2 rfl hk))) λ_=>qK (AA hu _ _) (an (cu 6 rfl hk)) (Ev.old ?_)
     refine d8 (Lk:=True) ((ja d one).map .int) [("part",L+2)] (λhc i v h=>∃T a b x y,v=.ref T/\((g8 d one).map Dt.int)[i]?=some a/\(one.map Dt.int)[i]?=some b/\At 0 hc x a/\At 0 hc y b/\h.IsTuple T #[x,y]) ?_ ?_ ?_ ?_ ?_ ?_ ?_
     ·simp [ja];exact ww hsz
     ·rw [show ((ja d one).map Dt.int).length=min ((g8 d one).map Dt.int).length (one.map Dt.int).length by simp [ja,g8]]
      exact wO ro.hand NJ (an (cu 0 rfl hk)) (an (cu 5 rfl hk)) rfl
     ·intro C hc i r hr gp hC
      simp only [ja,aP,ah,aq,bM] at hr
      obtain⟨x,hx,rfl⟩:=hr
      refine⟨_,rc (d:=.int (x-x.fmod d)) (e:=.int x) ro.hand hC (λv h z9=>e5a6 z9 λT a b x' y' hv ha hb LO OT DQ=>?_) rfl rfl rfl rfl (by decide),λG' good up=>?_⟩
      ·simp only [g8,aP,ah,hx,dv,eo,bM] at ha hb
       subst ha hb
       exact⟨T,_,_,hv,DQ,LO,OT⟩
      ·exact Ev.nint (bH (gV _ _) (bH (gV _ _) (bH (je _ _) (bH (eU _ _ (by decide)) br (Ev.int (an good.1))) (Ev.int (an (Ld.into gp up (cu 1 rfl hk) rfl rfl rfl rfl)))) br) (Ev.int (an good.2)))
     ·rfl
     ·rfl
     ·decide
     ·intro _;rfl
    ·refine uy (d:=.bool (pcM one two k||two==lK d one)) [0,1,2,4,5,6,7,8,9] Fu (Ev.nbool ?_) rfl hk rfl rfl λsa Vu TX=>?_
     ·refine C4 (Ev.bool (an (cu 3 rfl hk))) λ_=>qK (AA hu _ _) (an (cu 6 rfl hk)) (Ev.old ?_)
      refine d8 (Lk:=True) ((lK d one).map .int) [("size",L+1),("part",L+2)] (λhc i v h=>∃T a b x y,v=.ref T/\((g8 d one).map Dt.int)[i]?=some a/\(one.map Dt.int)[i]?=some b/\At 0 hc x a/\At 0 hc y b/\h.IsTuple T #[x,y]) ?_ ?_ ?_ ?_ ?_ ?_ ?_
      ·simp [lK];exact ww hsz
      ·rw [show ((lK d one).map Dt.int).length=min ((g8 d one).map Dt.int).length (one.map Dt.int).length by simp [lK,g8]]
       exact wO ro.hand NJ (an (cu 1 rfl hk)) (an (cu 5 rfl hk)) rfl
      ·intro C hc i r hr gp hC
       simp only [lK,aP,ah,aq,bM] at hr
       obtain⟨x,hx,rfl⟩:=hr
       refine⟨_,rc (d:=.int (x-x.fmod d)) (e:=.int x) ro.hand hC (λv h z9=>e5a6 z9 λT a b x' y' hv ha hb LO OT DQ=>?_) rfl rfl rfl rfl (by decide),λG' good up=>?_⟩
       ·simp only [g8,aP,ah,hx,dv,eo,bM] at ha hb
        subst ha hb
        exact⟨T,_,_,hv,DQ,LO,OT⟩
       ·exact Ev.nint (bH (je _ _) (bH (gV _ _) (bH (gV _ _) (Ev.int (an (Ld.into gp up (cu 4 rfl hk) rfl rfl rfl rfl))) (Ev.int (an (Ld.into gp up (cu 2 rfl hk) rfl rfl rfl rfl)))) (bH (eU _ _ (by decide)) br (Ev.int (an good.1)))) (Ev.int (an good.2)))
      ·rfl
      ·rfl
      ·decide
      ·intro _;rfl
     ·refine aH (aH ⟨trivial,?_,?_⟩)
      ·have hf:((one.length:Int).fmod d==0)=true:=by simpa using Ka
       have e1:pcT one two (k+1)=(pcT one two k||two==ja d one):=by rw [ptS,hd,hf];simp
       have e2:pcM one two (k+1)=(pcM one two k||two==lK d one):=by rw [pmS,hd,hf];simp
       rw [e1,e2]
       exact Vu.pick [1,0,7,8,9]
      ·intro b o hb e
       have Em:¬OwnB _ b:=λq=>hb (.inl q)
       exact TX b o Em (Li b o Em (TY b o Em (Sb.up b o (Rx b o Em e))))
  ·have hf:((one.length:Int).fmod d==0)=false:=by simpa using Ka
   rw [hf]
   refine aH (aH ⟨trivial,?_,?_⟩)
   ·have e1:pcT one two (k+1)=pcT one two k:=by rw [ptS,hd,hf];simp
    have e2:pcM one two (k+1)=pcM one two k:=by rw [pmS,hd,hf];simp
    rw [e1,e2]
    exact NN.pick [1,2,6,7,8]
   ·intro b o hb e
    exact Sb.up b o (Rx b o (λq=>hb (.inl q)) e)
 ·intro F9 _ _ Fu
  have hn:((one.length:Int)+1-1).toNat=one.length:=y_500
  rw [hn] at Fu
  exact mn Fu (eX (ds:=[.bool (pcT one two one.length),.bool (pcM one two one.length)]) (bk (Ev.nbool (Ev.bool (an (cu 0 rfl hk)))) (bk (Ev.nbool (Ev.bool (an (cu 1 rfl hk)))) ec)) (show 2<=sizeLine by decide)) (Lows.n _) λv h' t' g' l' p'=>hQ v h' t' g' l' (hL▸p')
section
open PySem.Float64 PySem.Builtin.Math
theorem FQ.isFinite{x:UInt64}(hx:FQ x z):j8 x=true:=by
 obtain⟨⟨a,m,e,dx⟩,vx⟩:=hx
 unfold j8;rw [dx]
theorem FQ.cast{x:UInt64}(hx:FQ x z)(h:z=u):FQ x u:=h▸hx
theorem FQ.neg{x:UInt64}(hx:FQ x z):FQ (Float64.neg x) (-z):=by
 obtain⟨⟨a,m,e,dx⟩,vx⟩:=hx
 refine⟨⟨!a,m,e,neg_decode dx⟩,?_⟩
 rw [neg_val dx,lY,vx,gj]
theorem tW{x:UInt64}(hx:FQ x z)(hy:FQ y u)(hb:z.natAbs+u.natAbs<2^53):∃hi,fsumAdd [y] x=([],hi)/\FQ hi (u+z):=by
 have key:∀(a b:UInt64) (i j:Int),FQ a i->FQ b j->i.natAbs+j.natAbs<2^53->FQ (Float64.add a b) (i+j)/\gH (Float64.sub b (Float64.sub (Float64.add a b) a))=true:=by
  intro a b i j ha hb DV
  have h1:=ha.add hb (y_125 DV)
  have h2:=(h1.sub ha (y_129 DV)).cast (show i+j-i=j by exact B7)
  have h3:=(hb.sub h2 AM).cast (show j-j=0 by exact AG)
  exact⟨h1,by rw [h3.isZero];simp⟩
 simp only [fsumAdd]
 split
 ·obtain⟨h1,h2⟩:=key _ _ _ _ hy hx (y_88 hb)
  rw [h2]
  exact⟨_,rfl,h1⟩
 ·obtain⟨h1,h2⟩:=key _ _ _ _ hx hy ‹_›
  rw [h2]
  exact⟨_,rfl,h1.cast y_467⟩
theorem oj{x:UInt64}(hx:FQ x z)(hy:FQ y u)(hb:2*z.natAbs+2*u.natAbs<2^53):FQ (dlSum x y).1 (z+u)/\FQ (dlSum x y).2 0:=by
 have h1:=hx.add hy (y_124 hb)
 have h2:=(h1.sub hx (y_128 hb)).cast (show z+u-z=u by exact B7)
 have h3:=(h1.sub h2 (y_130 hb)).cast (show z+u-u=z by exact y_474)
 have h4:=(hx.sub h3 AM).cast (show z-z=0 by exact AG)
 have h5:=(hy.sub h2 AM).cast (show u-u=0 by exact AG)
 exact⟨h1,h4.add h5 (by decide)⟩
theorem vO(a b:Bool)(m k:Nat):sgn (a != b) (m*k)=sgn a m*sgn b k:=by
 unfold sgn
 cases a<;>cases b<;>simp [fV,gj,lY]
theorem zw{x z:UInt64}{a b:Int}(hx:FQ x a)(hy:FQ y b)(hz:FQ z (-c))(hc:2*c=a*b):FQ (Float64.fma x y z) 0:=by
 obtain⟨⟨s1,m,e,dx⟩,vx⟩:=hx
 obtain⟨⟨s2,k,f,dy⟩,vy⟩:=hy
 obtain⟨⟨s3,n,g,dz⟩,vz⟩:=hz
 have ge:=decode_ge dx
 have gf:=decode_ge dy
 have gg:=decode_ge dz
 have hM:0<=min (e+f) g+2148:=by have:=Int.le_min.mpr ⟨show -2148<=e+f by exact eW 0xa0432418119043241811a92086441811 e f rfl ge gf,show -2148<=g by exact cN 0x90432418119086441811 g rfl gg⟩;exact yU this
 have QJ:Float64.fma x y z=(if sgn (s1 != s2) (m*k*2^(e+f-min (e+f) g).toNat)+sgn s3 (n*2^(g-min (e+f) g).toNat)==0 then zero (if m*k==0&&n==0 then(s1 != s2)&&s3 else false)
   else ofBin (decide (sgn (s1 != s2) (m*k*2^(e+f-min (e+f) g).toNat)+sgn s3 (n*2^(g-min (e+f) g).toNat)<0)) (sgn (s1 != s2) (m*k*2^(e+f-min (e+f) g).toNat)+sgn s3 (n*2^(g-min (e+f) g).toNat)).natAbs (min (e+f) g)):=by
  unfold Float64.fma
  rw [dx,dy,dz]
  rfl
 have J1:sgn (s1 != s2) (m*k*2^(e+f-min (e+f) g).toNat)+sgn s3 (n*2^(g-min (e+f) g).toNat)=0:=by
  have e1:sgn (s1 != s2) (m*k*2^(e+f-min (e+f) g).toNat)*((2^(min (e+f) g+2148).toNat:Nat):Int)=val x*val y:=by
   rw [<-sgn_mul,fM,<-gh]
   have e2:=zU (Int.sub_nonneg.mpr (Int.min_le_left (e+f) g)) hM (show 0<=e+1074 by exact yU ge) (show 0<=f+1074 by exact yU gf) y_445
   rw [e2,gh,val_eq dx,val_eq dy,<-vO]
   congr 1
   ac_rfl
  have e3:sgn s3 (n*2^(g-min (e+f) g).toNat)*((2^(min (e+f) g+2148).toNat:Nat):Int)=val z*((2^1074:Nat):Int):=by
   rw [<-sgn_mul,fM,<-gh]
   have e2:(g-min (e+f) g).toNat+(min (e+f) g+2148).toNat=(g+1074).toNat+1074:=zU (d:=1074) (Int.sub_nonneg.mpr (Int.min_le_right (e+f) g)) hM (show 0<=g+1074 by exact yU gg) (by decide) y_450
   rw [e2,gh,val_eq dz,<-sgn_mul]
   congr 1
   ac_rfl
  have hK:((2^1074:Nat):Int)=(2:Int)^1074:=Int.natCast_pow 2 1074
  rw [hK] at e3
  have h4:4*(val x*val y+val z*2^1074)=0:=by
   have a1:4*(val x*val y)=(2*val x)*(2*val y):=by
    generalize val x=p;generalize val y=q
    have e4:(4:Int)=2*2:=rfl
    rw [e4];ac_rfl
   have a2:4*(val z*2^1074)=2*((2*val z)*2^1074):=by
    generalize (2:Int)^1074=K;generalize val z=p
    rw [<-dF,<-dF,<-dF]
    rfl
   rw [fD,a1,a2,vx,vy,vz]
   generalize (2:Int)^1074=K
   have a3:a*K*(b*K)=(2*c)*(K*K):=by rw [hc];ac_rfl
   have a4:2*(-c*K*K)=-((2*c)*(K*K)):=by
    rw [gj,gj,lY,dF c K K,dF 2 c]
   rw [a3,a4];exact y_463
  have Ea:((2^(min (e+f) g+2148).toNat:Nat):Int)≠0:=by have:=iM (min (e+f) g+2148).toNat;exact y_12 this
  have:(sgn (s1 != s2) (m*k*2^(e+f-min (e+f) g).toNat)+sgn s3 (n*2^(g-min (e+f) g).toNat))*((2^(min (e+f) g+2148).toNat:Nat):Int)=0:=by
   rw [iD,e1,e3];exact y_535 h4
  rcases e9.mp this with h|h
  ·exact h
  ·exact absurd h Ea
 rw [QJ,J1]
 exact FQ.zero _
theorem yY{x:UInt64}{t:UInt64×UInt64×UInt64}{a b S:Int}(hx:FQ x a)(hy:FQ y b)(hc:2*c=a*b)(h1:FQ t.1 S)(h2:FQ t.2.1 0)(h3:FQ t.2.2 0)(hb:2*S.natAbs+2*c.natAbs<2^53):
  FQ (tlFma x y t).1 (S+c)/\FQ (tlFma x y t).2.1 0/\FQ (tlFma x y t).2.2 0:=by
 have hm:=hx.mul hy hc (y_176 hb)
 have hl:FQ (dlMul x y).2 0:=zw hx hy hm.neg hc
 have d1:=oj h1 (show FQ (dlMul x y).1 c from hm) hb
 have d2:=oj h2 hl (by decide)
 have d3:=oj d2.1 d1.2 (by decide)
 have e1:=h3.add d2.2 (by decide)
 exact⟨d1.1,d3.1,e1.add d3.2 (by decide)⟩
theorem ry{t:UInt64×UInt64×UInt64}{S:Int}(h1:FQ t.1 S)(h2:FQ t.2.1 0)(h3:FQ t.2.2 0)(hb:2*S.natAbs<2^53):FQ (tlToFloat t) S:=by
 have d:=oj h2 h1 (y_65 hb)
 have e:=h3.add d.2 (by decide)
 exact(e.add d.1 (y_122 hb)).cast y_429
end
section
open PySem.Float64 PySem.Builtin.Math
theorem v6:entryFor table "math.fsum"=some Builtin.«math.fsum»:=entryFor_of_tree (by kernel_rfl)
theorem lR:entryFor table "math.fsum.loop"=some Builtin.«math.fsum.loop»:=entryFor_of_tree (by kernel_rfl)
theorem qM:entryFor table "math.sumprod"=some Builtin.«math.sumprod»:=entryFor_of_tree (by kernel_rfl)
theorem m6:entryFor table "math.sumprod.loop"=some Builtin.«math.sumprod.loop»:=entryFor_of_tree (by kernel_rfl)
theorem lJ:plainId "math.fsum.loop"=true:=by decide +kernel
theorem jG:plainId "math.sumprod.loop"=true:=by decide +kernel
theorem vS:plainId "math.fsum"=true:=by decide +kernel
theorem xA:builtinKind "math.fsum"=none:=by decide +kernel
theorem yE(a:Value):argsOk "math.fsum" ⟨[a],[]⟩:=by unfold argsOk;kernel_rfl
theorem qy:plainId "math.sumprod"=true:=by decide +kernel
theorem rW:builtinKind "math.sumprod"=none:=by decide +kernel
theorem sM(a b:Value):argsOk "math.sumprod" ⟨[a,b],[]⟩:=by unfold argsOk;kernel_rfl
noncomputable def NumV(v:Value)(z:Int):Prop:=(∃x t,FQ x z/\v=.float x t)\/∃i t,v=.int i t/\z=2*i/\i.natAbs<2^50
noncomputable def oH:Dt->Option Int
 |.int i=>some (2*i)
 |.flt z=>some z
 |_=>none
theorem nuI{i:Int}:oH (.int i)=some (2*i):=rfl
theorem nuF:oH (.flt z)=some z:=rfl
theorem NumV.of{v:Value}(x:At lo h v d)(hd:oH d=some z)(hz:z.natAbs<2^50):NumV v z:=by
 cases d with
 |int i=>obtain⟨t,_,e⟩:=At_int.mp x;simp [nuI,nuF] at hd;exact .inr ⟨i,t,e,hd.symm,y_137 hz hd⟩
 |flt y=>obtain⟨b,t,_,hq,e⟩:=At_flt.mp x;simp [nuI,nuF] at hd;exact .inl ⟨b,t,hd▸hq,e⟩
 |_=>exact nn hd
noncomputable def jc:List Int->Nat->Int
 |_,0=>0
 |[],_+1=>0
 |z::zs,i+1=>z+jc zs i
theorem ps0{l:List Int}:jc l 0=0:=by cases l<;>rfl
theorem psN:jc [] (i+1)=0:=rfl
theorem psS:jc (z::zs) (i+1)=z+jc zs i:=rfl
theorem oE:∀{zs:List Int} {i:Nat} {z:Int},zs[i]?=some z->jc zs (i+1)=jc zs i+z
 |[],_,_,h=>by simp at h
 |y::zs,0,z,h=>by simp at h;subst h;simp [ps0,psN,psS]
 |y::zs,i+1,z,h=>by
  simp at h
  have:=oE h
  exact y_466 this
theorem ji{id:String}{b:Builtin}{args:List Value}(hk:builtinKind id=none)(hp:plainId id=true)
  (hb:entryFor table id=some b) (ha:argsOk id ⟨args,[]⟩)
  (hc:wpAny (model prog w) A.in1 (b ⟨args,[]⟩) (λfin s'=>∃c',fin=.again c'/\c'.quiet=true/\codeAny (model prog w) A c' (λr s'=>match r with|.ok (.ret v)=>Q v s'|.ok _=>False|.error e=>E e s') s') E s):
  wpAny (model prog w) A (call (.builtin id) args) Q E s:=by
 refine cw (codeAny_call_builtin hp hb ?_)
 have EW:=bb hc (Q':=λfin s'=>match fin with
   |.done f=>(match (Except.ok f:Result) with|.ok (.ret v)=>Q v s'|.ok _=>False|.error e=>E e s')
   |.again c'=>c'.quiet=true/\codeAny (model prog w) A c' (λr s'=>match r with|.ok (.ret v)=>Q v s'|.ok _=>False|.error e=>E e s') s')
  (λfin s' h'=>by obtain⟨v,rfl,hv⟩:=h';exact hv) λ_ _ h'=>h'
 simp only [checkBuiltinCall,hk]
 cases Qj:Manifest.signature? id with
 |none=>exact ai EW
 |some sig =>
  simp only [argsOk,Qj] at ha
  have h2:Bind.checkArgs id sig ⟨args,[]⟩=pure ():=ha
  show wpAny _ A.in1 (Bind.checkArgs id sig ⟨args,[]⟩) _ _ s
  rw [h2];exact ai EW
theorem zc{v:Value}{Q:UInt64->Shared->Prop}(hh:A.handled=none)(hv:NumV v z)(h:∀x t',FQ x z->s.toks<=t'->Q x {s with toks:=t'}):wpAny (model prog w) A (Builtin.Math.realArg v) Q E s:=by
 rcases hv with ⟨x,t,hq,rfl⟩|⟨i,t,rfl,rfl,hi⟩
 ·exact aa (ai (ai (h x s.toks hq (ag _))))
 ·have hq:=FQ.ofInt (i:=i) (vG hi)
  refine Flt.realArg_int hh (λho=>?_) λ_=>h _ _ hq (aD _)
  have a1:(2:Nat)^50<=2^970:=iA (by decide) (by decide)
  have a2:(2:Nat)^970+2^970=2^971:=y_427
  have a3:(2:Nat)^971<=2^1024:=iA (by decide) (by decide)
  exact absurd ho (by unfold Flt.Over;exact y_627 hi)
theorem i7(x:UInt64):((x.toNat:Int).toNat).toUInt64=x:=by simp
theorem xK{l:Nat}(hh:A.handled=none)(Kq:∀(i:Nat) v z,items[i]?=some v->zs[i]?=some z->NumV v z)(Du:items.size=zs.length)(hb:∀z∈zs,z.natAbs<2^40)(hn:zs.length<2^10)(hS:∀i,(jc zs i).natAbs<2^50):
  ∀(k i:Nat) (s:Shared) (I T1 T2:Nat) (ps:List UInt64),zs.length-i=k->i<=zs.length->s.heap.IsListIter I l i->s.heap.IsList l items->@Ne Nat l I->s.heap.IsTuple T1 (ps.map λx=>rawInt x.toNat).toArray->s.heap.IsTuple T2 #[rawInt (ba false).toNat,rawInt (ba false).toNat] ->
   @Ne Nat T1 I->@Ne Nat T2 I->((ps=[]/\jc zs i=0)\/∃p,ps=[p]/\FQ p (jc zs i)) ->
   (∀x h' t',FQ x (jc zs zs.length)->(∀b o,¬@Eq Nat b I->s.heap.get? b=some o->h'.get? b=some o)->s.toks<=t'->0<t'\/s.toks=0->R (.ok (.ret (.float x t'))) {s with heap:=h',toks:=t'+1}) ->
   codeAny (model prog w) A (.builtin "math.fsum.loop" ⟨[.ref I,.ref T1,.ref T2],[]⟩) R s:=by
 intro k
 induction k with
 |zero =>
  intro i s I T1 T2 ps hk hi hit hl IW h1 h2 OZ K0 OF hR
  have Eg:i=zs.length:=yS hi hk
  subst Eg
  refine c7 lR ?_
  obtain⟨o1,Im,_,n1,Iw⟩:=h1
  obtain⟨o2,Fb,_,n2,Fs⟩:=h2
  refine aa (aa (bN Im Iw (ai ?_)))
  generalize hL:fC _ ((some (ps.map λx=>rawInt x.toNat).toArray).getD #[]).toList=L
  have O':L=ps:=by rw [<-hL];simp [rawInt,Function.comp_def]
  subst O'
  clear hL
  refine aa (aa (bN Fb Fs (ai ?_)))
  generalize LS:fC _ ((some #[rawInt (ba false).toNat,rawInt (ba false).toNat]).getD #[]).toList=L2
  have HS:L2=[ba false,ba false]:=by rw [<-LS];simp [rawInt]
  rw [HS]
  clear LS HS L2
  have Uk:items[zs.length]?=none:=by rw [<-Du];exact du (ag _)
  refine aa (wpAny_pyNext_list_end hh hit hl Uk λh' hx=>?_)
  have hz:gH (ba false)=true:=by rw [(FQ.zero false).isZero];rfl
  rw [hz]
  simp only [Bool.not_true,cB,if_false]
  have hq:FQ (Float64.fsumEnd L) (jc zs zs.length):=by
   rcases OF with ⟨rfl,h0⟩|⟨p,rfl,hp⟩
   ·rw [h0];exact FQ.zero false
   ·exact hp
  refine aa (wpAny_mkFloat (ai ?_))
  exact hR _ h' s.toks hq (λb o hb e=>hx b o hb e) (ag _) y_706
 |succ k ih =>
  intro i s I T1 T2 ps hk hi hit hl IW h1 h2 OZ K0 OF hR
  have Eg:i<zs.length:=yV hk
  refine c7 lR ?_
  have K3:=h2
  obtain⟨o1,Im,_,n1,Iw⟩:=h1
  obtain⟨o2,Fb,_,n2,Fs⟩:=h2
  refine aa (aa (bN Im Iw (ai ?_)))
  generalize hL:fC _ ((some (ps.map λx=>rawInt x.toNat).toArray).getD #[]).toList=L
  have O':L=ps:=by rw [<-hL];simp [rawInt,Function.comp_def]
  subst O'
  clear hL
  refine aa (aa (bN Fb Fs (ai ?_)))
  generalize LS:fC _ ((some #[rawInt (ba false).toNat,rawInt (ba false).toNat]).getD #[]).toList=L2
  have HS:L2=[ba false,ba false]:=by rw [<-LS];simp [rawInt]
  rw [HS]
  clear LS HS L2
  have Nf:items[i]?=some (items[i]'(fv Eg Du)):=aY (fv Eg Du)
  have KA:zs[i]?=some zs[i]:=ae Eg
  refine aa (eY hit hl Nf λh' EO Hv=>?_)
  refine aa (bp (zc hh (Kq i _ _ Nf KA) λx t' hx F1=>?_))
  have Ep:jc zs (i+1)=jc zs i+zs[i]:=oE KA
  have Gw:=hb zs[i] (dY Eg)
  have Fg:=hS i
  obtain⟨ps',top,QN,FT,Qn⟩:∃ps' top,fsumAdd L x=(ps',top)/\FQ top (jc zs (i+1))/\ps'=[]:=by
   rcases OF with ⟨rfl,h0⟩|⟨p,rfl,hp⟩
   ·exact⟨[],x,rfl,hx.cast (by rw [Ep,h0];exact y_554),rfl⟩
   ·obtain⟨GK,e,hq⟩:=tW hx hp (b6 0x80000000000010342801000000000071914002000000000000081a9214 (bZ (zs[i])) (bZ (jc zs i)) rfl Gw Fg)
    exact⟨[],GK,e,hq.cast (y_563 Ep),rfl⟩
  subst Qn
  rw [QN]
  dsimp only
  rw [FT.isFinite]
  simp only [if_true]
  have Qy:∃IR:List UInt64,(if gH top=true then([]:List UInt64) else [] ++ [top])=IR/\((IR=[]/\jc zs (i+1)=0)\/∃p,IR=[p]/\FQ p (jc zs (i+1)))/\IR.length<=1:=by
   refine⟨_,rfl,?_,by split<;>simp⟩
   rw [FT.isZero]
   by_cases h0:jc zs (i+1)=0
   ·rw [if_pos (decide_eq_true h0)];exact .inl ⟨rfl,h0⟩
   ·rw [if_neg (by simpa using h0)];exact .inr ⟨top,rfl,FT⟩
  obtain⟨IR,e2,Qm,Ej⟩:=Qy
  rw [e2]
  refine aa (cW ?_ (by simp;exact ab Ej (by decide)))
  refine ai ⟨dE lJ _,?_⟩
  have KP:∀b o,¬@Eq Nat b I->s.heap.get? b=some o->h'.get? b=some o:=λb o hb e=>Hv.extBut b o hb e
  have Ff:∀b o,¬@Eq Nat b I->s.heap.get? b=some o->(h'.push {cls:=.type "tuple",data:=.seq (IR.map λx=>rawInt x.toNat).toArray}).get? b=some o:=λb o hb e=>af _ (KP b o hb e)
  have IM:@cA Nat _ I h'.objs.size:=by obtain⟨o,ho,_⟩:=EO;exact iF ho
  refine ih (i+1) {s with heap:=h'.push {cls:=.type "tuple",data:=.seq (IR.map λx=>rawInt x.toNat).toArray},toks:=t'} I h'.objs.size T2 IR (wq hk) Eg (EO.at λo e=>af _ e) ((hl.at λo e=>KP l o IW e).push _) IW ⟨_,am _ rfl,rfl,_,rfl⟩
   (K3.at λo e=>Ff T2 o K0 e) (aB ‹_›) K0 Qm λx2 DN EZ Ux kk Mn Ea=>?_
  exact hR x2 DN EZ Ux (λb o hb e=>kk b o hb (Ff b o hb e)) (ab F1 Mn) (by have h5:s.toks<=t':=F1;have h6:0<EZ\/t'=0:=Ea;exact y_707 F1 Mn)
noncomputable def Nums(ds:List Dt)(zs:List Int):Prop:=ds.map oH=zs.map some
theorem Nums.get(h:Nums ds zs)(hd:ds[i]?=some d)(hz:zs[i]?=some z):oH d=some z:=by
 have h1:(ds.map oH)[i]?=some (oH d):=by rw [ah,hd];rfl
 have h2:(zs.map some)[i]?=some (some z):=by rw [ah,hz];rfl
 have h':ds.map oH=zs.map some:=h
 rw [h',h2] at h1
 simpa using h1.symm
theorem Nums.len(h:Nums ds zs):ds.length=zs.length:=by
 have h':ds.map oH=zs.map some:=h
 have:=congrArg List.length h';simpa using this
theorem xP{pos:Pos}(hh:A.handled=none)(l:Gl env G "fsum" (.builtin "math.fsum"))(he:Ev w A env G e (tO (.lst ds)))(Iv:Nums ds zs)
  (hb:∀z∈zs,z.natAbs<2^40) (hn:zs.length<2^10) (hS:∀i,(jc zs i).natAbs<2^50) (Eb:starEach [e] env=[(false,eval e env)]):
  Ev w A env G (.Call (.Name "fsum" p) [e] [] pos) (tV (pF (jc zs zs.length))):=by
 intro s Q E g t hQ
 refine aK (cC l g ?_)
 rw [Eb]
 refine bV rfl (aE (ar (he s _ _ g t λva h1 t1 u1 l1 Dv=>aA ?_)))
 obtain⟨a,items,rfl,_,hl,Dw⟩:=At.lst.mp Dv
 have Du:=Dw.length
 rw [aU,Iv.len] at Du
 refine ji xA vS v6 (yE _) ?_
 unfold Builtin.«math.fsum»
 refine aa (cD (a:=aM a) rfl ?_)
 refine aa (cT hl ?_)
 refine aa (cW ?_ (by decide))
 refine aa (cW ?_ (by decide))
 refine ai ⟨_,rfl,dE lJ _,?_⟩
 have DH:@cA Nat _ a h1.objs.size:=by obtain⟨o,ho,_⟩:=hl;exact iF ho
 generalize JB:h1.push {cls:=.type "list_iterator",data:=.fields #[.ref a,.int 0 0]}=H1
 have s1:H1.objs.size=h1.objs.size+1:=by rw [<-JB,ao]
 generalize Hm:H1.push {cls:=.type "tuple",data:=.seq (fC (λx=>rawInt ((iV x:Nat):Int)) []).toArray}=H2
 have s2:H2.objs.size=h1.objs.size+2:=by rw [<-Hm,ao,s1]
 have RA:Up H1 H2:=by rw [<-Hm];exact Up.push _ _
 have T6:Up h1 H1:=by rw [<-JB];exact Up.push _ _
 have hit:H1.IsListIter h1.objs.size a 0:=⟨_,by rw [<-JB];exact am _ rfl,rfl,rfl⟩
 have Lu:H2.IsTuple (h1.objs.size+1) (([]:List UInt64).map λx=>rawInt x.toNat).toArray:=⟨_,by rw [<-Hm,<-s1];exact am _ rfl,rfl,_,rfl⟩
 have Ol:Up H2 (H2.push {cls:=.type "tuple",data:=.seq (fC (λx=>rawInt ((iV x:Nat):Int)) [ba false,ba false]).toArray}):=Up.push _ _
 have RB:=(T6.trans RA).trans Ol
 have key:=xK (w:=w) (A:=A) (R:=λr s'=>match r with|.ok (.ret v)=>Q v s'|.ok _=>False|.error e=>E e s') (l:=a) (items:=items) (zs:=zs) hh
  (λi v z hv hz=>by
   have hi:i<ds.length:=by have:=(aV.mp hz).1;rw [Iv.len];exact this
   have hd:ds[i]?=some ds[i]:=ae hi
   have RE:=hb z (aF hz)
   exact NumV.of (Dw.get (by simpa using hv) hd) (Iv.get hd hz) (cV 0x1000000000071914000400000000000081914 (bZ z) rfl RE)) Du hb hn hS zs.length 0
  {s with heap:=H2.push {cls:=.type "tuple",data:=.seq (fC (λx=>rawInt ((iV x:Nat):Int)) [ba false,ba false]).toArray},toks:=t1} h1.objs.size (h1.objs.size+1) (h1.objs.size+2) [] yT (bY _)
  (hit.at λo e=>Ol _ _ (RA _ _ e)) (hl.at λo e=>RB _ _ e) (bW DH) (Lu.at λo e=>Ol _ _ e) ⟨_,by rw [<-s2];exact am _ rfl,rfl,_,rfl⟩ (cV 319918618 h1.objs.size rfl) (cV 2451673626 h1.objs.size rfl) (.inl ⟨rfl,by cases zs<;>rfl⟩)
  λx h' t' hq kk F1 Ea=>?_
 ·rw [s1,s2];exact key
 ·have h5:t1<=t':=F1
  have h6:0<t':=by have:=ad t l1;exact bX 0xba10a91090114b0114 s.toks t1 t' rfl t l1 F1
  refine hQ _ h' (t'+1) ⟨?_,?_⟩ (bX 0x17421522111b2910 s.toks t1 t' rfl l1 F1) ⟨x,t',aB h6,hq,rfl⟩
  ·intro b o e
   have e1:=u1.up b o e
   exact kk b o (by have:=iF e1;exact mh this) (RB b o e1)
  ·have e2:(H2.push {cls:=.type "tuple",data:=.seq (fC (λx=>rawInt ((iV x:Nat):Int)) [ba false,ba false]).toArray}).get? (h1.objs.size+2)=some {cls:=.type "tuple",data:=.seq (fC (λx=>rawInt ((iV x:Nat):Int)) [ba false,ba false]).toArray}:=by rw [<-s2];exact am _ rfl
   have e3:@cA Nat _ (h1.objs.size+2) h'.objs.size:=iF (kk (h1.objs.size+2) _ (cV 2451673626 h1.objs.size rfl) e2)
   have e4:=u1.sz
   exact bX 0x9b10a2219214ab10 h1.objs.size h'.objs.size s.heap.objs.size rfl e3 e4
end
section
open PySem.Float64 PySem.Builtin.Math
noncomputable def FV(v:Value)(z:Int):Prop:=∃x t,FQ x z/\v=.float x t
theorem ie{x y:Sem α}{Q:α->Shared->Prop}(h:x=y)(k:wpAny M A y Q E s):wpAny M A x Q E s:=h▸k
theorem CB{t0:Tok}{hi lo ti:UInt64}(h1:FQ hi z)(h2:FQ lo 0)(h3:FQ ti 0)(hz:z.natAbs<2^50)
  (hR:∀x,FQ x z->R (.ok (.ret (.float x (s.toks+1)))) {s with toks:=s.toks+1+1}):wpAny (model prog w) A.in1
   (do
    rule "math.sumprod.leaves-floats"
    let x <-mkFloat (tlToFloat (hi,lo,ti))
    let total <-holding (dH 0 t0::((none:Option Value).toList ++ (none:Option Value).toList)) (binaryOp Operator.Add (dH 0 t0) x)
    ret total)
   (λfin s'=>match fin with|.done f=>R (.ok f) s'|.again c'=>c'.quiet=true/\codeAny (model prog w) A c' R s') (λe s'=>R (.error e) s') s:=by
 have hq:=ry (t:=(hi,lo,ti)) h1 h2 h3 (cV 0x400000000000081924002000000000000081922414 (bZ z) rfl hz)
 have h0:=FQ.ofInt (i:=0) (by decide)
 have J1:=(h0.add hq (y_120 hz)).cast (show 2*0+z=z by exact y_428)
 refine aa (dB (aa (wpAny_mkFloat (aa (bp ?_)))))
 refine lp (by rw [h0.fin.1];decide) ?_
 exact ai (hR _ J1)
theorem uA{a1 a2 T:Nat}{t0:Tok}{io fu:Bool}{hi lo ti:UInt64}:∃tail:Option Value->Option Value->Sem Fin,
  (∀(A:Around) (R:Result->Shared->Prop) (s:Shared),s.heap.IsTuple T #[rawInt hi.toNat,rawInt lo.toNat,rawInt ti.toNat] ->
   wpAny (model prog w) A.in1 (pyNext (.ref a1)) (λp s'=>wpAny (model prog w) A.in1 (holding p.toList (pyNext (.ref a2))) (λq Ef=>wpAny (model prog w) A.in1 (tail p q) (λfin s'=>match fin with|.done f=>R (.ok f) s'|.again c'=>c'.quiet=true/\codeAny (model prog w) A c' R s') (λe s'=>R (.error e) s') Ef) (λe s'=>R (.error e) s') s') (λe s'=>R (.error e) s') s ->
   codeAny (model prog w) A (.builtin "math.sumprod.loop" ⟨[.ref a1,.ref a2,.int 0 t0,.bool io,rawInt 0,.bool false,.bool true,.ref T,.bool fu],[]⟩) R s) /\
  (∀(A:Around) (Q:Fin->Shared->Prop) (E:Value->Shared->Prop) (s:Shared),fu=true->wpAny (model prog w) A
    (do
     rule "math.sumprod.leaves-floats"
     let x <-mkFloat (tlToFloat (((hi.toNat:Int).toNat).toUInt64,((lo.toNat:Int).toNat).toUInt64,((ti.toNat:Int).toNat).toUInt64))
     let total <-holding (dH 0 t0::((none:Option Value).toList ++ (none:Option Value).toList)) (binaryOp Operator.Add (dH 0 t0) x)
     ret total) Q E s->wpAny (model prog w) A (tail none none) Q E s) /\
  (∀(A:Around) (Q:Fin->Shared->Prop) (E:Value->Shared->Prop) (s:Shared) (x y:UInt64) (tx ty:Tok) (f:UInt64×UInt64×UInt64),f=tlFma x y (((hi.toNat:Int).toNat).toUInt64,((lo.toNat:Int).toNat).toUInt64,((ti.toNat:Int).toNat).toUInt64)->j8 f.1=true ->
   Q (.again (.builtin "math.sumprod.loop" ⟨[.ref a1,.ref a2,.int 0 t0,.bool false,.int 0 0,.bool false,.bool true,.ref s.heap.objs.size,.bool true],[]⟩)) {s with heap:=s.heap.push {cls:=.type "tuple",data:=.seq #[rawInt f.1.toNat,rawInt f.2.1.toNat,rawInt f.2.2.toNat]}} ->
   wpAny (model prog w) A (tail (some (.float x tx)) (some (.float y ty))) Q E s):=by
 apply Exists.intro
 refine⟨?a,?b,?c⟩
 case a =>
  intro A R s hT h
  refine c7 m6 ?_
  obtain⟨o,ho,_,m,hd⟩:=hT
  refine aa (bN ho hd ?_)
  exact aa (bb h (λp s' hp=>aa hp) λ_ _ x=>x)
 case b =>
  rintro A Q E s rfl h
  cases io
  ·exact h
  ·exact aa (dB h)
 case c =>
  rintro A Q E s x y tx ty f rfl EW h
  refine ie (if_neg Bool.false_ne_true) ?_
  cases io
  ·exact ie (if_neg (by decide)) (ie (if_pos rfl) (ie (if_pos rfl) (ie (if_pos EW) (aa (cW (ai h) (show 3<=sizeLine by decide))))))
  ·refine ie (if_pos rfl) (aa (dB ?_))
   exact ie (if_neg (by decide)) (ie (if_pos rfl) (ie (if_pos rfl) (ie (if_pos EW) (aa (cW (ai h) (show 3<=sizeLine by decide))))))
theorem rA{a1 a2 n B:Nat}{us vs ps:List Int}(J J':Nat->Shared->Prop)(D D':Shared->Prop)
  (KN:us.length=n) (KM:vs.length=n) (GJ:ps.length=n) (Gb:∀(i:Nat) u v p,us[i]?=some u->vs[i]?=some v->ps[i]?=some p->2*p=u*v) (hb:∀p∈ps,p.natAbs<2^40) (hS:∀i,(jc ps i).natAbs<2^50)
  (mJ:∀i s h' t',J i s->Gr s.heap h'->s.toks<=t'->J i {s with heap:=h',toks:=t'})
  (mD:∀s h' t',D' s->Gr s.heap h'->s.toks<=t'->D' {s with heap:=h',toks:=t'})
  (s1:∀i u (s:Shared) (Q:Option Value->Shared->Prop) (E:Value->Shared->Prop),us[i]?=some u->J i s->(∀v s',FV v u->J' i s'->(∀b o,B<=b->s.heap.get? b=some o->s'.heap.get? b=some o)->Q (some v) s')->wpAny (model prog w) A.in1 (pyNext (.ref a1)) Q E s)
  (s2:∀i u (s:Shared) (Q:Option Value->Shared->Prop) (E:Value->Shared->Prop),vs[i]?=some u->J' i s->(∀v s',FV v u->J (i+1) s'->(∀b o,B<=b->s.heap.get? b=some o->s'.heap.get? b=some o)->Q (some v) s')->wpAny (model prog w) A.in1 (pyNext (.ref a2)) Q E s)
  (d1:∀(s:Shared) (Q:Option Value->Shared->Prop) (E:Value->Shared->Prop),J n s->(∀s',D s'->(∀b o,B<=b->s.heap.get? b=some o->s'.heap.get? b=some o)->Q none s')->wpAny (model prog w) A.in1 (pyNext (.ref a1)) Q E s)
  (d2:∀(s:Shared) (Q:Option Value->Shared->Prop) (E:Value->Shared->Prop),D s->(∀s',D' s'->Q none s')->wpAny (model prog w) A.in1 (pyNext (.ref a2)) Q E s)
  (jB:∀i s,J i s->B<=s.heap.objs.size) (jt:∀s,D' s->0<s.toks)
  (hR:∀x s',FQ x (jc ps n)->D' s'->R (.ok (.ret (.float x s'.toks))) {s' with toks:=s'.toks+1}):
  ∀(k i:Nat) (s:Shared) (T:Nat) (t0:Tok) (hi lo ti:UInt64) (io fu:Bool),n-i=k->i<=n->J i s->B<=T->s.heap.IsTuple T #[rawInt hi.toNat,rawInt lo.toNat,rawInt ti.toNat] ->
   FQ hi (jc ps i)->FQ lo 0->FQ ti 0->(fu=true\/i=0)->(0<n) ->
   codeAny (model prog w) A (.builtin "math.sumprod.loop" ⟨[.ref a1,.ref a2,.int 0 t0,.bool io,rawInt 0,.bool false,.bool true,.ref T,.bool fu],[]⟩) R s:=by
 intro k
 induction k with
 |zero =>
  intro i s T t0 hi lo ti io fu hk Eg hJ hBT hT h1 h2 h3 R1 hn
  have EE:i=n:=yS Eg hk
  subst EE
  have QI:fu=true:=by rcases R1 with h|h;exact h;exact AE hn h
  subst QI
  refine kF (uA (w:=w) (a1:=a1) (a2:=a2) (T:=T) (t0:=t0) (io:=io) (fu:=true) (hi:=hi) (lo:=lo) (ti:=ti)) λtail ha Em _=>?_
  refine ha A R s hT (d1 _ _ _ hJ λs' hD _=>bp (d2 _ _ _ hD λs2 hD2=>Em _ _ _ _ rfl ?_))
  have e1:((hi.toNat:Int).toNat).toUInt64=hi:=i7 hi
  have e2:((lo.toNat:Int).toNat).toUInt64=lo:=i7 lo
  have e3:((ti.toNat:Int).toNat).toUInt64=ti:=i7 ti
  rw [<-e1] at h1;rw [<-e2] at h2;rw [<-e3] at h3
  exact CB (R:=R) (s:=s2) (A:=A) (w:=w) (t0:=t0) h1 h2 h3 (by have:=hS i;exact Cp this) λx hx=>hR x {s2 with toks:=s2.toks+1} hx (mD s2 s2.heap (s2.toks+1) hD2 (Gr.refl _) (aD _))
 |succ k ih =>
  intro i s T t0 hi lo ti io fu hk Eg hJ hBT hT h1 h2 h3 R1 hn
  have EE:i<n:=yV hk
  have hu:us[i]?=some (us[i]'(fv EE KN)):=ae (fv EE KN)
  have hv:vs[i]?=some (vs[i]'(fv EE KM)):=ae (fv EE KM)
  have hp:ps[i]?=some (ps[i]'(fv EE GJ)):=ae (fv EE GJ)
  refine kF (uA (w:=w) (a1:=a1) (a2:=a2) (T:=T) (t0:=t0) (io:=io) (fu:=fu) (hi:=hi) (lo:=lo) (ti:=ti)) λtail ha _ hc=>?_
  refine ha A R s hT (s1 i _ _ _ _ hu hJ λv1 s' KG hJ' k1=>bp (s2 i _ _ _ _ hv hJ' λv2 Ef Oy hJ'' k2=>?_))
  have e1:((hi.toNat:Int).toNat).toUInt64=hi:=i7 hi
  have e2:((lo.toNat:Int).toNat).toUInt64=lo:=i7 lo
  have e3:((ti.toNat:Int).toNat).toUInt64=ti:=i7 ti
  rw [<-e1] at h1;rw [<-e2] at h2;rw [<-e3] at h3
  refine lF (KG) λx tx hx FP=>?_;subst FP
  refine lF (Oy) λy ty hy FP=>?_;subst FP
  have Va:=hb _ (dY (l:=ps) (fv EE GJ):ps[i]'(fv EE GJ)∈ps)
  have Fg:=hS i
  refine a3 (yY (t:=(_,_,_)) hx hy (Gb i _ _ _ hu hv hp) h1 h2 h3 (y_66 Va Fg)) λf1 f2 f3=>?_
  have EW:=f1.isFinite
  have Ep:jc ps (i+1)=jc ps i+ps[i]'(fv EE GJ):=oE hp
  exact hc _ _ _ _ _ _ _ _ _ rfl EW ⟨dE jG _,ih (i+1) _ Ef.heap.objs.size t0 _ _ _ false true (wq hk) EE (mJ _ Ef _ _ hJ'' (Gr.push _ _) (ag _)) (jB _ _ hJ'') ⟨_,am _ rfl,rfl,_,rfl⟩ (f1.cast Ep.symm) f2 f3 (.inl rfl) hn⟩
end
noncomputable def BmOk(h:Heap):Prop:=∃(m:Str->Option Value) (bm:Addr) (o:Obj),h.Ns 3 m/\m "__builtins__"=some (.ref bm)/\bm≠builtinsNs/\h.get? bm=some o/\o.cls=.type "module"/\o.dict=some builtinsNs/\o.data=.plain
noncomputable def TabOk(h:Heap)(c P:Addr):Prop:=∃ps,h.IsCode c P ps/\h.TableAt c P ps
theorem TabOk.up{c:Addr}(x:TabOk h c P)(u:Up h h'):TabOk h' c P:=ci x λps a b=>⟨ps,a.keeps u,b.keeps u⟩
theorem BmOk.but(x:BmOk h)(u:cY P h h')(hP:∃ps:Array Value,h.get? P=some {cls:=.none,data:=.fields ps}):BmOk h':=by
 refine e3a7 (x) λm bm o hn h1 h2 h3 h4 h5 h6=>?_
 obtain⟨ps,hp⟩:=hP
 refine⟨m,bm,o,hn.at' λo e=>u _ o (λq=>?_) e,h1,h2,u _ _ (λq=>?_) h3,h4,h5,h6⟩
 ·rw [q,hp] at e;cases e
  refine oi (hn) λo2 es ep e2 d2 _=>?_
  rw [q,hp] at e2;cases e2;cases d2
 ·rw [q,hp] at h3;cases h3;cases h4
theorem zt{c:Addr}{pos:Pos}(hc:env.code=.ref c)(ht:TabOk s.heap c P)
  (hQ:∀code h' tk,cY P s.heap h'->s.heap.objs.size<=h'.objs.size->s.toks<=tk->TabOk h' c P->Q code {s with heap:=h',toks:=tk}):wpAny (model prog w) A (genexprCode env pos qual scope) Q E s:=by
 refine ci (ht) λps h1 h2=>?_
 cases hn:codeAmong pos ps.toList with
 |some c'=>exact wpAny_genexprCode_hit hc h1 hn (hQ c' s.heap s.toks (λb o _ e=>e) (ag _) (ag _) ⟨ps,h1,h2⟩)
 |none =>
  refine cz (ag s.toks) (wpAny_genexprCodeX hc h1 h2 hn λc' h' tk hx DX DH HZ _ Qi _ DU=>?_)
  exact hQ _ h' tk hx (aJ (bU DX DH)) DU ⟨_,HZ,Qi⟩
noncomputable def CU(P:Addr)(cl:List (Str×Addr))(env:Env)(elt iter:Expr)(x:Str)(px:Pos)(scope:Scope)(pos:Pos)(zs:List Int)(c:Addr)(s:Shared)(Q:Value->Shared->Prop):Prop :=
 ∀(I C a l:Nat) (items:Array Value) (code:Value) h' t',cY P s.heap h'->s.toks<=t'->s.heap.objs.size<=I->I<C->C<a->h'.objs.size=a+1->l<I->¬@Eq Nat l P ->
  h'.IsList l items->items.size=zs.length->(∀(i:Nat) v z,items[i]?=some v->zs[i]?=some z->NumV v z)->h'.IsListIter I l 0->h'.IsGen a s.gens.size->h'.Ns C (λy=>if y=".0" then some (.ref I) else none)->TabOk h' c P ->
  Q (.ref a) {s with heap:=h',toks:=t',gens:=s.gens.push (.fresh (.compStart (.GeneratorExp elt [⟨.Name x px,iter,[],0⟩] scope pos) 0 (.ref I) .none (genEnv scope cl C code builtinsNs env)))}
theorem Ai{c:Addr}{pos:Pos}
  (r:Room A 1) (F5:scope.isCoroutine=false) (DM:closureFor scope env=pure cl) (DO:∀y∈scope.names,y.2≠.cell) (h0:scope.names.lookup (".0":Str)=some NameKind.local) (DK:scope.kind=.function)
  (hs:∀x,genFold iter env x=pure x) (hc:env.code=.ref c) (hg:env.globals=3) (he:Ev w A env G iter (tO (.lst ds))) (Iv:Nums ds zs) (hb:∀z∈zs,z.natAbs<2^50)
  (g:G.p s.heap) (t:0<s.toks) (ht:TabOk s.heap c P) (bm:BmOk s.heap) (nl:s.heap.NoLimit)
  (hQ:CU P cl env elt iter x px scope pos zs c s Q):
  wpAny (model prog w) A (eval (.GeneratorExp elt [⟨.Name x px,iter,[],0⟩] scope pos) env) Q E s:=by
 refine wpAny_GeneratorExp_make F5 DM DO h0 DK (by have:=r.depth;exact y_174 this) (he s _ _ g t λva h1 t1 G5 l1 Dv=>?_) hs
 refine fL (At.lst.mp Dv) λl items Dz _ hl Dw=>?_;subst Dz
 have Du:=Dw.length
 rw [aU,Iv.len] at Du
 refine cT hl ?_
 dsimp only
 generalize JB:h1.push {cls:=.type "list_iterator",data:=.fields #[.ref l,.int 0 0]}=H1
 have s1:H1.objs.size=h1.objs.size+1:=by rw [<-JB,ao]
 have k1:Up h1 H1:=by rw [<-JB];exact Up.push _ _
 have hit:H1.IsListIter h1.objs.size l 0:=⟨_,by rw [<-JB];exact am _ rfl,rfl,rfl⟩
 have u1:Up s.heap H1:=G5.up.trans k1
 have z1:=G5.sz
 refine ci (id ht) λps0 ic0 Lm=>?_
 have hPo:H1.get? P=some {cls:=.none,data:=.fields ps0}:=u1 _ _ Lm.2
 have hPlt:@cA Nat _ P s.heap.objs.size:=iF Lm.2
 have QD:@cA Nat _ l h1.objs.size:=by obtain⟨o,ho,_⟩:=hl;exact iF ho
 have hlP:¬@Eq Nat l P:=by
  intro q
  have q':l=P:=q
  obtain⟨o,ho,_,k,hd⟩:=hl.at (k1 l)
  rw [q',hPo] at ho;cases ho;cases hd
 refine⟨nl.keeps u1,zt (P:=P) hc (ht.up u1) λcode h2 t2 x2 L6 l2 G6=>?_⟩
 dsimp only at x2 L6 l2 G6
 have VL:BmOk h2:=(bm.but (P:=P) (λb o _ e=>u1 b o e) ⟨ps0,Lm.2⟩).but x2 ⟨ps0,hPo⟩
 refine e3a7 (VL) λm bmA o hn q1 q2 q3 q4 q5 q6=>?_
 refine wpAny_builtinsFor (hg▸hn) q1 q2 q3 q4 q5 q6 ?_
 intro h3 GW GH
 dsimp only at GW GH ⊢
 have L5:h3.objs.size=h2.objs.size+1:=by rw [GH.1,ao]
 have k3:Up h2 h3:=λb o e=>GH.extBut b o (bW (aX e)) (af _ e)
 have k5:Up h2 (h3.push {cls:=.type "generator",data:=.fields #[.int s.gens.size 0,.str "<genexpr>" (t2+1),.str (env.qual ++ "<genexpr>") (t2+1+1)]}):=λb o e=>af _ (k3 b o e)
 have hIP:(h1.objs.size:Nat)≠P:=bX 0xba10a9149b1a P s.heap.objs.size h1.objs.size rfl hPlt z1
 refine hQ h1.objs.size h2.objs.size h3.objs.size l items code _ (t2+1+1+1) ?_ (bX 0x5d0854884462311b222910 s.toks t1 t2 rfl l1 l2) z1 (bX 0x111b291ca910ab14 H1.objs.size h2.objs.size h1.objs.size rfl L6 s1) (b6 18804056562196 h3.objs.size h2.objs.size rfl L5) (by rw [ao]) QD hlP ?_ Du ?_ ?_ ⟨_,_,_,am _ rfl,rfl,rfl,rfl⟩ (GW.push _) (G6.up k5)
 ·exact λb o hb e=>k5 b o (x2 b o hb (u1 b o e))
 ·exact hl.at λo e=>k5 l o (x2 l o hlP (k1 l o e))
 ·intro i v z hv hz
  have hi:i<ds.length:=by have:=(aV.mp hz).1;rw [Iv.len];exact this
  have hd:ds[i]?=some ds[i]:=ae hi
  exact NumV.of (Dw.get (by simpa using hv) hd) (Iv.get hd hz) (hb z (aF hz))
 ·exact hit.at λo e=>k5 _ o (x2 _ o hIP e)
theorem oF(n:Nat):passing (λ_=>true) n 0=aG n:=by
 exact List.filter_eq_self.mpr λ_ _=>rfl
theorem tE(n:Nat):(passing (λ_=>true) n 0).length=n:=by rw [oF];simp
theorem tF{n:Nat}(h:(passing (λ_=>true) n 0)[j]?=some i):i=j:=by
 rw [oF] at h
 rw [cs] at h
 ·exact(ay h).symm
 ·have:=(aV.mp h).1
  simpa using this
theorem Bb{u:Value}{m:Int}{xb:UInt64}{tb:Tok}(hu:NumV u z)(hb:FQ xb m)(hz:(z-m).natAbs<2^53)
  (hQ:∀v t',FV v (z-m)->s.toks<=t'->Q v {s with toks:=t'}):wpAny (model prog w) A (binaryOp .Sub u (.float xb tb)) Q E s:=by
 rcases hu with ⟨x,t,hx,rfl⟩|⟨i,t,rfl,rfl,hi⟩
 ·exact AutoFloatOps.sub_0 (hQ _ _ ⟨_,_,hx.sub hb hz,rfl⟩ (aD _))
 ·have h0:=FQ.ofInt (i:=i) (vG hi)
  exact lh (by rw [h0.fin.1];decide) (hQ _ _ ⟨_,_,h0.sub hb hz,rfl⟩ (aD _))
theorem w5{bar:Str}{pos:Pos}{l:Nat}{Ms:Heap}{xb:UInt64}{tb:Tok}{m:Int}
  (hk:cenv.scope.kind=.function) (hx:cenv.kindOf x=some .local) (Kc:cenv.kindOf bar=some .free) (hc:cenv.cells.lookup bar=some cell) (Ou:(x==("__debug__":Str))=false) (Ot:(bar==("__debug__":Str))=false) (Os:(bar==("__classdict__":Str))=false)
  (Du:items.size=zs.length) (Hd:∀(i:Nat) v z,items[i]?=some v->zs[i]?=some z->NumV v z) (DO:Ms.IsCell cell (some (.float xb tb))) (Lo:FQ xb m) (LM:cell≠I) (hz:∀z∈zs,(z-m).natAbs<2^53):
  QuietGen prog w cenv x [] (.BinOp (.Name x p1) .Sub (.Name bar p2) pos) [I,l,cell,cStatics] [I] (λi v=>items[i]?=some v) (λ_=>true) (λi y=>∃z,zs[i]?=some z/\FV y (z-m)) Ms where
 tests:=λA' E' i v Ds m₂ _ _ _ _ _=>ai ⟨rfl,Ds.heap,Ds.toks,rfl,λ_ _ e=>e⟩
 elt:=λA' E' i v Ds m₂ hh hv _ hn hm Fr=>by
  have hi:i<items.size:=by obtain⟨h,_⟩:=bF.mp hv;exact h
  have KA:zs[i]?=some (zs[i]'(fq hi Du)):=ae (fq hi Du)
  refine ci (DO) λo ho hd=>?_
  have Kr:Ds.heap.IsCell cell (some (.float xb tb)):=⟨o,Fr cell (by simp) (by simpa using LM) o ho,hd⟩
  refine fz (mY hn hm ?_ hk hx Ou)
  refine wpAny_Name (wpAny_loadName_free hk Kc hc Kr ?_ Os) Ot
  exact Bb (Hd i v _ hv KA) Lo (hz _ (aF KA)) λy t' hy _=>⟨⟨_,KA,hy⟩,Ds.heap,t',rfl,λ_ _ e=>e⟩
noncomputable def SubG(w:World)(A:Around)(a g C I l cell:Nat)(zs:List Int)(m:Int)(j:Nat)(s:Shared):Prop :=
 GenAt prog w A a g C [I,l,cell,cStatics] [I] (λ_=>true) zs.length (λi y=>∃z,zs[i]?=some z/\FV y (z-m)) j s
theorem SubG.fresh{bar:Str}{pos QQ:Pos}{l a:Nat}{xb:UInt64}{tb:Tok}{m:Int}{code:Value}
  (hh:A.handled=none) (hk:scope.kind=.function) (F5:scope.isCoroutine=false) (hx:(genEnv scope cl C code builtinsNs env).kindOf x=some .local) (Kc:(genEnv scope cl C code builtinsNs env).kindOf bar=some .free) (hc:cl.lookup bar=some cell)
  (Ou:(x==("__debug__":Str))=false) (Ot:(bar==("__debug__":Str))=false) (Os:(bar==("__classdict__":Str))=false)
  (Du:items.size=zs.length) (Hd:∀(i:Nat) v z,items[i]?=some v->zs[i]?=some z->NumV v z) (DO:s.heap.IsCell cell (some (.float xb tb))) (Lo:FQ xb m) (LM:cell≠I) (IW:l≠I)
  (hC:C∉[I,l,cell,cStatics]) (hz:∀z∈zs,(z-m).natAbs<2^53) (hl:s.heap.IsList l items) (hit:s.heap.IsListIter I l 0) (hg:s.heap.IsGen a g)
  (hn:s.heap.Ns C (λy=>if y=".0" then some (.ref I) else none)) (nl:s.heap.NoLimit)
  (OR:s.gens[g]?=some (.fresh (.compStart (.GeneratorExp (.BinOp (.Name x p1) .Sub (.Name bar p2) pos) [⟨.Name x px,iter,[],0⟩] scope QQ) 0 (.ref I) .none (genEnv scope cl C code builtinsNs env)))):
  SubG w A a g C I l cell zs m 0 s:=by
 unfold SubG
 rw [<-Du]
 have W0:∀A':Around,A'.handled=none->Walks prog w A' I [I,l,cell,cStatics] [I] items.size (λi v=>items[i]?=some v) (λi h=>h.IsListIter I l i/\h.IsList l items):=λA' hA=>(ib hA I l IW items).mono_fp λb hb=>by
   rcases aQ.mp hb with rfl|hb
   ·simp
   ·rcases aQ.mp hb with rfl|hb
    ·simp
    ·cases hb
 have hq:QuietGen prog w (genEnv scope cl C code builtinsNs env) x [] (.BinOp (.Name x p1) .Sub (.Name bar p2) pos) [I,l,cell,cStatics] [I] (λi v=>items[i]?=some v) (λ_=>true) (λi y=>∃z,zs[i]?=some z/\FV y (z-m)) s.heap :=
  w5 (hk) hx Kc (hc) Ou Ot Os Du Hd DO Lo LM hz
 exact GenAt.fresh (cenv:=genEnv scope cl C code builtinsNs env) hh W0 (λ_=>true) _ hx (by simp [genEnv,hk]) F5 hC hq hg OR ⟨hit,hl⟩ hn nl
theorem SubG.walks(hh:A.handled=none){a l:Nat}(zs:List Int)(m:Int)(haC:a≠C)(ha:a∉[I,l,cell,cStatics])(MK:A.depth<recursionLimit)(hcC:cStatics≠C)(LM:cStatics≠I):
  WalksS prog w A a (a::C::[I,l,cell,cStatics]) (C::[I]) (GenOnlyQ g) zs.length (λj y=>∃z,zs[j]?=some z/\FV y (z-m)) (SubG w A a g C I l cell zs m):=by
 have W:=WalksS.genexpQ (prog:=prog) (w:=w) (A:=A) hh a g C [I,l,cell,cStatics] [I] (λ_=>true) zs.length (λi y=>∃z,zs[i]?=some z/\FV y (z-m)) haC ha (by simp) MK (by simp) hcC (by simpa using LM)
 rw [tE] at W
 refine⟨W.sub,W.grefl,W.gtrans,W.frame,λi s Q E hi st hQ=>W.item i s Q E hi st λv s' hp EQ mv=>hQ v s' ?_ EQ mv,W.done,W.self⟩
 refine ci (hp) λi' GK hF=>?_
 rw [tF GK] at hF
 exact hF
theorem SubG.move{a l:Nat}{m:Int}(x:SubG w A a g C I l cell zs m j s)(hk:∀b∈a::C::[I,l,cell,cStatics],∀o,s.heap.get? b=some o->s'.heap.get? b=some o)
  (hg:s'.gens[g]?=s.gens[g]?):SubG w A a g C I l cell zs m j s' :=
 ⟨Dc x.1 λo nm qn ho r=>⟨o,nm,qn,hk a (aW ..) o ho,r⟩,
   (ci x.2.1 λmc KK Nt=>⟨mc,KK.at' λo e=>hk cStatics (by simp) o e,Nt⟩),
   ci x.2.2 λgs OR U0=>⟨gs,hg▸OR,λEf LP=>U0 Ef λb hb o e=>LP b hb o (hk b (az _ hb) o e)⟩⟩
theorem Ar{a b:Array GenState}(x:GenOnlyQ g a b)(h:k≠g):b[k]?=a[k]?:=by
 rcases x with rfl|⟨⟨_,ho⟩,_⟩
 ·rfl
 ·exact ho k h
noncomputable def Bare(gens:Array GenState):Prop:=∀x∈gens,GenState.bare x=true
structure Side(s:Shared)(C1 I1 C2 I2:Nat)(s':Shared):Prop where
 same:s'={s with heap:=s'.heap,toks:=s'.toks,gens:=s'.gens}
 kept:∀b o,¬@Eq Nat b C1->¬@Eq Nat b I1->¬@Eq Nat b C2->¬@Eq Nat b I2->s.heap.get? b=some o->s'.heap.get? b=some o
 sz:s.heap.objs.size<=s'.heap.objs.size
 bare:Bare s'.gens
 tk:s.toks<=s'.toks
theorem CE{s1:Shared}(h:s1={s with heap:=s1.heap,toks:=s1.toks,gens:=s1.gens}):({s1 with heap:=h',toks:=t'}:Shared)={s with heap:=h',toks:=t',gens:=s1.gens}:=by rw [h]
theorem Side.step{s1 s2:Shared}{C1 I1 C2 I2:Nat}{wr:List Addr}(x:Side s C1 I1 C2 I2 s1)(m:Moved wr (GenOnlyQ g) s1 s2)(KD:∀b:Nat,b∈wr->@Eq Nat b C1\/@Eq Nat b I1\/@Eq Nat b C2\/@Eq Nat b I2)(hz:s.heap.objs.size<=s2.heap.objs.size):
  Side s C1 I1 C2 I2 s2:=by
 refine⟨?_,λb o h1 h2 h3 h4 e=>m.heap b o (λq=>?_) (x.kept b o h1 h2 h3 h4 e),hz,m.gens.bare x.bare,ab x.tk m.toks⟩
 ·have h1:=m.drawn;have h2:=m.os
  have h3:s1.drawn=s.drawn:=by rw [x.same]
  have h4:s1.os=s.os:=by rw [x.same]
  cases s2;cases s
  simp_all
 ·rcases KD b q with q|q|q|q
  ·exact h1 q
  ·exact h2 q
  ·exact h3 q
  ·exact h4 q
theorem rB{a1 g1 C1 I1 l1 c1 a2 g2 C2 I2 l2 c2:Nat}{ps:List Int}{n:Nat}
  (hh:A.handled=none) (r:Room A 4) (x1:SubG w A.in1.in1 a1 g1 C1 I1 l1 c1 zs mx 0 s) (x2:SubG w A.in1.in1 a2 g2 C2 I2 l2 c2 ws my 0 s)
  (o1:I1<C1) (o2:C1<a1) (o3:a1<I2) (o4:I2<C2) (o5:C2<a2) (o6:s.heap.objs.size=a2+1) (o7:l1<I1) (o8:c1<I1) (o9:c2<I1) (Tw:¬@Eq Nat l2 I1) (Rl:¬@Eq Nat l2 C1) (Rk:¬@Eq Nat l2 a1) (Rj:l2<I2) (Tv:cStatics<I1) (Ri:g1≠g2)
  (LN:Bare s.gens) (t:0<s.toks) (KN:zs.length=n) (KM:ws.length=n) (GJ:ps.length=n) (hn:0<n)
  (Gb:∀(i:Nat) u v p,zs[i]?=some u->ws[i]?=some v->ps[i]?=some p->2*p=(u-mx)*(v-my)) (hb:∀p∈ps,p.natAbs<2^40) (hS:∀i,(jc ps i).natAbs<2^50)
  (hQ:∀x s',FQ x (jc ps n)->Side s C1 I1 C2 I2 s'->Q (.float x s'.toks) {s' with toks:=s'.toks+1}):
  wpAny (model prog w) A (call (.builtin "math.sumprod") [.ref a1,.ref a2]) Q E s:=by
 have Mf:(2:Nat)<I1:=Tv
 have KS:(cStatics:Nat)=2:=rfl
 have I0:∀b:Nat,@Eq Nat cStatics b->¬@cA Nat _ 2 b:=λb q=>by have q':(2:Nat)=b:=q;exact cV 0x92211c922116 b rfl q
 have W1:=SubG.walks (w:=w) (A:=A.in1.in1) hh (a:=a1) (g:=g1) (C:=C1) (I:=I1) (l:=l1) (cell:=c1) zs mx (aB ‹_›) (by
  intro h;simp only [aQ,cb,or_false] at h;have h':=h;clear h;rcases h' with h'|h'|h'|h'<;>(try have h2:@Eq Nat _ _:=h')<;>first|lia|(exact I0 _ h'.symm (by lia))) (by have:=r.depth;show A.depth<_;exact vE this) (λq=>I0 _ q (b6 0xa914922114a22114 I1 C1 rfl Mf o1)) (λq=>I0 _ q ‹_›)
 have W2:=SubG.walks (w:=w) (A:=A.in1.in1) hh (a:=a2) (g:=g2) (C:=C2) (I:=I2) (l:=l2) (cell:=c2) ws my (aB ‹_›) (by
  intro h;simp only [aQ,cb,or_false] at h;have h':=h;clear h;rcases h' with h'|h'|h'|h'<;>(try have h2:@Eq Nat _ _:=h')<;>first|lia|(exact I0 _ h'.symm (by lia))) (by have:=r.depth;show A.depth<_;exact vE this) (λq=>I0 _ q (y_53 o4 o3 Rj Rk)) (λq=>I0 _ q (y_52 o3 Rj Rk o2 Rl))
 rw [KN] at W1
 rw [KM] at W2
 refine ji rW qy qM (sM _ _) ?_
 unfold Builtin.«math.sumprod»
 refine aa (cD (a:=[aM a1,aM a2]) rfl ?_)
 refine aa (gG (W1.self 0 _ _ _ x1 ?_))
 refine aa (bp (gG (W2.self 0 _ _ _ x2 ?_)))
 refine aa (wpAny_mkInt ?_)
 refine aa (cW ?_ (show 3<=sizeLine by decide))
 refine ai ⟨_,rfl,dE jG _,?_⟩
 generalize hH:s.heap.push {cls:=.type "tuple",data:=.seq ([rawInt ((ba false).toNat:Int),rawInt ((ba false).toNat:Int),rawInt ((ba false).toNat:Int)]:List Value).toArray}=H
 have kH:Up s.heap H:=by rw [<-hH];exact Up.push _ _
 have zH:H.objs.size=s.heap.objs.size+1:=by rw [<-hH,ao]
 have hT:H.IsTuple s.heap.objs.size #[rawInt (ba false).toNat,rawInt (ba false).toNat,rawInt (ba false).toNat]:=⟨_,by rw [<-hH];exact am _ rfl,rfl,_,rfl⟩
 have VO:∀b:Nat,b∈([a2,C2,I2,l2,c2,2]:List Nat)->b∉([C1,I1]:List Nat):=by
  intro b hb h;simp only [aQ,cb,or_false] at h hb;exact y_717 Mf o1 o2 o3 o4 o5 o9 Tw Rl h hb
 have VN:∀b:Nat,b∈([a1,C1,I1,l1,c1,2]:List Nat)->b∉([C2,I2]:List Nat):=by
  intro b hb h;simp only [aQ,cb,or_false] at h hb;exact y_723 o1 o2 o3 o4 o7 o8 h hb
 have Rm:∀{j:Nat} {s1 s2:Shared},SubG w A.in1.in1 a2 g2 C2 I2 l2 c2 ws my j s1->Moved (C1::[I1]) (GenOnlyQ g1) s1 s2->SubG w A.in1.in1 a2 g2 C2 I2 l2 c2 ws my j s2:=λx m=>x.move (λb hb o e=>m.heap b o (VO b hb) e) (Ar m.gens (iZ Ri))
 have TL:∀{j:Nat} {s1 s2:Shared},SubG w A.in1.in1 a1 g1 C1 I1 l1 c1 zs mx j s1->Moved (C2::[I2]) (GenOnlyQ g2) s1 s2->SubG w A.in1.in1 a1 g1 C1 I1 l1 c1 zs mx j s2:=λx m=>x.move (λb hb o e=>m.heap b o (VN b hb) e) (Ar m.gens Ri)
 have Pj:∀{j:Nat} {s1:Shared},SubG w A.in1.in1 a2 g2 C2 I2 l2 c2 ws my j s1->s.heap.objs.size<=s1.heap.objs.size:=λx=>by
  refine Dc (x.1) λo nm qn ho _=>?_
  have:@cA Nat _ a2 _:=iF ho
  exact y_371 this o6
 have PE:∀b:Nat,s.heap.objs.size<=b->b∉([C1,I1]:List Nat)/\b∉([C2,I2]:List Nat):=by
  intro b hb
  constructor<;>(intro h;simp only [aQ,cb,or_false] at h;lia)
 have TJ:a2∉([C2,I2]:List Nat):=by intro h;simp only [aQ,cb,or_false] at h;exact y_734 o4 o5 h
 have MC:Side s C1 I1 C2 I2 {s with heap:=H,toks:=s.toks+1}:=⟨rfl,λb o _ _ _ _ e=>kH b o e,(by show _<=H.objs.size;exact b6 18804056562192 H.objs.size s.heap.objs.size rfl zH),LN,aD _⟩
 have key:=rA (w:=w) (A:=A) (R:=λr s'=>match r with|.ok (.ret v)=>Q v s'|.ok _=>False|.error e=>E e s') (a1:=a1) (a2:=a2) (n:=n) (B:=s.heap.objs.size) (us:=zs.map (·-mx)) (vs:=ws.map (·-my)) (ps:=ps)
  (λi s'=>SubG w A.in1.in1 a1 g1 C1 I1 l1 c1 zs mx i s'/\SubG w A.in1.in1 a2 g2 C2 I2 l2 c2 ws my i s'/\Side s C1 I1 C2 I2 s')
  (λi s'=>SubG w A.in1.in1 a1 g1 C1 I1 l1 c1 zs mx (i+1) s'/\SubG w A.in1.in1 a2 g2 C2 I2 l2 c2 ws my i s'/\Side s C1 I1 C2 I2 s')
  (λs'=>SubG w A.in1.in1 a2 g2 C2 I2 l2 c2 ws my n s'/\Side s C1 I1 C2 I2 s') (λs'=>Side s C1 I1 C2 I2 s')
  (by simpa using KN) (by simpa using KM) GJ
  (λi u v p hu hv hp=>by
   simp only [ah,aq] at hu hv
   obtain⟨u,hu,rfl⟩:=hu
   obtain⟨v,hv,rfl⟩:=hv
   exact Gb i u v p hu hv hp) hb hS
  (λi s' h' t' ⟨p1,p2,p3⟩ u l=>⟨W1.frame _ _ h' t' p1 l λb _ o e=>u.up b o e,W2.frame _ _ h' t' p2 l λb _ o e=>u.up b o e,⟨CE p3.same,λb o h1 h2 h3 h4 e=>u.up b o (p3.kept b o h1 h2 h3 h4 e),ab p3.sz u.sz,p3.bare,ab p3.tk l⟩⟩)
  (λs' h' t' p3 u l=>⟨CE p3.same,λb o h1 h2 h3 h4 e=>u.up b o (p3.kept b o h1 h2 h3 h4 e),ab p3.sz u.sz,p3.bare,ab p3.tk l⟩)
  (λi u s' Q' E' hu ⟨p1,p2,p3⟩ En=>by
   simp only [ah,aq] at hu
   obtain⟨u,hu,rfl⟩:=hu
   have hi:i<n:=by have:=(aV.mp hu).1;exact fq this KN
   refine gG (W1.item i s' Q' E' hi p1 λv s2 hv FI m=>?_)
   obtain⟨z,hz,hF⟩:=hv
   rw [hu] at hz;cases hz
   have H0:=Rm p2 m
   exact En v s2 hF ⟨FI,H0,p3.step m (by intro b h;simp only [aQ,cb,or_false] at h;rcases h with h|h<;>simp [h]) (Pj H0)⟩ λb o hb e=>m.heap b o (PE b hb).1 e)
  (λi u s' Q' E' hu ⟨p1,p2,p3⟩ En=>by
   simp only [ah,aq] at hu
   obtain⟨u,hu,rfl⟩:=hu
   have hi:i<n:=by have:=(aV.mp hu).1;exact fq this KM
   refine gG (W2.item i s' Q' E' hi p2 λv s2 hv H0 m=>?_)
   obtain⟨z,hz,hF⟩:=hv
   rw [hu] at hz;cases hz
   have FI:=TL p1 m
   exact En v s2 hF ⟨FI,H0,p3.step m (by intro b h;simp only [aQ,cb,or_false] at h;rcases h with h|h<;>simp [h]) (Pj H0)⟩ λb o hb e=>m.heap b o (PE b hb).2 e)
  (λs' Q' E' ⟨p1,p2,p3⟩ En=>by
   refine gG (W1.done s' Q' E' p1 λs2 m=>?_)
   have H0:=Rm p2 m
   exact En s2 ⟨H0,p3.step m (by intro b h;simp only [aQ,cb,or_false] at h;rcases h with h|h<;>simp [h]) (Pj H0)⟩ λb o hb e=>m.heap b o (PE b hb).1 e)
  (λs' Q' E' ⟨p2,p3⟩ En=>by
   refine gG (W2.done s' Q' E' p2 λs2 m=>?_)
   refine En s2 (p3.step m (by intro b h;simp only [aQ,cb,or_false] at h;rcases h with h|h<;>simp [h]) ?_)
   refine Dc (p2.1) λo nm qn ho _=>?_
   have:@cA Nat _ a2 _:=iF (m.heap a2 o TJ ho)
   exact bX 0x11192b18a914ab10 a2 s2.heap.objs.size s.heap.objs.size rfl this o6)
  (λi s' ⟨_,_,p3⟩=>p3.sz) (λs' p3=>ad t p3.tk)
  (λx s' hx p3=>hQ x s' hx p3) n 0 {s with heap:=H,toks:=s.toks+1} s.heap.objs.size s.toks (ba false) (ba false) (ba false) true false yT (aJ ‹_›)
  ⟨W1.frame _ _ H _ x1 (aD _) λb _ o e=>kH b o e,W2.frame _ _ H _ x2 (aD _) λb _ o e=>kH b o e,MC⟩ (ag _) hT ((FQ.zero false).cast (by cases ps<;>rfl)) (FQ.zero false) (FQ.zero false) (.inr rfl) hn
 exact key
noncomputable def Tb(h:Heap)(P:Addr):Prop:=∃ps:Array Value,TriplesOk ps.toList/\h.get? P=some {cls:=.none,data:=.fields ps}
theorem TabOk.tb{c:Addr}(x:TabOk h c P):Tb h P:=by
 refine ci (x) λps h1 h2=>?_
 obtain⟨o,vs,file,tf,flags,tg,IU,text,tt,op,ho,hd,K4,K3,h7,h9,LV,RO,hpd,Un,DY⟩:=h1
 exact⟨ps,Un,h2.2⟩
theorem AS{l:List Value}{t:Tok}(tr:TriplesOk l)(r:some (Value.str q t)=l[1]?):False:=by
 cases l with
 |nil=>cases r
 |cons x l=>cases l with
  |nil=>cases r
  |cons y l =>
   have hy:y=.str q t:=(ay r).symm
   subst hy
   cases l with
   |nil=>cases x with
    |int i u=>exact tr
    |_=>exact tr
   |cons z l=>cases x with
    |int i u=>exact tr
    |_=>exact tr
theorem rQ{a:Addr}{m:Str->Option Value}(hP:Tb h P)(u:cY P h h')(x:h.Ns a m):h'.Ns a m:=by
 refine ci (hP) λps _ hp=>?_
 refine oi (x) λo es ep e d r=>?_
 exact⟨o,es,ep,u _ _ (λq=>by rw [q,hp] at e;cases e;cases d) e,d,r⟩
theorem A2{cd:Value}(hP:Tb h P)(u:cY P h h')(x:h.CodeRec cd q):h'.CodeRec cd q:=by
 refine ci (hP) λps tr hp=>?_
 refine e4a4 (x) λc o vs t e g d r=>?_
 refine⟨c,o,vs,t,e,u _ _ (λq=>?_) g,d,r⟩
 rw [q,hp] at g;cases g
 cases d
 have r':ps.toList[1]?=ps[1]?:=by simp
 rw [r] at r'
 exact AS tr r'.symm
theorem CW{a:Nat}{t:Stmt}{d k:Value}(hP:Tb h P)(u:cY P h h')(x:FnAt h a t q d k):FnAt h' a t q d k:=by
 refine zC (x) λo pm cd doc e d c=>?_
 refine⟨o,pm,cd,doc,u _ _ (λq=>?_) e,d,A2 hP u c⟩
 refine ci (hP) λps _ hp=>?_
 rw [q,hp] at e;cases e;cases d
theorem Aq{v:Value}(hP:Tb h P)(u:cY P h h')(g:GV h x v):GV h' x v :=
 g.imp (fun⟨m,a,b⟩=>⟨m,rQ hP u a,b⟩) λz9=>fL z9 λm mb a b c d=>⟨m,mb,rQ hP u a,b,rQ hP u c,d⟩
theorem BE{C N:Addr}{mN:Str->Option Value}(hP:Tb h P)(u:cY P h h')(X:ClsAt h C N mN):ClsAt h' C N mN:=by
 obtain⟨nm,q,bs,sn,sub,col,dd,k0,k1,k2,k3,k5,e⟩:=X.obj
 refine⟨⟨nm,q,bs,sn,sub,col,dd,k0,k1,k2,k3,k5,u _ _ (λq=>?_) e⟩,rQ hP u X.ns⟩
 refine ci (hP) λps _ hp=>?_
 rw [q,hp] at e;cases e
theorem Kn.but(hP:Tb h P)(u:cY P h h')(x:Kn h):Kn h' :=
 ⟨ci x.nl λmc a b=>⟨mc,rQ hP u a,b⟩,λy v m=>Aq hP u (x.gl y v m),λy v m=>Aq hP u (x.bl y v m),λa t q d k m=>CW hP u (x.fn a t q d k m),
  ci x.tc λmN a b=>⟨mN,BE hP u a,b⟩,λa ha=>ci (x.tf a ha) λo e c=>⟨o,u _ _ (λq=>by
   refine ci (hP) λps _ hp=>?_
   rw [q,hp] at e;cases e;cases c) e,c⟩⟩
noncomputable def jh(h:Heap)(P:Nat):Heap:={h with objs:=h.objs.setIfInBounds P {cls:=.none,data:=.freed}}
theorem kG(h:Heap)(P:Nat):(jh h P).objs.size=h.objs.size:=by simp [jh]
theorem hU(h:Heap)(P b:Nat)(hb:¬b=P):(jh h P).get? b=h.get? b:=by
 unfold Heap.get? jh
 rw [gU (iZ hb)]
theorem kJ(h:Heap)(P:Nat):(jh h P).get? P=none:=by
 unfold Heap.get? jh
 by_cases hl:P<h.objs.size
 ·rw [ft hl]
 ·rw [du (by simp;exact nj hl)]
theorem qP(h:Heap)(P:Nat):cY P h (jh h P):=λb o hb e=>by rw [hU h P b hb];exact e
theorem xU(u:cY P h h'):Up (jh h P) h':=λb o e=>by
 by_cases hb:@Eq Nat b P
 ·have Em:b=P:=hb
  rw [Em,kJ] at e;cases e
 ·exact u b o hb (by rw [<-hU h P b hb];exact e)
theorem tJ(z n q:Int)(hn:0<n)(Ex:n<2^40)(hq:q*n=z)(hb:q.natAbs<2^52):OpR w A .Div (pF z) (pI n) (pF q):=by
 rintro s _ _ Q E ht ⟨x,t,_,hx,rfl⟩ ⟨u,_,rfl⟩ hQ
 have h0:=FQ.ofInt (i:=n) (y_135 hn Ex)
 refine AutoFloatOps.truediv_fi_2 (by rw [h0.fin.1];decide) (by rw [h0.isZero];simp;exact cN 618765752603 n rfl hn) ?_
 exact hQ _ _ (aD _) ⟨_,_,aB ht,hx.div h0 (cN 0x901250192241b n rfl hn) (by rw [<-hq];rw [<-dF,Int.mul_comm q 2,dF]) (cV 0x1000000000000081914002000000000000081914 (bZ q) rfl hb),rfl⟩
theorem vo{pm cd doc:Value}{o:Obj}{a:Nat}{t:Stmt}{ET:List Value}{binds:List (Str×Value)}{n:Nat}
  (r:Room A (n+1)) (ho:s.heap.get? a=some o) (hd:o.data=.func (pX t qual EM EK pm cd doc)) (Gu:s.heap.CodeRec cd qual) (nl:s.heap.NoLimit)
  (D7:bindArgs (pX t qual EM EK pm cd doc) ⟨ET,[]⟩=pure binds)
  (DK:∀x∈binds,(aZ t).names.lookup x.1=some .local\/((aZ t).names.lookup x.1=some .cell/\((cellsFrom (s.heap.objs.size+1) (aZ t).names []).lookup x.1).isSome=true))
  (LG:((cellsFrom 0 (aZ t).names []).map (·.1)).Nodup)
  (h:∀C' env,env=ky t qual EM EK a s.heap.objs.size pm cd doc->Gr s.heap C'.heap->s.toks<=C'.toks->C'={s with heap:=C'.heap,toks:=C'.toks}->Room (A.deeper env) n ->
   Fm s.heap env (s.heap.objs.size+1+nC (aZ t).names) (bindL env.kindOf binds λ_=>none) (bindC env.kindOf binds λ_=>none) C'.heap ->
   (∃b,OwnB env b/\s.heap.objs.size+1+nC (aZ t).names<=b+1) ->
   ∀E,wpAny (model prog w) (A.deeper env) (execs (gR t) env) (λf s'=>Q (match f with|.ret v=>v|_=>.none) s') E C')
  (F5:(aZ t).isCoroutine=false:=by rfl) (EV:(aZ t).isGenerator=false:=by rfl) (hk:(aZ t).kind=.function:=by rfl):
  wpAny (model prog w) A (call (.ref a) ET) Q E s:=by
 refine cw (gZ (by have:=r.depth;exact vE this) ho hd F5 EV rfl Gu ?_)
 rw [D7]
 show wpAny _ _ (pure binds) _ _ _
 refine ai (cz (ag s.toks) (d5 hk DK λenv he C' x DU=>?_))
 refine⟨nl.keeps x.toInCall.keep,codeAny_func ?_⟩
 have HO:∀L:Nat,((cellsFrom L (aZ t).names []).map (·.1)).Nodup:=λL=>by rw [eJ _ L 0 [] [] rfl];exact LG
 have fm:=Fm.ofCall x λn c hm=>gv (he▸HO _) n c hm
 have hsz:s.heap.objs.size<=C'.heap.objs.size:=aJ (bU x.toInCall.fresh (wh x.toInCall.ns))
 have hs:=x.toInCall.same
 have hL:@Eq Nat env.locals s.heap.objs.size:=by rw [he];rfl
 have Er:env.cells=cellsFrom (s.heap.objs.size+1) (aZ t).names []:=by rw [he];rfl
 have D4:∀b,OwnB env b->b<s.heap.objs.size+1+nC (aZ t).names:=by
  rintro b (q|⟨n,hm⟩)
  ·exact dh 0x174315231911b22914 b env.locals s.heap.objs.size (nC (aZ t).names) rfl q hL
  ·rw [Er] at hm
   rcases fy _ _ _ n b hm with q|q
   ·cases q
   ·exact q.2
 have FT:∃b,OwnB env b/\s.heap.objs.size+1+nC (aZ t).names<=b+1:=by
  by_cases hz:nC (aZ t).names=0
  ·exact⟨env.locals,.inl rfl,bX 0x2e870064622345311b2210 (nC (aZ t).names) env.locals s.heap.objs.size rfl hz hL⟩
  ·obtain⟨n,hn⟩:=(fE (aZ t).names (s.heap.objs.size+1) []).2 hz
   exact⟨_,.inr ⟨n,Er▸hn⟩,AJ⟩
 exact bb (h C' env he ⟨x.toInCall.keep,hsz⟩ DU (by obtain⟨h1,tk,rfl⟩:=hs;rfl) (r.deeper env) {fm with own:=D4} FT _) (λf s' hq=>hq) λ_ _ e=>e
theorem TabOk.at2{c:Addr}(x:TabOk h c P)(hc:∀o,h.get? c=some o->h'.get? c=some o)(hp:∀o,h.get? P=some o->h'.get? P=some o):TabOk h' c P:=by
 refine ci (x) λps h1 h2=>?_
 obtain⟨o,vs,file,tf,flags,tg,IU,text,tt,op,ho,hd,K4,K3,h7,h9,LV,RO,r⟩:=h1
 obtain⟨⟨oc,vc,IV,q⟩,htP⟩:=h2
 exact⟨ps,⟨o,vs,file,tf,flags,tg,IU,text,tt,op,hc _ ho,hd,K4,K3,h7,h9,LV,hp _ RO,r⟩,⟨oc,vc,hc _ IV,q⟩,hp _ htP⟩
theorem BmOk.up(x:BmOk h)(u:Up h h'):BmOk h':=by
 refine e3a5 (x) λm bm o hn h1 h2 h3 r=>?_
 exact⟨m,bm,o,hn.keeps u,h1,h2,u _ _ h3,r⟩
theorem BmOk.cut{P:Nat}(x:BmOk h)(hP:Tb h P):BmOk (jh h P):=by
 refine ci (hP) λps _ hp=>?_
 exact x.but (qP h P) ⟨ps,hp⟩
theorem AtAll.scal2:∀{vs:List Value} {ds:List Dt},AtAll lo h vs ds->(∀d∈ds,Scal d=true)->AtAll Es h' vs ds
 |[],[],_,_=>by simp only [aN,aC,aL,aR]
 |v::vs,d::ds,x,hs=>by
  exact⟨Scal.move (hs d (by simp)) x.1,AtAll.scal2 x.2 λd hd=>hs d (by simp [hd])⟩
 |[],_::_,x,_=>by simp [aN,aC,aL,aR] at x
 |_::_,[],x,_=>by simp [aN,aC,aL,aR] at x
theorem AC{v:Value}(hP:Tb h P)(u:cY P h h')(x:At lo h v (.lst ds))(hs:∀d∈ds,Scal d=true):At lo h' v (.lst ds):=by
 refine fL (At.lst.mp x) λa items Dz hl hi Dw=>?_;subst Dz
 refine ci (hP) λps _ hp=>?_
 refine At.lst.mpr ⟨a,items,rfl,hl,hi.at λo e=>u a o (λq=>?_) e,Dw.scal2 hs⟩
 obtain⟨o2,e2,_,k,d2⟩:=hi
 rw [q,hp] at e2;cases e2;cases d2
theorem rP(h:Nums ds zs):∀d∈ds,Scal d=true:=by
 intro d hd
 have h':ds.map oH=zs.map some:=h
 have:oH d∈zs.map some:=h'▸List.mem_map_of_mem hd
 refine ci (bK.mp this) λz _ hz=>?_
 cases d<;>first|rfl|exact nn hz.symm
theorem FxH.but{P:Nat}(x:FxH DA env lo [] Γ h)(u:cY P h h')(h0:DA.get? P=none)(DZ:P<lo)(ho:¬OwnB env P):FxH DA env lo [] Γ h':=by
 obtain⟨e,m,cm,f,g⟩:=x
 refine⟨λa ds ha=>(nomatch ha),m,cm,f.but ho h0 λb o hb e=>u b o hb e,g.upF λb o hb e=>u b o (λq=>?_) e⟩
 have q':@Eq Nat b P:=q
 exact rj DZ hb q
structure KC(h:Heap):Prop where
 cov:∃o pm doc,h.get? 285=some o/\o.data=.func (pX (st 17) "covariance" .none .none pm (.ref 284) doc)/\h.CodeRec (.ref 284) "covariance"
 bm:BmOk h
theorem yv{ex:Exs}{c:Addr}(fx:FxH DA env lo ex Γ h)(i:Nat)(hi:Γ[i]?=some (x,.flt z))(hk:env.kindOf x=some .cell)(hc:env.cells.lookup x=some c):
  ∃xb tb,FQ xb z/\h.IsCell c (some (.float xb tb)):=by
 obtain⟨_,m,cm,f,g⟩:=fx
 refine ci (g i x _ hi) λv a b=>?_
 have hp:pF z v:=b.elim At_flt.mp At_flt.mp
 refine uh (hp) λxb tb _ hq Pr=>?_;subst Pr
 rcases a with ⟨a,_⟩|⟨_,_,a⟩
 ·rw [hk] at a;cases a
 ·exact⟨xb,tb,hq,a▸f.cell x c hc⟩
theorem A5(g:Array α)(x y:α):((g.push x).push y)[g.size]?=some x:=by
 rw [eG,if_neg (by rw [dk];exact cV 286861598 g.size rfl),eG,if_pos rfl]
theorem A4(g:Array α)(x y:α):((g.push x).push y)[g.size+1]?=some y:=by
 rw [eG,if_pos (by rw [dk])]
theorem ap4{l c:Nat}(h1:C≠I)(h2:C≠l)(h3:C≠c)(h4:C≠2):(C:Addr)∉([I,l,c,cStatics]:List Addr):=by
 have:C∉([I,l,c,2]:List Nat):=by
  intro h;simp only [aQ,cb,or_false] at h;exact y_716 h4 h1 h2 h3 h
 exact this
theorem EvT.cast{b b':Bool}(x:EvT w A env G e b)(h:b=b'):EvT w A env G e b':=h▸x
theorem Dg{vx vy:Value}{dx dy:List Dt}{ps:List Int}{q:Int}{n:Nat}(r:Room A 8)(kn:Kn s.heap)(kc:KC s.heap)(tab:TabOk s.heap 284 280)(t:0<s.toks)(LN:Bare s.gens)
  (hx:At 0 s.heap vx (.lst dx)) (hy:At 0 s.heap vy (.lst dy)) (nx:Nums dx zs) (ny:Nums dy ws) (Nv:zs.length=n) (Nw:ws.length=n) (GJ:ps.length=n) (Ex:2<=n) (GW:n<2^10)
  (bz:∀z∈zs,z.natAbs<2^40) (bw:∀z∈ws,z.natAbs<2^40) (sz:∀i,(jc zs i).natAbs<2^50) (sw:∀i,(jc ws i).natAbs<2^50)
  (OJ:mx*n=jc zs n) (UJ:my*n=jc ws n) (So:mx.natAbs<2^50) (Sn:my.natAbs<2^50)
  (Gb:∀(i:Nat) u v p,zs[i]?=some u->ws[i]?=some v->ps[i]?=some p->2*p=(u-mx)*(v-my)) (hb:∀p∈ps,p.natAbs<2^40) (hS:∀i,(jc ps i).natAbs<2^50)
  (hq:q*((n:Int)-1)=jc ps n) (bq:q.natAbs<2^50)
  (hQ:∀v h' t' Gc,cY 280 s.heap h'->s.heap.objs.size<=h'.objs.size->s.toks<=t'->Bare Gc->TabOk h' 284 280->pF q v->Q v {s with heap:=h',toks:=t',gens:=Gc}):
  wpAny (model prog w) A (call (.ref 285) [vx,vy]) Q E s:=by
 refine oi (kc.cov) λo pm doc ho hd Gu=>?_
 have tb:=tab.tb
 have Hb:sizeLine=16777216:=by decide
 refine vo (n:=7) r ho hd Gu kn.nl (binds:=[("x",vx),("y",vy)]) rfl (by
  intro x hx;simp at hx;rcases hx with rfl|rfl
  ·exact .inl rfl
  ·exact .inl rfl) (by decide) λC' env he gr tk Ei ro fm top E=>?_
 have Kz:Kn (jh s.heap 280):=kn.but tb (qP _ _)
 have Sp:BmOk (jh s.heap 280):=kc.bm.cut tb
 have x0:=AC tb (qP _ 280) hx (rP nx)
 have PG:=AC tb (qP _ 280) hy (rP ny)
 have D4:∀b o,s.heap.get? b=some o->¬OwnB env b:=λb o e q=>by rw [fm.fresh b q] at e;cases e
 obtain⟨⟨pst,ptr,Jc⟩,Sw,Mx⟩:Tb s.heap 280/\∃o,s.heap.get? 284=some o:=⟨tb,let ⟨_,_,⟨⟨oc,_,h,_⟩,_⟩⟩:=tab;⟨oc,h⟩⟩
 have FR:¬OwnB env 280:=D4 _ _ Jc
 have o284:¬OwnB env 284:=D4 _ _ Mx
 have IF:280<s.heap.objs.size:=aX Jc
 let Dr:Shared:={s with heap:=jh s.heap 280}
 have HT:Dr.heap=jh s.heap 280:=rfl
 have fx:Fx Dr env (s.heap.objs.size+1+nC (aZ (st 17)).names) [] [("x",.lst dx),("y",.lst dy)] C':=by
  subst he
  refine⟨by rw [Ei],t,tk,by rw [HT,kG];exact cV 4686104111376 s.heap.objs.size rfl,ci top λb h1 h2=>⟨b,.inl h1,h2⟩,λa DB h=>(nomatch h),_,_,⟨fm.ns,fm.cell,fm.uniq,fm.apart,fm.ne,fm.own,xU λb o _ e=>fm.base b o e,λb hb=>?_⟩,λi y e hy=>?_⟩
  ·by_cases NF:b=280
   ·exact absurd (NF▸hb) FR
   ·rw [HT,hU _ _ _ NF];exact fm.fresh b hb
  ·match i,hy with
   |0,hy=>cases hy;exact⟨vx,.inl ⟨rfl,rfl⟩,.inr x0⟩
   |1,hy=>cases hy;exact⟨vy,.inl ⟨rfl,rfl⟩,.inr PG⟩
 have IE:TabOk C'.heap 284 280:=tab.up gr.up
 generalize DZ:s.heap.objs.size+1+nC (aZ (st 17)).names=lo at fx
 have hloL:s.heap.objs.size+3<=lo:=by
  have H6:nC (aZ (st 17)).names=2:=by decide
  exact b6 0x144431192218a3219210 s.heap.objs.size lo rfl DZ
 generalize hL:s.heap.objs.size=L at *
 subst he
 have Hx:dx.length=n:=by rw [nx.len];exact Nv
 have Io:dy.length=n:=by rw [ny.len];exact Nw
 have Hn:∀{ex Γ lo},Gl (ky (st 17) "covariance" .none .none 285 L pm (.ref 284) doc) (hO Dr.heap (ky (st 17) "covariance" .none .none 285 L pm (.ref 284) doc) lo ex Γ) "len" (.builtin "len"):=by intro ex Γ lo;exact glF Kz (.inr (co (by kernel_rfl)))
 have FD:∀{ex Γ lo},Gl (ky (st 17) "covariance" .none .none 285 L pm (.ref 284) doc) (hO Dr.heap (ky (st 17) "covariance" .none .none 285 L pm (.ref 284) doc) lo ex Γ) "fsum" (.builtin "math.fsum"):=by intro ex Γ lo;exact glF Kz (.inl (co (by kernel_rfl)))
 have JH:∀{ex Γ lo},Gl (ky (st 17) "covariance" .none .none 285 L pm (.ref 284) doc) (hO Dr.heap (ky (st 17) "covariance" .none .none 285 L pm (.ref 284) doc) lo ex Γ) "sumprod" (.builtin "math.sumprod"):=by intro ex Γ lo;exact glF Kz (.inl (co (by kernel_rfl)))
 refine nV (d:=.int n) fx (Ev.nint ((sm Hn (an (cu 0 rfl)) (b6 0x9a18040041914800000000000000081a14 n dx.length rfl GW Hx) rfl).mono λlo h v hv=>by rw [Hx] at hv;exact hv)) rfl rfl rfl rfl λDs ES k2=>?_
 have G6:TabOk Ds.heap 284 280:=IE.at2 (λo e=>k2 _ o o284 e) λo e=>k2 _ o FR e
 refine qt (b:=false) ES ((fJ (BC _ _) (sm Hn (an (cu 2 rfl)) (b6 0x9a18040041914800000000000000081a14 n dy.length rfl GW Io) rfl) (Ev.int (an (cu 0 rfl)))).cast (by rw [Io];exact bne_self_eq_false _)) λh3 t3 u3 l3 Fi=>?_
 have PN:TabOk h3 284 280:=G6.up u3.up
 refine aH ?_
 dsimp only
 refine qt (b:=false) Fi ((fJ (BD _ _) (Ev.int (an (cu 0 rfl))) br).cast (by simp;exact cV 0x9221109722111 n rfl Ex)) λh4 t4 u4 l4 Ic=>?_
 have PM:TabOk h4 284 280:=PN.up u4.up
 refine aH ?_
 dsimp only
 refine qu (d:=.flt mx) (c:=L+1) Ic (Ev.nflt (bH (tJ (jc zs n) n mx (cV 0x922110970115 n rfl Ex) (cV 0x80083228010000000000719715 n rfl GW) OJ (vG So)) ((xP ro.hand FD (an (cu 1 rfl)) nx bz (Co GW Nv) sz rfl).mono λlo h v hv=>by rw [Nv] at hv;exact hv) (Ev.int (an (cu 0 rfl))))) rfl rfl rfl rfl rfl λs5 IB k5=>?_
 have PL:TabOk s5.heap 284 280:=PM.at2 (λo e=>k5 _ o o284 e) λo e=>k5 _ o FR e
 refine qu (d:=.flt my) (c:=L+2) IB (Ev.nflt (bH (tJ (jc ws n) n my (cV 0x922110970115 n rfl Ex) (cV 0x80083228010000000000719715 n rfl GW) UJ (vG Sn)) ((xP ro.hand FD (an (cu 3 rfl)) ny bw (Co GW Nw) sw rfl).mono λlo h v hv=>by rw [Nw] at hv;exact hv) (Ev.int (an (cu 1 rfl))))) rfl rfl rfl rfl rfl λDI FO k6=>?_
 have PK:TabOk DI.heap 284 280:=PL.at2 (λo e=>k6 _ o o284 e) λo e=>k6 _ o FR e
 have VK:BmOk DI.heap:=Sp.up (by obtain⟨_,m,cm,f,g⟩:=FO.fx;exact f.base)
 have TB:DI.heap.NoLimit:=Kz.nl.keeps (by obtain⟨_,m,cm,f,g⟩:=FO.fx;exact f.base)
 have ED:=FO.los
 have MZ:Bare DI.gens:=by rw [FO.same];exact LN
 refine au (bu (aK (cC JH FO.fx ?_)) rfl)
 rw [show starEach _ _=[(false,eval _ _),(false,eval _ _)] from rfl]
 refine bV rfl (aE (ar ?_))
 refine Ai (c:=284) (P:=280) (cl:=[("xbar",L+1)]) (G:=hO Dr.heap _ lo [] _) (zs:=zs) (ro.le (by decide)) rfl rfl (by decide) rfl rfl (by intro _;rfl) rfl rfl (an (cu 3 rfl)) nx (λz hz=>by have:=bz z hz;exact cV 0x1000000000071914000400000000000081914 (bZ z) rfl this) FO.fx FO.t PK VK TB ?_
 intro I1 C1 a1 l1 Ed MW H1 T1 x1 M' p1 p2 p3 p4 p5 p6 Ub P9 Ty Ll Uc TA ST
 have GG:280<lo:=bX 0x1644311a2218a914b914 (280:Nat) L lo rfl IF DZ
 have My:(jh s.heap 280).get? 280=none:=kJ _ _
 have NM:=FO.fx.but x1 My GG FR
 have bmA:BmOk H1:=Sp.up (by obtain⟨_,m,cm,f,g⟩:=NM;exact f.base)
 have nlA:H1.NoLimit:=Kz.nl.keeps (by obtain⟨_,m,cm,f,g⟩:=NM;exact f.base)
 have JM:=FO.t
 refine ar ?_
 refine Ai (c:=284) (P:=280) (cl:=[("ybar",L+2)]) (G:=hO Dr.heap _ lo [] _) (zs:=ws) (ro.le (by decide)) rfl rfl (by decide) rfl rfl (by intro _;rfl) rfl rfl (an (cu 4 rfl)) ny (λz hz=>by have:=bw z hz;exact cV 0x1000000000071914000400000000000081914 (bZ z) rfl this) NM (ad JM M') ST bmA nlA ?_
 intro I2 C2 a2 l2 Dx MV H2 T2 x2 M9 r1 r2 r3 r4 r5 r6 Nd PZ Oa Om RD Tz SR
 dsimp only at x2 M9 r1 RD ⊢
 have NL:=NM.but x2 My GG FR
 have nlB:H2.NoLimit:=Kz.nl.keeps (by obtain⟨_,m,cm,f,g⟩:=NL;exact f.base)
 refine lF (yv (c:=L+1) NL 1 rfl rfl rfl) λxb txb Lo cx=>?_
 refine lF (yv (c:=L+2) NL 0 rfl rfl rfl) λyb tyb Ug cy=>?_
 have IC:∀(b:Nat) o,¬b=280->H1.get? b=some o->H2.get? b=some o:=λb o hb e=>x2 b o hb e
 have Qf:H2.IsList l1 Ed:=Ub.at λo e=>IC _ o p6 e
 have Mk:H2.IsListIter I1 l1 0:=Ll.at λo e=>IC _ o (gk 0x1a44311a2218bd10cb10a9149c1a (280:Nat) L DI.heap.objs.size I1 lo rfl IF p1 ED DZ) e
 have Ml:H2.IsGen a1 DI.gens.size:=Dc Uc λo nm qn ho r=>⟨o,nm,qn,IC _ o (y_680 IF p3 p2 p1 ED DZ) ho,r⟩
 have Mg:=TA.at' λo e=>IC C1 o (y_681 IF p2 p1 ED DZ) e
 have nl2I:¬@Eq Nat l2 I1:=by
  intro q
  obtain⟨o,e,_,k,d⟩:=Nd
  refine kF (Mk) λo2 e2 _ d2=>?_
  have q':l2=I1:=q
  rw [q',e2] at e;cases e;rw [d2] at d;cases d
 have nl2C:¬@Eq Nat l2 C1:=by
  intro q
  obtain⟨o,e,_,k,d⟩:=Nd
  refine oi (Mg) λo2 es ep e2 d2 _=>?_
  have q':l2=C1:=q
  rw [q',e2] at e;cases e;rw [d2] at d;cases d
 have Mh:¬@Eq Nat l2 a1:=by
  intro q
  obtain⟨o,e,hc1,k,d⟩:=Nd
  refine Dc (Ml) λo2 nm qn e2 r=>?_
  have q':l2=a1:=q
  rw [q',e2] at e;cases e
  simp [d] at r
 refine aA ?_
 have KS:cStatics=(2:Nat):=rfl
 have V1:DI.gens.size<DI.gens.size+1:=bo _
 have lB:cStatics<I1:=by
  have:(2:Nat)<I1:=dh 0x1644311c22189b10a910a22114 DI.heap.objs.size I1 lo L rfl p1 ED DZ
  exact this
 refine rB (s:={DI with heap:=H2,toks:=T2,gens:=_}) (a1:=a1) (g1:=DI.gens.size) (C1:=C1) (I1:=I1) (l1:=l1) (c1:=L+1) (a2:=a2) (g2:=DI.gens.size+1) (C2:=C2) (I2:=I2) (l2:=l2) (c2:=L+2) (zs:=zs) (ws:=ws) (ps:=ps) (mx:=mx) (my:=my) (n:=n)
  ro.hand (ro.le (by decide)) ?_ ?_ ‹_› ‹_› (bX 0x111b291ca910ab14 H1.objs.size I2 a1 rfl r1 p4) ‹_› ‹_› r4 ‹_› (dh 0xb221c2189b10a910ac14 DI.heap.objs.size I1 lo (L+(1:Nat)) rfl p1 ED DZ) (dh 0x1644311c22189b10a910a221c214 DI.heap.objs.size I1 lo L rfl p1 ED DZ) nl2I nl2C Mh ‹_› lB (cV 286861598 DI.gens.size rfl) ?_ (by show 0<T2;exact bX 0xba10a91090114b0114 DI.toks T1 T2 rfl JM M' M9) Nv Nw GJ (aJ ‹_›) Gb hb hS ?_
 ·refine SubG.fresh (env:=ky (st 17) "covariance" .none .none 285 L pm (.ref 284) doc) (cl:=[("xbar",L+1)]) (bar:="xbar") (x:="xi") (code:=MW) ro.hand (by rfl) (by rfl) (by rfl) (by rfl) rfl rfl rfl rfl P9 Ty cx Lo (dh 0xb221c2189b10a910ac1e DI.heap.objs.size I1 lo (L+(1:Nat)) rfl p1 ED DZ) (sZ p5) (ap4 (aB ‹_›) (bX 0xba14a9149b1a l1 I1 C1 rfl p5 p2) (gk 0xc221d218bc109b10a914da1a I1 C1 DI.heap.objs.size lo (L+(1:Nat)) rfl p2 p1 ED DZ) (gk 0xc221d218bc109b10a914221a1a I1 C1 DI.heap.objs.size lo (L+(1:Nat)) rfl p2 p1 ED DZ)) (λz hz=>by have:=bz z hz;exact Cs this So) Qf Mk Ml Mg nlB (A5 _ _ _)
 ·refine SubG.fresh (env:=ky (st 17) "covariance" .none .none 285 L pm (.ref 284) doc) (cl:=[("ybar",L+2)]) (bar:="ybar") (x:="yi") (code:=MV) ro.hand (by rfl) (by rfl) (by rfl) (by rfl) rfl rfl rfl rfl PZ Oa cy Ug (y_7 r1 DZ ED p1 p2 p3 p4) (sZ r5) (ap4 (aB ‹_›) (bX 0xba14a9149b1a l2 I2 C2 rfl r5 r2) (y_21 r2 r1 DZ ED p1 p2 p3 p4) (y_16 r2 r5 r1 p4 Mh)) (λz hz=>by have:=bw z hz;exact Cs this Sn) Nd Om (by rw [<-dk];exact RD) Tz nlB (A4 _ _ _)
 ·intro x hx
  rcases Array.mem_push.mp hx with hx|rfl
  ·rcases Array.mem_push.mp hx with hx|rfl
   ·exact MZ x hx
   ·rfl
  ·rfl
 ·intro xs s8 Uj side
  have R4:s8.drawn=s.drawn:=by rw [side.same];show DI.drawn=_;rw [FO.same]
  have Np:s8.os=s.os:=by rw [side.same];show DI.os=_;rw [FO.same]
  have QK:s8.drawn=Dr.drawn:=R4
  have Qq:s8.os=Dr.os:=Np
  have sk:=side.kept
  have stk:T2<=s8.toks:=side.tk
  have t6:Dr.toks<=DI.toks:=FO.tk
  have Rc:H2.objs.size<=s8.heap.objs.size:=side.sz
  dsimp only at sk
  have N1:∀b o,b<lo->H2.get? b=some o->s8.heap.get? b=some o:=λb o hb e=>sk b o (λq=>by have q':@Eq Nat b C1:=q;exact gk 0xcd14bc109b10a914ad1e I1 C1 DI.heap.objs.size lo b rfl p2 p1 ED hb q) (λq=>by have q':@Eq Nat b I1:=q;exact dh 0xcb10ba10a914c91e b lo DI.heap.objs.size I1 rfl hb ED p1 q) (λq=>by have q':@Eq Nat b C2:=q;exact y_729 p2 p3 p1 ED hb p4 r1 r2 q) (λq=>by have q':@Eq Nat b I2:=q;exact y_730 p2 p3 p1 ED hb p4 r1 q) e
  have fxC:FxH Dr.heap (ky (st 17) "covariance" .none .none 285 L pm (.ref 284) doc) lo [] [("n",.int n)] s8.heap :=
   FxH.low (NL.weak λp hp=>by simp at hp;subst hp;simp) (λi x d h=>by
    cases i with|zero=>cases h;rfl|succ i=>cases h) (by rw [HT,kG];exact bX 0x1363144431192218ab10 L lo s.heap.objs.size rfl DZ hL) N1
  have SP:TabOk s8.heap 284 280:=SR.at2 (λo e=>N1 _ o (by have:=aX Mx;have:@cA Nat _ 284 s.heap.objs.size:=this;exact dh 0x17431844311b2218a914c914 (284:Nat) s.heap.objs.size L lo rfl ‹_› DZ hL) e) (λo e=>N1 _ o GG e)
  have K7:Fx {Dr with gens:=s8.gens} (ky (st 17) "covariance" .none .none 285 L pm (.ref 284) doc) lo [] [("n",.int n)] {s8 with toks:=s8.toks+1} :=
   ⟨by show (Shared.mk s8.heap s8.gens s8.drawn _ s8.os)=_;rw [QK,Qq],t,by show Dr.toks<=s8.toks+1;exact gk 0x1b82196217421522111d2910 Dr.toks DI.toks T1 T2 s8.toks rfl t6 M' M9 stk,FO.sz,FO.top,fxC⟩
  refine Fx.store (d:=.flt (jc ps n)) K7 (.inl (At_flt.mpr ⟨xs,s8.toks,aB (dh 0xcb10ba10a91090114c0114 DI.toks T1 T2 s8.toks rfl JM M' M9 stk:0<s8.toks),Uj,rfl⟩)) rfl rfl rfl λh9 t9 Fu GB Fz=>?_
  have SO:TabOk h9 284 280:=SP.at2 (λo e=>Fz _ o o284 e) λo e=>Fz _ o FR e
  refine au (cL (Ev.run (bH (tJ (jc ps n) ((n:Int)-1) q (cV 0x1244221119730115 n rfl Ex) (cV 0x100106450020000000000e31197315 n rfl GW) hq (vG bq)) (Ev.flt (an (cu 0 rfl))) (bH (gV _ _) (Ev.int (an (cu 1 rfl))) br)) Fu.fx Fu.t λv h' t' u' l' DJ=>?_))
  have MY:Up (jh s.heap 280) h9:=by obtain⟨_,m,cm,f,g⟩:=Fu.fx;exact f.base
  have Mj:=Fu.los
  have fin:=hQ v h' t' s8.gens (λb o hb e=>u'.up b o (MY b o (by rw [hU _ _ _ hb];exact e))) (by have h5:h9.objs.size<=h'.objs.size:=u'.sz;have h6:lo<=h9.objs.size:=Mj;exact y_396 h5 Mj DZ) (by have h5:t9<=t':=l';have h6:s8.toks+1<=t9:=GB;have:Dr.toks=s.toks:=rfl;lia) side.bare (SO.up u'.up) DJ
  rw [<-R4,<-Np] at fin
  exact fin
section
open PySem PySem.W PyProof.Rows Builtin Builtin.ObjectAttr Builtin.Getset_descriptor
structure SK(K:Frag):Prop where
 rd:∀C n p i,(C,n,p,i)∈slotTab->findObj K C (some emptyDict) n=some (.bind (.builtin "member_descriptor.__get__") (.ref p))/\slotIn K p C=some i/\takerIn K C n=some (some (.ref p))/\typeIn K (.ref p)=some (.type "member_descriptor")
 cl:∀C,C∈clsTab->findIn K (.ref C) "__getattribute__"=some (some (.builtin "object.__getattribute__"))/\findIn K (.ref C) "__getattr__"=some none/\findIn K (.ref C) "__setattr__"=some (some (.builtin "object.__setattr__"))/\plainOver K C=true/\makesIn K C=true
 me:∀C n f,(C,n,f)∈metTab->findIn K (.ref C) n=some (some (.ref f))/\typeIn K (.ref f)=some (.type "function")
 fi:fnIn K 249=true
 kp:∀C,C∈clsTab->keepIn K (.ref C)=true
 ln:findIn K (.ref 169) "__len__"=some none/\findIn K (.ref 169) "__length_hint__"=some none
noncomputable def slO(C dx:Nat)(vs:Array (Option Value)):Obj:={cls:=.ref C,dict:=some dx,data:=.plain,slots:=vs}
noncomputable def SlotAt(h:Heap)(x C:Nat)(vs:Array (Option Value)):Prop:=∃dx,dx<x/\h.get? x=some (slO C dx vs)/\h.get? dx=some emptyDict
theorem SlotAt.up{x:Nat}{vs:Array (Option Value)}(s:SlotAt h x C vs)(u:Up h h'):SlotAt h' x C vs:=kF s λdx a b c=>⟨dx,a,u _ _ b,u _ _ c⟩
theorem rH{x p dx:Nat}{v:Value}{vs:Array (Option Value)}{Q:Unit->Shared->Prop}(sk:SK K)(X:K.In s.heap)(DH:dx<x)(e:s.heap.get? x=some (slO C dx vs))(ed:s.heap.get? dx=some emptyDict)(hC:C∈clsTab)(hp:(C,name,p,i)∈slotTab)(hi:i<1000)
  (h:∀h',h'.get? x=some (slO C dx ((vs ++ fX (i+1-vs.size) none).setIfInBounds i (some v)))->h'.get? dx=some emptyDict->(∀b o,¬@Eq Nat b x->s.heap.get? b=some o->h'.get? b=some o)->h'.objs.size=s.heap.objs.size->Q () {s with heap:=h',toks:=s.toks+1}):
  wpAny (model prog w) A (setAttr (.ref x) name v) Q E s:=by
 refine a4 (sk.rd C name p i hp) λ_ q2 q3 q4=>?_
 refine a5 (sk.cl C hC) λ_ _ c3 c4 _=>?_
 have I:InstAt s.heap x (slO C dx vs) C (some emptyDict):=⟨e,rfl,rfl,ed⟩
 refine set_plain X I c3 ?_
 refine osa_descr (s:={s with toks:=s.toks+1}) KF.slot_mset X I c4 q3 q4 ?_
 obtain⟨n,tn,owner,behind,tb,d,sl,cd,ho,hc,hm,hb,GK⟩:=slot_of X q2
 subst GK
 have GC:=bv (h:=s.heap) (a:=x) (λo:Obj=>{o with slots:=(o.slots ++ fX (cd.slotNames.length-1-behind.toNat+1-o.slots.size) none).setIfInBounds (cd.slotNames.length-1-behind.toNat) (some v)}) e rfl
 have DY:∀b o,¬@Eq Nat b x->s.heap.get? b=some o->(s.heap.update x (λo:Obj=>{o with slots:=(o.slots ++ fX (cd.slotNames.length-1-behind.toNat+1-o.slots.size) none).setIfInBounds (cd.slotNames.length-1-behind.toNat) (some v)})).get? b=some o :=
  λb o hb q=>(Heap.get?_update_ne _ _ _ _ hb).trans q
 have fin:=h _ GC (DY _ _ (λq=>by have q':@Eq Nat dx x:=q;exact b6 2836703518 dx x rfl DH q) ed) DY (bQ _ _ _)
 obtain⟨hh,g,dr,t,os⟩:=s
 have L0:=I.type (M:=model prog w)
 have L1:=looks_mroIn (M:=model prog w) X hm
 have L2:Looks (model prog w) hh (Slots.slotNamesOf (.ref C)) cd.slotNames:=(looks_clsIn X hc).andThen .now
 have f0:=looks_field (M:=model prog w) ho 0 (v:=.str n tn) rfl
 have f1:=looks_field (M:=model prog w) ho 1 (v:=owner) rfl
 have f3:=looks_field (M:=model prog w) ho 3 (v:=.builtin "proto.slot#set") rfl
 have f4:=looks_field (M:=model prog w) ho 4 (v:=.int behind tb) rfl
 refine codeAny_call_builtin KF.slot_mset.plain KF.entry_mset (KF.slot_mset.check _ _ _ _ _ _ _ _ ⟨_,ho,rfl⟩ (KF.args_mset _ _ _) ?_)
 delta Builtin.«member_descriptor.__set__» descrSet descrStoreThrough descrCheckInstance descrNameAndClass isInstance
 have f5:Looks (model prog w) hh (descrItself (.ref p)) [.ref p]:=((Looks.ld (part:=none) ho).andThen .now).andThen (Looks.of_pure (by kernel_rfl))
 repeat lk
 refine⟨Code.quiet_builtin _ (by decide +kernel),c7 KF.entry_slotset ?_⟩
 repeat lk
 rw [if_neg hb]
 refine ai (aa ?_)
 delta setSlotAt
 rw [if_neg (by rw [sizeLine_eq];exact cV 0x7d08322930000005112 ((cd.slotNames.length-(1:Nat))-(Int.toNat behind)) rfl hi)]
 exact wpAny_updatePart e (ai fin)
theorem oB{x p:Nat}{v:Value}{vs:Array (Option Value)}{expr:Bool}(sk:SK K)(X:K.In s.heap)(hx:SlotAt s.heap x C vs)(hC:C∈clsTab)(hp:(C,name,p,i)∈slotTab)
  (hv:(vs[i]?).join=some v) (hh:handedIn v=true) (h:Q v {s with toks:=s.toks+1}):
  wpAny (model prog w) A (getAttr (.ref x) name expr) Q E s:=by
 refine kF (hx) λdx DH e ed=>?_
 refine a4 (sk.rd C name p i hp) λq1 q2 q3 q4=>?_
 refine a5 (sk.cl C hC) λc1 c2 c3 c4 _=>?_
 have I:InstAt s.heap x (slO C dx vs) C (some emptyDict):=⟨e,rfl,rfl,ed⟩
 refine get_bind X I c1 q1 c2 ?_
 refine cw (slot_get (s:={s with toks:=s.toks+1}) X I q2 hv ?_)
 dsimp only
 rw [handedOut_of hh]
 exact ai h
end
section
open PySem PySem.W PyProof.Rows Builtin Builtin.ObjectAttr Builtin.Getset_descriptor
theorem SlotAt.inst{x:Nat}{vs:Array (Option Value)}(s:SlotAt h x C vs):∃ox,InstAt h x ox C (some emptyDict):=kF s λdx _ b c=>⟨slO C dx vs,b,rfl,rfl,c⟩
theorem mU{x f:Nat}{vs:Array (Option Value)}{Q:Option Value->Shared->Prop}(sk:SK K)(X:K.In s.heap)(hx:SlotAt s.heap x C vs)(hm:(C,("__next__":Str),f)∈metTab)
  (h:wpAny (model prog w) A (call (.ref f) [.ref x]) (λv s'=>Q (some v) s') (λe s'=>wpAny (model prog w) A (isInstance e (.type "StopIteration")) (λb Ds=>if b=true then Q none Ds else E e Ds) E s') s):
  wpAny (model prog w) A (pyNext (.ref x)) Q E s:=by
 obtain⟨ox,I⟩:=hx.inst
 obtain⟨m1,m2⟩:=sk.me C _ f hm
 refine aa (jQ (special_fn (name:="__next__") (args:=[]) X I m1 m2 (bb h (λv s' hq=>?_) (λe s' he=>?_))))
 ·exact ai hq
 ·refine aa (bb he (λb Ds hb=>?_) λ_ _ z=>z)
  cases b with
  |true=>exact ai hb
  |false=>exact jH hb
theorem qA{x f fn:Nat}{vs:Array (Option Value)}(sk:SK K)(X:K.In s.heap)(hx:SlotAt s.heap x C vs)(hm:(C,("__iter__":Str),f)∈metTab)(LH:(C,("__next__":Str),fn)∈metTab)
  (h:wpAny (model prog w) A (call (.ref f) [.ref x]) (λv s'=>v=.ref x/\SlotAt s'.heap x C vs/\K.In s'.heap/\Q (.ref x) s') E s):wpAny (model prog w) A (pyIter (.ref x)) Q E s:=by
 obtain⟨ox,I⟩:=hx.inst
 obtain⟨m1,m2⟩:=sk.me C _ f hm
 obtain⟨n1,n2⟩:=sk.me C _ fn LH
 have fin:wpAny (model prog w) A (call (.ref f) [.ref x] >>= λv=>pure (some v)) (λr s'=>r=some (.ref x)/\SlotAt s'.heap x C vs/\K.In s'.heap/\Q (.ref x) s') E s :=
  aa (bb h (λv s' h'=>ai ⟨congrArg some h'.1,h'.2⟩) λ_ _ z=>z)
 have one:∀refuse:Sem Value,wpAny (model prog w) A (callSpecialIfBoundUnlessNone? (.ref x) "__iter__" refuse) (λr s'=>r=some (.ref x)/\SlotAt s'.heap x C vs/\K.In s'.heap/\Q (.ref x) s') E s:=by
  intro refuse
  refine bp (aa (aa (aa (I.type.here ((looks_findIn X m1).here ?_)))))
  refine aa (fF (wpAny_ite ?_))
  have fin2:wpAny (model prog w) A (if (aM f==eB)=true then(refuse >>= λv=>pure (some v)) else(call (.ref f) [.ref x] >>= λv=>pure (some v))) (λr s'=>r=some (.ref x)/\SlotAt s'.heap x C vs/\K.In s'.heap/\Q (.ref x) s') E s:=by
   exact fin
  split
  ·exact aa ((bind_fn X _ m2).here (ai (fin2)))
  ·exact lT (aa ((bind_fn X _ m2).here (ai (fin2))))
 refine aa (aa (I.type.here ((looks_findIn X m1).here ?_)))
 refine aa (bb (one _) (λr s' hr=>?_) λ_ _ z=>z)
 refine a4 (hr) λPu Hi X' hv=>?_;subst Pu
 obtain⟨ox',I'⟩:=Hi.inst
 refine aa (aa (I'.type.here ((looks_findIn X' n1).here ?_)))
 exact ai hv
theorem vT{x f:Nat}{vs:Array (Option Value)}{pl:Sem Bool}{Q:Value×List Value->Shared->Prop}(sk:SK K)(X:K.In s.heap)(hx:SlotAt s.heap x C vs)(hC:C∈clsTab)(hm:(C,name,f)∈metTab)
  (h:Q (.ref f,[.ref x]) s):wpAny (model prog w) A (getMethod (.ref x) name pl) Q E s:=by
 obtain⟨ox,I⟩:=hx.inst
 obtain⟨m1,m2⟩:=sk.me C _ f hm
 refine a3 (sk.cl C hC) λc1 c2 _=>?_
 exact method_fn X I c1 c2 m1 m2 rfl h
end
theorem qV{a:Nat}{t:Stmt}{PB:List (Str×Value)->Heap->Prop}{n:Nat}
  (r:Room A (n+1)) (f:FnAt s.heap a t qual EM EK) (nl:s.heap.NoLimit)
  (D7:∀pm cd doc (E:Value->Shared->Prop) (Q:List (Str×Value)->Shared->Prop),(∀binds hb tb,PB binds hb->Gr s.heap hb->s.toks<=tb->Q binds {s with heap:=hb,toks:=tb})->wpAny (model prog w) A.in1 (bindArgs (pX t qual EM EK pm cd doc) args) Q E s)
  (DK:∀binds hb,PB binds hb->∀x∈binds,(aZ t).names.lookup x.1=some .local\/((aZ t).names.lookup x.1=some .cell/\((cellsFrom (hb.objs.size+1) (aZ t).names []).lookup x.1).isSome=true))
  (LG:((cellsFrom 0 (aZ t).names []).map (·.1)).Nodup)
  (h:∀pm cd doc binds hb C' env,PB binds hb->Gr s.heap hb->env=ky t qual EM EK a hb.objs.size pm cd doc->Gr hb C'.heap->s.toks<=C'.toks->C'={s with heap:=C'.heap,toks:=C'.toks}->Room (A.deeper env) n ->
   Fm hb env (hb.objs.size+1+nC (aZ t).names) (bindL env.kindOf binds λ_=>none) (bindC env.kindOf binds λ_=>none) C'.heap ->
   (∃b,OwnB env b/\hb.objs.size+1+nC (aZ t).names<=b+1) ->
   wpAny (model prog w) (A.deeper env) (execs (gR t) env) (λf s'=>R (.ok (.ret (match f with|.ret v=>v|_=>.none))) s')
    (λe s'=>wpAny (model prog w) (A.deeper env) (leaving env e) (λ_ Ef=>R (.error e) Ef) (λe' Ef=>R (.error e') Ef) s') C')
  (F5:(aZ t).isCoroutine=false:=by rfl) (EV:(aZ t).isGenerator=false:=by rfl) (hk:(aZ t).kind=.function:=by rfl):
  codeAny (model prog w) A (.call (.ref a) args) R s:=by
 refine zC (f) λo pm cd doc ho hd Gu=>?_
 refine gZ (by have:=r.depth;exact vE this) ho hd F5 EV rfl Gu ?_
 refine D7 pm cd doc _ _ λbinds hb tb pb FC TN=>?_
 refine cz (ag tb) (d5 hk (DK binds hb pb) λenv he C' x DU=>?_)
 refine⟨(nl.keeps FC.up).keeps x.toInCall.keep,codeAny_func ?_⟩
 have HO:∀L:Nat,((cellsFrom L (aZ t).names []).map (·.1)).Nodup:=λL=>by rw [eJ _ L 0 [] [] rfl];exact LG
 have fm:=Fm.ofCall x λn c hm=>gv (he▸HO _) n c hm
 have hsz:hb.objs.size<=C'.heap.objs.size:=aJ (bU x.toInCall.fresh (wh x.toInCall.ns))
 have hs:=x.toInCall.same
 have hL:@Eq Nat env.locals hb.objs.size:=by rw [he];rfl
 have Er:env.cells=cellsFrom (hb.objs.size+1) (aZ t).names []:=by rw [he];rfl
 have D4:∀b,OwnB env b->b<hb.objs.size+1+nC (aZ t).names:=by
  rintro b (q|⟨n,hm⟩)
  ·exact dh 0x174315231911b22914 b env.locals hb.objs.size (nC (aZ t).names) rfl q hL
  ·rw [Er] at hm
   rcases fy _ _ _ n b hm with q|q
   ·cases q
   ·exact q.2
 have FT:∃b,OwnB env b/\hb.objs.size+1+nC (aZ t).names<=b+1:=by
  by_cases hz:nC (aZ t).names=0
  ·exact⟨env.locals,.inl rfl,bX 0x2e870064622345311b2210 (nC (aZ t).names) env.locals hb.objs.size rfl hz hL⟩
  ·obtain⟨n,hn⟩:=(fE (aZ t).names (hb.objs.size+1) []).2 hz
   exact⟨_,.inr ⟨n,Er▸hn⟩,AJ⟩
 dsimp only at fm DU
 exact h pm cd doc binds hb C' env pb FC he ⟨x.toInCall.keep,hsz⟩ (ab TN DU) (by obtain⟨h1,tk,rfl⟩:=hs;rfl) (r.deeper env) {fm with own:=D4} FT
structure KR(K:Frag)(h:Heap):Prop where
 kn:Kn h
 X:K.In h
 sk:SK K
 fn:∀a t q d k,(a,t,q,d,k)∈fns2->FnAt h a t q d k
 d92:h.IsTuple 92 #[.none]
 d190:∃t u:Tok,t≠0/\u≠0/\h.IsTuple 190 #[.int 0 t,.int 1 u]
 d271:∃(mq:Str->Option Value) (tk:Tok),h.Ns 271 mq/\mq "reverse"=some (.bool false)/\mq "ties"=some (.str "average" tk)
 mx:∃t:Tok,t≠0/\GV h "_MAXSIZE" (.int 0x7fffffffffffffff t)
theorem KR.up(x:KR K h)(u:Up h h'):KR K h' :=
 ⟨x.kn.up u,x.X.keeps u,x.sk,λa t q d k m=>(x.fn a t q d k m).up u,x.d92.at λo e=>u _ o e,uh x.d190 λt v a b c=>⟨t,v,a,b,c.at λo e=>u _ o e⟩,lF x.d271 λmq tk n a=>⟨mq,tk,n.keeps u,a⟩,ci x.mx λt a b=>⟨t,a,b.up u⟩⟩
noncomputable def pA(h:Heap)(n:Nat):Heap:={h with objs:=(h.objs.toList.take n).toArray}
theorem pR(h:Heap)(n:Nat):(pA h n).objs.size<=n:=by simp [pA];exact wx
theorem rx(h:Heap)(n b:Nat)(hb:b<n):(pA h n).get? b=h.get? b:=by
 unfold Heap.get? pA
 have:(h.objs.toList.take n).toArray[b]?=h.objs[b]?:=by
  rw [List.getElem?_toArray,List.getElem?_take,if_pos hb,b9]
 rw [this]
theorem yX(h:Heap)(n:Nat):Up (pA h n) h:=λb o e=>by
 have hb:@cA Nat _ b (pA h n).objs.size:=aX e
 have:=pR h n
 rw [rx h n b (ad ‹_› ‹_›)] at e
 exact e
noncomputable def m9(h:Heap)(lo L:Nat):Heap:=jh (pA h lo) L
theorem mf(h:Heap)(lo L:Nat):(m9 h lo L).objs.size<=lo:=by unfold m9;rw [kG];exact pR h lo
theorem jj(h:Heap)(lo L b:Nat)(hb:b<lo)(hL:¬b=L):(m9 h lo L).get? b=h.get? b:=by unfold m9;rw [hU _ _ _ hL,rx h lo b hb]
theorem nG(h:Heap)(lo L:Nat):(m9 h lo L).get? L=none:=kJ _ _
theorem vt(h:Heap)(lo L:Nat):Up (m9 h lo L) h:=(xU (h:=pA h lo) λb o _ e=>yX h lo b o e)
theorem Fx.rebase(x:Fx Dr env lo [] Γ s)(hs:∀(i:Nat) y d,Γ[i]?=some (y,d)->Scal d=true)(hc:env.cells=[])(hn:∀m,s.heap.Ns env.locals m->h'.Ns env.locals m)(tk:s.toks<=t'):
  Fx {s with heap:=m9 h' lo env.locals,toks:=t'} env lo [] Γ {s with heap:=h',toks:=t'}:=by
 obtain⟨e,m,cm,f,g⟩:=x.fx
 refine⟨rfl,ad x.t tk,ag _,mf _ _ _,x.top,λa DB h=>(nomatch h),m,cm,⟨hn m f.ns,λn c h=>?_,f.uniq,f.apart,f.ne,f.own,vt _ _ _,λb hb=>?_⟩,λi y d hi=>ci (g i y d hi) λv a b=>⟨v,a,.inl (b.elim (λq=>Scal.move (hs i y d hi) q) λq=>Scal.move (hs i y d hi) q)⟩⟩
 ·rw [hc] at h;cases h
 ·rcases hb with q|⟨n,hm⟩
  ·have q':b=env.locals:=q
   rw [q'];exact nG _ _ _
  ·rw [hc] at hm;cases hm
structure Bt(K:Frag)(B:Heap)(h:Heap):Prop where
 kr:KR K B
 up:Up B h
 sz:B.objs.size<=h.objs.size
theorem Bt.gr(x:Bt K B h)(g:Gr h h'):Bt K B h':=⟨x.kr,x.up.trans g.up,ab x.sz g.sz⟩
theorem Bt.below(x:Bt K B h)(DZ:B.objs.size<=lo)(hL:B.get? L=none):KR K (m9 h lo L):=by
 refine x.kr.up λb o e=>?_
 have hb:@cA Nat _ b B.objs.size:=aX e
 rw [jj h lo L b (ad ‹_› ‹_›) (λq=>by rw [q,hL] at e;cases e)]
 exact x.up b o e
theorem SlotAt.below{x:Nat}{vs:Array (Option Value)}(s:SlotAt h x C vs)(hx:x<lo)(hL:x<L):SlotAt (m9 h lo L) x C vs:=by
 refine kF (s) λdx a b c=>?_
 exact⟨dx,a,by rw [jj h lo L x hx (mh hL)];exact b,by rw [jj h lo L dx (gm a hx) (bX 0xba14a914b91e dx x L rfl a hL)];exact c⟩
theorem xR{n:Str}{pos:Pos}{x:Nat}{vs:Array (Option Value)}{v:Value}(l:Ld env G sn (.is (.ref x)))(hd:(sn==("__debug__":Str))=false)(hG:∀h,G.p h->KR K h/\SlotAt h x C vs)(hC:C∈clsTab)(hp:(C,n,pp,i)∈slotTab)
  (hv:(vs[i]?).join=some v) (hh:handedIn v=true):Ev w A env G (.Attribute (.Name sn p) n pos) (tV (·=v)):=by
 intro s Q E g t hQ
 refine Attribute_name (an l hd s _ _ g t λvx h1 t1 u1 l1 Dv=>?_)
 replace Dv:=At_is Dv
 subst Dv
 obtain⟨kr,sa⟩:=hG _ (G.up u1.up g)
 refine oB (s:={s with heap:=h1,toks:=t1}) kr.sk kr.X sa hC hp hv hh ?_
 exact hQ v h1 (t1+1) u1 (b8 l1) rfl
theorem Ev.is{v:Value}(x:Ev w A env G e (tV (·=v))):Ev w A env G e (tN (.is v)):=x.mono λ_ _ _ h=>by simp only [q7,rb,q8,q9,qX,qZ,qW,qY];exact h
theorem Ev.eq{v:Value}(x:Ev w A env G e (tO (.is v))):Ev w A env G e (tV (·=v)):=x.mono λ_ _ _ h=>by simp only [q7,rb,q8,q9,qX,qZ,qW,qY] at h;exact h
section
variable{Q:Flow->Shared->Prop}
end
theorem Bw{a:Nat}{t:Stmt}{PB:List (Str×Value)->Heap->Prop}{n:Nat}
  (r:Room A (n+1)) (bt:Bt K B s.heap) (f:FnAt s.heap a t qual EM EK) (t0:0<s.toks)
  (D7:∀pm cd doc (E:Value->Shared->Prop) (Q:List (Str×Value)->Shared->Prop),(∀binds hb tb,PB binds hb->Gr s.heap hb->s.toks<=tb->Q binds {s with heap:=hb,toks:=tb})->wpAny (model prog w) A.in1 (bindArgs (pX t qual EM EK pm cd doc) args) Q E s)
  (Ec:∀binds hb,PB binds hb->(∀x∈binds,(aZ t).names.lookup x.1=some .local)/\∀p∈binds,bindL (λx=>(aZ t).names.lookup x) binds (λ_=>none) p.1=some p.2) (H6:cellsFrom 0 (aZ t).names []=[])
  (h:∀pm cd doc binds hb C' env,PB binds hb->Gr s.heap hb->env=ky t qual EM EK a hb.objs.size pm cd doc->env.cells=[]->Gr hb C'.heap->s.toks<=C'.toks->C'={s with heap:=C'.heap,toks:=C'.toks}->Room (A.deeper env) n ->
   KR K (m9 C'.heap (hb.objs.size+1) hb.objs.size)->Bt K B C'.heap ->
   Fx {C' with heap:=m9 C'.heap (hb.objs.size+1) hb.objs.size} env (hb.objs.size+1) [] (binds.map λp=>(p.1,.is p.2)) C' ->
   wpAny (model prog w) (A.deeper env) (execs (gR t) env) (λf s'=>R (.ok (.ret (match f with|.ret v=>v|_=>.none))) s')
    (λe s'=>wpAny (model prog w) (A.deeper env) (leaving env e) (λ_ Ef=>R (.error e) Ef) (λe' Ef=>R (.error e') Ef) s') C')
  (F5:(aZ t).isCoroutine=false:=by rfl) (EV:(aZ t).isGenerator=false:=by rfl) (hk:(aZ t).kind=.function:=by rfl):
  codeAny (model prog w) A (.call (.ref a) args) R s:=by
 have hz:nC (aZ t).names=0:=by
  rcases Nat.eq_zero_or_pos (nC (aZ t).names) with h0|h0
  ·exact h0
  ·obtain⟨nm,hm⟩:=(fE (aZ t).names 0 []).2 (aB ‹_›)
   rw [H6] at hm;cases hm
 have OS:∀L,cellsFrom L (aZ t).names []=[]:=λL=>by
  have:=eJ (aZ t).names L 0 [] [] rfl
  rw [H6] at this
  simpa using this
 refine qV (PB:=PB) r f (bt.kr.up bt.up).kn.nl D7 (λbinds hb pb x hx=>.inl ((Ec binds hb pb).1 x hx)) (by rw [H6];exact List.nodup_nil) (λpm cd doc binds hb C' env pb FC he gr tk Ei ro fm top=>?_) F5 EV hk
 have DO:env.cells=[]:=by rw [he];exact OS _
 have DK:∀x,env.kindOf x=(aZ t).names.lookup x:=by intro x;rw [he];rfl
 have Ko:@Eq Nat env.locals hb.objs.size:=by rw [he];rfl
 rw [hz] at fm top
 have Sj:=(bt.gr FC).gr gr
 have Dr:Fx s env (hb.objs.size+1) [] (binds.map λp=>(p.1,.is p.2)) C':=by
  refine⟨Ei,t0,tk,by have:=FC.sz;exact vD this,ci top λb h1 h2=>⟨b,.inl h1,h2⟩,λa DB h=>(nomatch h),_,_,⟨fm.ns,fm.cell,fm.uniq,fm.apart,fm.ne,fm.own,λb o e=>fm.base b o (FC.up b o e),λb Em=>?_⟩,λi y d hy=>?_⟩
  ·have:=fm.fresh b Em
   cases e:s.heap.get? b with
   |none=>rfl
   |some o=>rw [FC.up b o e] at this;cases this
  ·rw [ah] at hy
   refine ci (aq.mp hy) λp hp e=>?_
   cases e
   have hm:=aF hp
   obtain⟨l1,l2⟩:=Ec binds hb pb
   refine⟨p.2,.inl ⟨(DK _).trans (l1 p hm),?_⟩,.inl At_rfl⟩
   have:=l2 p hm
   have Ip:env.kindOf=λx=>(aZ t).names.lookup x:=funext DK
   rw [Ip];exact this
 have Sd:=Dr.rebase (h':=C'.heap) (t':=C'.toks) (λi y d hy=>by
  rw [ah] at hy
  refine ci (aq.mp hy) λp hp e=>?_
  cases e;rfl) DO (λm hm=>hm) (ag _)
 have Et:env.locals=hb.objs.size:=Ko
 rw [Et] at Sd
 refine h pm cd doc binds hb C' env pb FC he DO gr tk Ei ro ?_ Sj Sd
 refine Sj.below (by have h1:=bt.sz;have h2:=FC.sz;exact bX 0x17421522111b2910 B.objs.size s.heap.objs.size hb.objs.size rfl h1 h2) ?_
 cases e:B.get? hb.objs.size with
 |none=>rfl
 |some o=>have h0:@cA Nat _ hb.objs.size B.objs.size:=aX e;have h1:=bt.sz;have h2:=FC.sz;exact BR h0 h1 h2
theorem oV{f:Nat}{t:Stmt}{v:Value}(r:Room A 2)(bt:Bt K B s.heap)(fa:FnAt s.heap f t qual .none .none)(t0:0<s.toks)
  (MS:gR t=[.Return (some (.Name "self" p1)) p2]) (EX:aZ t={kind:=.function,names:=[("self",.local)],isGenerator:=false,isCoroutine:=false}) (D7:∀pm cd doc,bindArgs (pX t qual .none .none pm cd doc) ⟨[v],[]⟩=pure [(("self":Str),v)])
  (hQ:∀h' t',Gr s.heap h'->s.toks<=t'->Q v {s with heap:=h',toks:=t'}):wpAny (model prog w) A (call (.ref f) [v]) Q E s:=by
 refine cw (Bw (PB:=λb _=>b=[(("self":Str),v)]) r bt fa t0 (λpm cd doc E' Q' hq=>by rw [D7];exact ai (hq _ s.heap s.toks rfl (Gr.refl _) (ag _))) (by rintro _ _ rfl;rw [EX];exact⟨(fQ rfl lS),(fQ rfl lS)⟩) (by rw [EX];rfl) ?_ (by rw [EX]) (by rw [EX]) (by rw [EX]))
 intro pm cd doc binds hb C' env KJ FC he DO gr tk Ei ro kr Ho fx
 subst KJ
 rw [MS]
 have hk:env.scope.kind=.function:=by rw [he];show (aZ t).kind=_;rw [EX]
 refine au (cL (Ev.run (an (cu 0 rfl hk)) fx.fx fx.t λv' h' t' u' l' DJ=>?_))
 replace DJ:=At_is DJ
 subst DJ
 have:=hQ h' t' ((FC.trans gr).trans u') (ab tk l')
 rw [Ei]
 exact this
theorem zA:entryFor table "proto.is"=some Builtin.«proto.is»:=entryFor_of_tree (by kernel_rfl)
theorem y8{p q:Int}{t u:Tok}{Q:Bool->Shared->Prop}(nb:NoneBooked s.heap)(ht:t≠0)(hu:u≠0)(hc:t=u->p=q)(hQ:∀r:Bool,(r=true->p=q)->Q r s):wpAny M A (isSame (.int p t) (.int q u)) Q E s:=by
 have h0:(t==0||u==0)=false:=by
  have h1:(t==0)=false:=beq_eq_false_iff_ne.mpr ht
  have h2:(u==0)=false:=beq_eq_false_iff_ne.mpr hu
  rw [h1,h2];rfl
 show wpAny M A (if (p==q&&smallInt p)=true then isSame.cachedInt t u else isSame.created (p==q) t u) Q E s
 by_cases h:(p==q&&smallInt p)=true
 ·rw [if_pos h]
  unfold isSame.cachedInt
  rw [h0]
  refine aa (dB (ai (hQ _ λ_=>?_)))
  simp only [dZ,beq_iff_eq] at h
  exact h.1
 ·rw [if_neg h]
  delta isSame.created;dsimp only
  rw [h0]
  simp only [cB,if_false]
  by_cases Lr:t=u
  ·rw [if_pos (by simpa using Lr)]
   exact ai (hQ _ λ_=>hc Lr)
  ·rw [if_neg (by simpa using Lr)]
   by_cases KI:p=q
   ·subst KI
    simp only [beq_self_eq_true,Bool.not_true,cB,if_false]
    refine aa (jz nb ?_)
    refine aa (jz nb ?_)
    exact aa (dB (aa (fF (ai (hQ _ λ_=>rfl)))))
   ·have:(p==q)=false:=beq_eq_false_iff_ne.mpr KI
    rw [this]
    exact ai (hQ _ λh=>by cases h)
noncomputable def TokOk(v w:Value)(i j:Int):Prop:=∃t u,v=.int i t/\w=.int j u/\t≠0/\u≠0/\(t=u->i=j)
noncomputable def uE(p:Value×Value)(_:Option Bool×Unit):Sem (ForInStep (Option Bool×Unit)):=do
 match <-runValue (.builtin "proto.is" ⟨[p.1,p.2],[]⟩) with
 |.bool true=>do
  let a <-ask
  if (!joinedAsOfOld a.params p.1 p.2)=true then pure (l0 (some false,()))
  else do
   let b <-emptiesJoinedAsOfOld a.params p.1 p.2
   if (!b)=true then pure (l0 (some false,())) else pure (ForInStep.yield (none,()))
 |_=>pure (l0 (some false,()))
theorem rJ{Q:Option Bool×Unit->Shared->Prop}(nb:NoneBooked s.heap):∀(l:List (Value×Value)) (is js:List Int),l.length=is.length->l.length=js.length ->
  (∀(k:Nat) v w i j,l[k]?=some (v,w)->is[k]?=some i->js[k]?=some j->TokOk v w i j)->(∀st,(st=(none,())/\is=js)\/st=(some false,())->Q st s) ->
  wpAny (model prog w) A (forIn l ((none:Option Bool),()) uE) Q E s
 |[],is,js,h1,h2,hc,hQ=>by
  rw [List.forIn_nil]
  refine ai (hQ _ (.inl ⟨rfl,?_⟩))
  have e1:is=[]:=kl.mp h1.symm
  have e2:js=[]:=kl.mp h2.symm
  rw [e1,e2]
 |(v,w')::l,[],js,h1,h2,hc,hQ=>by simp at h1
 |(v,w')::l,i::is,[],h1,h2,hc,hQ=>by simp at h2
 |(v,w')::l,i::is,j::js,h1,h2,hc,hQ=>by
  rw [List.forIn_cons]
  refine e2a5 (hc 0 v w' i j rfl rfl rfl) λt u Dz FP ht hu Lr=>?_;subst Dz;subst FP
  delta uE;dsimp only
  refine aa (aa (wpAny_runValue (c7 zA ?_)))
  delta Builtin.«proto.is»;dsimp only
  refine aa (y8 nb ht hu Lr λr hr=>ai ?_)
  show wpAny _ _ _ _ _ _
  cases r with
  |false=>exact ai (ai (hQ _ (.inr rfl)))
  |true =>
   have DV:=hr rfl
   subst DV
   refine aa (fF ?_)
   split
   ·exact ai (ai (hQ _ (.inr rfl)))
   ·refine aa (ai ?_)
    refine ai ?_
    refine rJ nb l is js (by simpa using h1) (by simpa using h2) (λk v w a b e1 e2 e3=>hc (k+1) v w a b (by simpa using e1) (by simpa using e2) (by simpa using e3)) λst Ey=>hQ st ?_
    rcases Ey with ⟨rfl,rfl⟩|rfl
    ·exact .inl ⟨rfl,rfl⟩
    ·exact .inr rfl
theorem vP{x y:Array Value}{is js:List Int}{Q:Bool->Shared->Prop}(nb:NoneBooked s.heap)(Fe:x.size=y.size)(h1:is.length=x.size)(h2:js.length=x.size)
  (hc:∀(k:Nat) v w i j,x[k]?=some v->y[k]?=some w->is[k]?=some i->js[k]?=some j->TokOk v w i j) (hQ:∀r:Bool,(r=true->is=js)->Q r s):wpAny (model prog w) A (sameItems x y) Q E s:=by
 delta sameItems
 rw [show (x.size != y.size)=false by rw [Fe];exact bne_self_eq_false _]
 refine aa (rJ (w:=w) nb (x.toList.zip y.toList) is js (by simp;exact B5 Fe h1) (by simp;exact B5 Fe h2) (λk v w' i j e1 e2 e3=>?_) λst Ey=>?_)
 ·rw [List.getElem?_zip_eq_some] at e1
  exact hc k v w' i j (by simpa using e1.1) (by simpa using e1.2) e2 e3
 ·rcases Ey with ⟨rfl,h⟩|rfl
  ·exact ai (hQ _ λ_=>h)
  ·exact ai (hQ _ λh=>by cases h)
theorem Bj{x y:Nat}{is js:List Int}(nb:NoneBooked s.heap)(hx:s.heap.IsTuple x items)(hy:s.heap.IsTuple y Dx)(h1:is.length=items.size)(h2:js.length=Dx.size)(hsz:items.size=Dx.size)(Ea:0<items.size)
  (HX:x=y->is=js)
  (hc:∀(k:Nat) v w i j,items[k]?=some v->Dx[k]?=some w->is[k]?=some i->js[k]?=some j->TokOk v w i j) (hQ:∀r:Bool,(r=true->is=js)->Q (.bool r) s):wpAny (model prog w) A (compareOp .Is (.ref x) (.ref y)) Q E s:=by
 refine aa ?_
 by_cases Fe:x=y
 ·have e:=HX Fe
  subst Fe
  exact wpAny_isSame_ref_self (ai (hQ _ λ_=>e))
 ·obtain⟨o,ho,IV,n,UC⟩:=hx
  obtain⟨o2,Fb,Qt,n2,Qs⟩:=hy
  show wpAny _ A (if (x==y)=true then pure true else _) _ E s
  rw [if_neg (by simpa using Fe)]
  refine aa (wpAny_load ho (aa (wpAny_load Fb ?_)))
  rw [IV,Qt,UC,Qs]
  have he:(items.isEmpty&&Dx.isEmpty)=false:=by
   have:items.isEmpty=false:=by
    cases hE:items.isEmpty with
    |false=>rfl
    |true=>rw [Array.isEmpty_iff_size_eq_zero] at hE;exact AE Ea hE
   rw [this];rfl
  show wpAny _ A (if (items.isEmpty&&Dx.isEmpty)=true then isSame.theEmptyTuple else sameTuple x y items Dx) _ E s
  rw [he]
  delta sameTuple;dsimp only
  refine aa (fF ?_)
  split
  ·exact ai (ai (hQ _ λh=>by cases h))
  split
  ·exact ai (ai (hQ _ λh=>by cases h))
  refine aa (bp (vP nb hsz h1 (AF h2 hsz) hc λr hr=>?_))
  cases r with
  |true=>exact aa (dB (ai (ai (hQ _ λ_=>hr rfl))))
  |false=>exact ai (ai (hQ _ λh=>by cases h))
section
open SeqAt
theorem CI{v w:Value}(hu:A.units<cLine)(Du:r.length=r'.length)(hv:At 0 s.heap v (tI r))(hw:At 0 s.heap w (tI r')):RcAt A s v w (r==r'):=by
 refine fL (At.tup.mp hv) λa items Dz _ hl Dw=>?_;subst Dz
 refine fL (At.tup.mp hw) λb Dx Dz _ Ej DG=>?_;subst Dz
 have n1:=Dw.length
 have n2:=DG.length
 rw [aU,bR] at n1 n2
 have:=RcAt.tuples (A:=A) (e:=λj=>r[j]?==r'[j]?) hl Ej hu λj h1 h2=>by
  have:=nB (A:=A.in1) (s:=s) Dw DG (j:=j) (fq h1 n1) (k9 h1 n1 Du) (by simpa using h1) (by simpa using h2)
  rw [show (r[j]?==r'[j]?)=(r[j]'(fq h1 n1)==r'[j]'(k9 h1 n1 Du)) by rw [ae (fq h1 n1),ae (k9 h1 n1 Du)];rfl]
  simpa using this
 rw [show Dx.size=items.size by exact y_522 n2 n1 Du,Nat.min_self,beq_self_eq_true,Bool.and_true,n1] at this
 rw [lI Du _ λj h1 h2=>by rw [ae h1,ae h2];rfl] at this
 exact this
theorem zL(hu:A.units<cLine)(r r':List Int)(Du:r.length=r'.length):CmH w A .Eq (tI r) (tI r') (r==r'):=λs va vb Q E _ ha hb hQ=>CI hu Du ha hb prog w E Q hQ
noncomputable def KeyC(h:Heap)(a b:Nat)(is js:List Int):Prop:=∃items Dx,h.IsTuple a items/\h.IsTuple b Dx/\items.size=is.length/\Dx.size=js.length/\∀(k:Nat) v w i j,items[k]?=some v->Dx[k]?=some w->is[k]?=some i->js[k]?=some j->TokOk v w i j
theorem KeyC.up{a b:Nat}{is js:List Int}(x:KeyC h a b is js)(u:Up h h'):KeyC h' a b is js :=
 uh x λi1 i2 h1 h2 r=>⟨i1,i2,h1.at λo e=>u a o e,h2.at λo e=>u b o e,r⟩
theorem AY{a b:Nat}{is js:List Int}(r:Room A 3)(kn:Kn s.heap)(t0:0<s.toks)(nb:NoneBooked s.heap)(ha:At 0 s.heap (.ref a) (tI is))(hb:At 0 s.heap (.ref b) (tI js))(Du:is.length=js.length)(Ea:0<is.length)
  (HX:a=b->is=js) (kc:KeyC s.heap a b is js) (hQ:∀h' t',Gr s.heap h'->s.toks<=t'->Q (.bool (is==js)) {s with heap:=h',toks:=t'}):
  wpAny (model prog w) A (call (.ref 83) [.ref a,.ref b]) Q E s:=by
 refine jO (n:=2) r (kn.fn 83 (st 8) "_same" .none .none (co (by kernel_rfl))) kn.nl (binds:=[("a",.ref a),("b",.ref b)]) (λ_ _ _=>rfl)
  (fQ (.inl rfl) (fQ (.inl rfl) lS)) (by decide) λpm cd doc C' env he gr tk Ei ro fm top E=>?_
 have fx:Fx s env (s.heap.objs.size+1+nC (aZ (st 8)).names) [] [("a",.is (.ref a)),("b",.is (.ref b)),("a",tI is),("b",tI js)] C':=by
  subst he
  exact il Ei t0 tk top fm (sO (.ref a) rfl rfl (.inl At_rfl) (sO (.ref b) rfl rfl (.inl At_rfl) (sO (.ref a) rfl rfl (.inr ha) (sO (.ref b) rfl rfl (.inr hb) mr))))
 generalize DZ:s.heap.objs.size+1+nC (aZ (st 8)).names=lo at fx
 have hk:env.scope.kind=.function:=by subst he;rfl
 have hu:(A.deeper env).units<cLine:=bU (cI _ _) ro.units
 have fin:∀(v:Value) (h':Heap) (t':Nat),v=.bool (is==js)->Gr s.heap h'->s.toks<=t'->Q v {s with heap:=h',toks:=t'}:=λv h' t' e u l=>e▸hQ h' t' u l
 refine au (wpAny_If (gY (Ev.run (an (cu 0 rfl hk)) fx.fx fx.t λva h1 t1 u1 l1 Dv=>?_) (by with_unfolding_all rfl)))
 replace Dv:=At_is Dv;subst Dv
 refine Ev.run (an (cu 1 rfl hk)) (fx.move u1.up l1).fx (fx.move u1.up l1).t λvb h2 t2 u2 l2 DD=>?_
 replace DD:=At_is DD;subst DD
 have Ge:Gr s.heap h2:=(fx.gr.trans u1).trans u2
 refine e2a5 (kc.up Ge.up) λi1 i2 x1 x2 z1 z2 cc=>?_
 have TG:NoneBooked h2:=ci nb λmc n k=>⟨mc,n.keeps Ge.up,k⟩
 refine Bj (is:=is) (js:=js) TG x1 x2 z1.symm z2.symm (sW z1 z2 Du) (b6 0x9a1c90114a0114 is.length i1.size rfl Ea z1) HX cc λrr Nk=>dq ?_
 have ES:=fx.move (u1.trans u2).up (ab l1 l2)
 cases rr with
 |true =>
  refine mn (T:=tV (pB true)) ES gy (Lows.v _) λv h' t' u' l' hv=>?_
  exact fin v h' t' (by rw [Nk rfl,beq_self_eq_true];exact hv) u' l'
 |false =>
  refine aH ?_
  refine qt ES (iS (zL hu is js Du) (an (cu 2 rfl hk)) (an (cu 3 rfl hk))) λh4 t4 u4 l4 Ic=>?_
  cases hd:is==js with
  |true =>
   refine mn (T:=tV (pB true)) Ic gy (Lows.v _) λv h' t' u' l' hv=>?_
   exact fin v h' t' (by rw [hd];exact hv) u' l'
  |false =>
   refine aH ?_
   refine mn (T:=tV (pB false)) Ic gy (Lows.v _) λv h' t' u' l' hv=>?_
   exact fin v h' t' (by rw [hd];exact hv) u' l'
end
theorem Br{a:Expr}{pos:Pos}(l:Gl env G "len" (.builtin "len"))(ha:Ev w A env G a (tO (.tup ds)))(Fk:ds.length<2^63)(Eb:starEach [a] env=[(false,eval a env)]):
  Ev w A env G (.Call (.Name "len" p) [a] [] pos) (tV (pI ds.length)):=by
 intro s Q E g t hQ
 refine aK (cC l g ?_)
 rw [Eb]
 refine bV rfl (aE (ar (ha s _ _ g t λva h1 t1 u1 l1 Dv=>aA ?_)))
 refine fL (At.tup.mp Dv) λa items Dz _ hl Dw=>?_;subst Dz
 have Du:=Dw.length
 rw [aU] at Du
 refine len_tuple hl (b6 0x9a18800000000000000081914800000000000000081a715 ds.length items.size rfl Fk Du) ?_
 exact hQ _ h1 _ u1 (ab l1 (ab (aD _) (aD _))) ⟨_,aB (dU _),by rw [Du]⟩
theorem tU{x T P:Nat}{k:Tok}{kv iv:Value}(r:Room A 2)(bt:Bt K B s.heap)(t0:0<s.toks)(hx:SlotAt s.heap x 267 #[some (.ref T)])(hT:s.heap.IsTuple T #[.int 0 k])(FL:k≠0)(hP:s.heap.IsTuple P #[kv,iv])
  (hQ:∀h' t',Gr s.heap h'->s.toks<=t'->R (.ok (.ret kv)) {s with heap:=h',toks:=t'}):
  codeAny (model prog w) A (.call (.ref 249) ⟨[.ref x,.ref P],[]⟩) R s:=by
 have kr:=bt.kr.up bt.up
 refine qV (n:=1) (PB:=λb hb=>b=[(("self":Str),aM x),(("obj":Str),aM P)]/\hb=s.heap) r (kr.fn 249 (me 14 2) "itemgetter.__call__" .none .none (co (by kernel_rfl))) kr.kn.nl (λpm cd doc E' Q' hq=>ai (hq _ s.heap s.toks ⟨rfl,rfl⟩ (Gr.refl _) (ag _)))
  (by rintro _ _ ⟨rfl,rfl⟩ x hx;simp at hx;rcases hx with rfl|rfl<;>exact .inl rfl) (by decide) λpm cd doc binds hb C' env KJ FC he gr tk Ei ro fm top=>?_
 obtain⟨rfl,rfl⟩:=KJ
 have hPd:At 0 s.heap (.ref P) (.tup [.is kv,.is iv]):=At.tup.mpr ⟨P,_,rfl,bY _,hP,by simp only [aN,aC,aL,aR,q7,rb,q8,q9,qX,qZ,qW,qY];exact⟨trivial,trivial,trivial⟩⟩
 have hTd:At 0 s.heap (.ref T) (.tup [.int 0]):=At.tup.mpr ⟨T,_,rfl,bY _,hT,by simp only [aN,aC,aL,aR,q7,rb,q8,q9,qX,qZ,qW,qY];exact⟨⟨k,FL,rfl⟩,trivial⟩⟩
 have fx:Fx s env (s.heap.objs.size+1+nC (aZ (me 14 2)).names) [] [("self",.is (.ref x)),("obj",.tup [.is kv,.is iv])] C':=by
  subst he
  exact il Ei t0 tk top fm (sO (.ref x) rfl rfl (.inl At_rfl) (sO (.ref P) rfl rfl (.inr hPd) mr))
 generalize DZ:s.heap.objs.size+1+nC (aZ (me 14 2)).names=lo at fx
 have hk:env.scope.kind=.function:=by subst he;rfl
 have li:env.kindOf "items"=some .local:=by subst he;rfl
 have Hn:∀{ex Γ lo},Gl env (hO s.heap env lo ex Γ) "len" (.builtin "len"):=by intro ex Γ lo;subst he;exact glF kr.kn (.inr (co (by kernel_rfl)))
 refine au (bu (Ev.run (xR (x:=x) (C:=267) (pp:=268) (i:=0) (v:=.ref T) (cu 0 rfl hk) rfl (λh z9=>⟨kr.up (FxH.bs z9),hx.up (FxH.bs z9)⟩) (by decide +kernel) (by decide +kernel) rfl rfl) fx.fx fx.t λv h1 t1 u1 l1 hv=>?_) rfl)
 have FJ:v=.ref T:=hv
 subst FJ
 refine Fx.store (d:=.tup [.int 0]) (fx.move u1.up l1) (.inr hTd) rfl hk li λh2 t2 ES l2 k2=>?_
 refine z8 ES ((fJ (uq _ _) (Br Hn (an (cu 0 rfl hk)) (by decide) rfl) br).cast rfl) λh3 t3 u3 l3 Fi=>?_
 refine mn (T:=tO (.is kv)) Fi (iH (an (cu 2 rfl hk)) (Ev.int (iH (an (cu 0 rfl hk)) br (by decide) (by decide) rfl (by intros;rfl))) (by decide) (by decide) rfl (by intros;rfl)) (Lows.o _) λv h' t' u' l' hv=>?_
 replace hv:=At_is hv
 subst hv
 exact hQ h' t' u' l'
theorem ur{x T P:Nat}{k:Tok}{kv iv:Value}(r:Room A 2)(bt:Bt K B s.heap)(t0:0<s.toks)(hx:SlotAt s.heap x 267 #[some (.ref T)])(hT:s.heap.IsTuple T #[.int 0 k])(FL:k≠0)(hP:s.heap.IsTuple P #[kv,iv])
  (hQ:∀h' t',Gr s.heap h'->s.toks<=t'->Q kv {s with heap:=h',toks:=t'}):wpAny (model prog w) A (call (.ref x) [.ref P]) Q E s:=by
 have kr:=bt.kr.up bt.up
 refine kF (id hx) λdx _ b c=>?_
 have I:InstAt s.heap x (slO 267 dx #[some (.ref T)]) 267 (some emptyDict):=⟨b,rfl,rfl,c⟩
 obtain⟨m1,m2⟩:=kr.sk.me 267 "__call__" 249 (by decide +kernel)
 refine cw (kco_code kr.X I rfl m1 (by unfold isFn;rw [m2];decide) kr.sk.fi ?_)
 exact tU r bt t0 hx hT FL hP λh' t' u l=>hQ h' t' u l
theorem nD:entryFor table "next"=some Builtin.«next»:=entryFor_of_tree (by kernel_rfl)
theorem pg(a:Value):argsOk "next" ⟨[a],[]⟩:=by unfold argsOk;kernel_rfl
noncomputable def IsDead(h:Heap)(it:Nat):Prop:=∃o fs,h.get? it=some o/\o.cls=.type "list_iterator"/\o.data=.fields fs/\fs[0]?=some .none
theorem IsDead.at{it:Nat}(x:IsDead h it)(k:∀o,h.get? it=some o->h'.get? it=some o):IsDead h' it:=lF x λo fs a r=>⟨o,fs,k o a,r⟩
theorem pM{it l:Nat}{x:Value}(hit:s.heap.IsListIter it l i)(hl:s.heap.IsList l items)(hx:items[i]?=some x)
  (hQ:∀h',h'.IsListIter it l (i+1)->Heap.SameBut it s.heap h'->Q x {s with heap:=h'}):wpAny (model prog w) A (call (.builtin "next") [.ref it]) Q E s:=by
 refine kF (id hit) λo ho hc hd=>?_
 obtain⟨ol,Jv,_,nl,JA⟩:=hl
 refine ef (by decide +kernel) (by decide +kernel) nD (pg _) ?_
 refine aa (m:=someArgs "next" 1 2 _) (cD (a:=[aM it]) rfl ?_)
 refine aa (fR (name:=cF "__next__") hit.typeIs slot_listiter_next.lookup ?_)
 refine aa (m:=callSpecial? (.ref it) (cF "__next__")) (cq (name:=cF "__next__") hit.typeIs slot_listiter_next
  (c8 slot_listiter_next hit.typeIs eE ?_ (args_listiter_next _)))
 show wpAny _ _ (field (.ref it) 0 >>= _) _ _ s
 refine aa (bS ho hd (x:=.ref l) rfl ?_)
 refine aa (bS ho hd (x:=.int i 0) rfl ?_)
 refine aa (bN Jv JA ?_)
 simp only [er,hx]
 refine aa (gF ho hd (by simp) (ai ⟨x,rfl,ai ⟨x,rfl,hQ _ ?_ (Heap.SameBut.update ..)⟩⟩))
 exact⟨_,bv _ ho (d9 (dm hd _)),(Obj.cls_mapFields ..).trans hc,by rw [dm hd];simp [rawInt]⟩
theorem qT{it l:Nat}(hh:A.handled=none)(hit:s.heap.IsListIter it l i)(hl:s.heap.IsList l items)(hx:items[i]?=none)
  (hE:∀h1 h' e,Heap.SameBut it s.heap h1->IsDead h1 it->Heap.NewExcOf h1 h' e "StopIteration"->s.heap.objs.size<=e->h'.objs.size=e+1->E (.ref e) {s with heap:=h'}):wpAny (model prog w) A (call (.builtin "next") [.ref it]) Q E s:=by
 refine kF (id hit) λo ho hc hd=>?_
 obtain⟨ol,Jv,_,nl,JA⟩:=hl
 refine ef (by decide +kernel) (by decide +kernel) nD (pg _) ?_
 refine aa (m:=someArgs "next" 1 2 _) (cD (a:=[aM it]) rfl ?_)
 refine aa (fR (name:=cF "__next__") hit.typeIs slot_listiter_next.lookup ?_)
 refine aa (m:=callSpecial? (.ref it) (cF "__next__")) (cq (name:=cF "__next__") hit.typeIs slot_listiter_next
  (c8 slot_listiter_next hit.typeIs eE ?_ (args_listiter_next _)))
 show wpAny _ _ (field (.ref it) 0 >>= _) _ _ s
 refine aa (bS ho hd (x:=.ref l) rfl ?_)
 refine aa (bS ho hd (x:=.int i 0) rfl ?_)
 refine aa (bN Jv JA ?_)
 simp only [er,hx]
 refine aa (dB (aa (gF ho hd (by simp) ?_)))
 refine aa ?_
 refine aa (ce ?_ (by size_fits))
 refine aa (m:=firstArgMember _ _) (cD (a:=eB) (by first|rfl|(simp only [firstArgMember];rfl)) ?_)
 refine ce ?_ (by size_fits)
 refine aa (jP ?_)
 have Jx:A.in1.in1.handled=none:=hh
 rw [Jx]
 refine aa (ai (jH ?_))
 refine hE _ _ _ (Heap.SameBut.update ..) ⟨_,_,bv _ ho (d9 (dm hd _)),(Obj.cls_mapFields ..).trans hc,dm hd _,by simp⟩ ⟨λb o e=>af _ (af _ e),?_,_,_,am _ rfl,rfl,rfl,rfl⟩ (by rw [ao,bQ];exact aD _) (by rw [ao])
 exact Heap.get?_none_of_le (by rw [ao];exact aD _)
theorem pN{it:Nat}(hh:A.handled=none)(hit:IsDead s.heap it)
  (hE:∀h' e,Heap.NewExcOf s.heap h' e "StopIteration"->s.heap.objs.size<=e->h'.objs.size=e+1->E (.ref e) {s with heap:=h'}):wpAny (model prog w) A (call (.builtin "next") [.ref it]) Q E s:=by
 refine fL (hit) λo fs ho hc hd h0=>?_
 have hT:s.TypeIs (.ref it) "list_iterator":=⟨o,ho,hc⟩
 refine ef (by decide +kernel) (by decide +kernel) nD (pg _) ?_
 refine aa (m:=someArgs "next" 1 2 _) (cD (a:=[aM it]) rfl ?_)
 refine aa (fR (name:=cF "__next__") hT slot_listiter_next.lookup ?_)
 refine aa (m:=callSpecial? (.ref it) (cF "__next__")) (cq (name:=cF "__next__") hT slot_listiter_next
  (c8 slot_listiter_next hT eE ?_ (args_listiter_next _)))
 show wpAny _ _ (field (.ref it) 0 >>= _) _ _ s
 refine aa (bS ho hd h0 ?_)
 refine aa (dB (aa ?_))
 refine aa ?_
 refine aa (ce ?_ (by size_fits))
 refine aa (m:=firstArgMember _ _) (cD (a:=eB) (by first|rfl|(simp only [firstArgMember];rfl)) ?_)
 refine ce ?_ (by size_fits)
 refine aa (jP ?_)
 have Jx:A.in1.in1.handled=none:=hh
 rw [Jx]
 refine aa (ai (jH ?_))
 refine hE _ _ ⟨λb o e=>af _ (af _ e),?_,_,_,am _ rfl,rfl,rfl,rfl⟩ (by rw [ao];exact aD _) (by rw [ao])
 exact Heap.get?_none_of_le (by rw [ao];exact aD _)
noncomputable def d4(fr:List Env):List Nat:=fr.filterMap (·.frame)
noncomputable def StkOk(fr:List Env)(h:Heap):Prop:=∀env,env∈fr->env.scope.kind≠.module/\∃(L:Nat) (m:Str->Option Value),env.frame=some L/\h.Ns L m
noncomputable def nX(h:Heap):List Nat->Heap
 |[]=>h
 |a::r=>jh (nX h r) a
theorem ip(h:Heap):∀(l:List Nat) (b:Nat),b∉l->(nX h l).get? b=h.get? b
 |[],_,_=>rfl
 |a::r,b,hb=>by
  have DY:¬b=a:=λq=>hb (by rw [q];exact aW)
  show (jh (nX h r) a).get? b=_
  rw [hU _ _ _ DY,ip h r b λq=>hb (az _ q)]
theorem dP(h:Heap):∀(l:List Nat) (b:Nat),b∈l->(nX h l).get? b=none
 |[],_,hb=>by cases hb
 |a::r,b,hb=>by
  show (jh (nX h r) a).get? b=_
  by_cases e:b=a
  ·rw [e];exact kJ _ _
  ·rw [hU _ _ _ e]
   rcases aQ.mp hb with q|q
   ·exact absurd q e
   ·exact dP h r b q
structure Sl(ch:List Nat)(fr:List Env)(h h':Heap):Prop where
 kept:∀(b:Nat) o,b∉ch->b∉d4 fr->h.get? b=some o->h'.get? b=some o
 slots:∀(b:Nat) o,b∈d4 fr->h.get? b=some o->∃sl,h'.get? b=some {o with slots:=sl}
 sz:h.objs.size<=h'.objs.size
 there:∀(b:Nat) o,h.get? b=some o->∃o',h'.get? b=some o'
theorem Sl.refl(ch:List Nat)(fr:List Env)(h:Heap):Sl ch fr h h:=⟨λ_ _ _ _ e=>e,λ_ o _ e=>⟨o.slots,e⟩,ag _,λ_ o e=>⟨o,e⟩⟩
theorem Sl.of_gr(g:Gr h h'):Sl ch fr h h':=⟨λb o _ _ e=>g.up b o e,λb o _ e=>⟨o.slots,g.up b o e⟩,g.sz,λb o e=>⟨o,g.up b o e⟩⟩
theorem Sl.trans{a b c:Heap}(x:Sl ch fr a b)(y:Sl ch fr b c):Sl ch fr a c :=
 ⟨λn o h1 h2 e=>y.kept n o h1 h2 (x.kept n o h1 h2 e),λn o h1 e=>et (x.slots n o h1 e) λ_ e1=>et (y.slots n _ h1 e1) λsl e2=>⟨sl,e2⟩,ab x.sz y.sz,λn o e=>et (x.there n o e) λo1 e1=>y.there n o1 e1⟩
theorem Sl.mono{a b:Heap}(x:Sl ch fr a b)(h:∀n∈ch,n∈ch'):Sl ch' fr a b :=
 ⟨λn o h1 h2 e=>x.kept n o (λq=>h1 (h n q)) h2 e,x.slots,x.sz,x.there⟩
theorem Sl.ns{m:Str->Option Value}(x:Sl ch fr h h')(n:h.Ns L m)(hL:L∉ch):h'.Ns L m:=by
 refine oi (n) λo es ep e d r=>?_
 by_cases hf:L∈d4 fr
 ·obtain⟨sl,e'⟩:=x.slots L o hf e
  exact⟨_,es,ep,e',d,r⟩
 ·exact⟨o,es,ep,x.kept L o hL hf e,d,r⟩
theorem StkOk.sl(s:StkOk fr h)(x:Sl ch fr h h')(hc:∀L m,L∈ch->¬h.Ns L m):StkOk fr h':=λenv he =>
 let ⟨a,L,m,b,n⟩:=s env he;⟨a,L,m,b,x.ns n λq=>hc L m q n⟩
theorem StkOk.up(s:StkOk fr h)(u:Up h h'):StkOk fr h':=λenv he=>let ⟨a,L,m,b,n⟩:=s env he;⟨a,L,m,b,n.keeps u⟩
theorem StkOk.fun{base:Heap}(s:StkOk fr h)(hb:∀L∈d4 fr,base.get? L=none):h.FunFrames base fr:=by
 induction fr with
 |nil=>trivial
 |cons env r ih =>
  obtain⟨a,L,m,b,o,es,ep,e,d,_⟩:=s env aW
  refine⟨a,⟨L,o,b,hb L ?_,e,λvs q=>by rw [d] at q;cases q⟩,ih (λenv he=>s env (az _ he)) λL hL=>hb L ?_⟩
  ·unfold d4;rw [dS,b];exact aW
  ·unfold d4;rw [dS,b];exact az _ hL
theorem vU{base:Heap}{E3:List Env}{L e:Addr}{oe:Obj}{vs:Array Value}{a0:Value}{Q:Unit->Shared->Prop}
  (D0:A.frames=some (env::E3)) (hl:s.heap.FunFrames base (env::E3)) (hf:env.frame=some L)
  (he:s.heap.get? e=some oe) (Jw:base.StaysIn s.heap) (Fd:base.get? e=none) (hd:oe.data=.fields vs) (h1:vs[1]?=some .none) (h0:vs[0]?=some a0)
  (h:∀h',Heap.NotedW base (env::E3) e oe.cls a0 (rawInt L) s.heap h'->Q () {s with heap:=h'}):wpAny M A (noteFrame (.ref e) env) Q E s:=by
 delta noteFrame
 simp only [hf]
 refine aa (bS he hd h1 ?_)
 exact wpAny_entryW D0 hl hf he Jw Fd hd (bF.mp h1).1 h0 h
theorem w6{l:Nat}{v:Value}(r:Room A 2)(bt:Bt K B s.heap)(t0:0<s.toks)(hit:s.heap.IsListIter I l i)(hl:s.heap.IsList l items)(hx:items[i]?=some v)
  (hQ:∀(T:Nat) h' t',h'.IsTuple T #[.bool true,v]->h'.IsListIter I l (i+1)->(∀b o,¬@Eq Nat b I->s.heap.get? b=some o->h'.get? b=some o)->s.heap.objs.size<=T->T<h'.objs.size->s.toks<=t'->Q (.ref T) {s with heap:=h',toks:=t'}):
  wpAny (model prog w) A (call (.ref 76) [.ref I]) Q E s:=by
 have kr:=bt.kr.up bt.up
 refine jO (n:=1) r (kr.kn.fn 76 (st 7) "_pull" .none .none (co (by kernel_rfl))) kr.kn.nl (binds:=[("it",.ref I)]) (λ_ _ _=>rfl)
  (fQ (.inl rfl) lS) (by decide) λpm cd doc C' env he gr tk Ei ro fm top E=>?_
 have fx:Fx s env (s.heap.objs.size+1+nC (aZ (st 7)).names) [] [("it",.is (.ref I))] C':=by
  subst he
  exact il Ei t0 tk top fm (sO (.ref I) rfl rfl (.inl At_rfl) mr)
 generalize DZ:s.heap.objs.size+1+nC (aZ (st 7)).names=lo at fx
 have hk:env.scope.kind=.function:=by subst he;rfl
 have JI:∀{ex Γ lo},Gl env (hO s.heap env lo ex Γ) "next" (.builtin "next"):=by intro ex Γ lo;subst he;exact glF kr.kn (.inr (co (by kernel_rfl)))
 have IM:@cA Nat _ I s.heap.objs.size:=by obtain⟨o,ho,_⟩:=hit;exact iF ho
 refine au (wpAny_Try_except (au (cL (iy (cP (fK ?_) rfl)))))
 refine cP (aK (cC JI fx.fx ?_)) rfl
 rw [show starEach _ _=[(false,eval _ _)] from rfl]
 refine bV rfl (aE (ar (Ev.run (an (cu 0 rfl hk)) fx.fx fx.t λva h1 t1 u1 l1 Dv=>aA ?_)))
 replace Dv:=At_is Dv
 subst Dv
 have Hq:=gr.trans u1
 refine pM (s:={C' with heap:=h1,toks:=t1}) (hit.at λo e=>Hq.up _ _ e) (hl.at λo e=>Hq.up _ _ e) hx λh2 IK IP=>?_
 dsimp only at IP ⊢
 refine kZ ?_
 refine⟨show 2<=sizeLine by decide,?_⟩
 dsimp only
 have fin:=hQ h2.objs.size (h2.push {cls:=.type "tuple",data:=.seq ([.bool true,v]:List Value).toArray}) t1 ⟨_,am _ rfl,rfl,_,rfl⟩ (IK.at λo e=>af _ e)
  (λb o hb e=>af _ (IP.extBut b o hb (Hq.up b o e))) (by have:=Hq.sz;have:h2.objs.size=h1.objs.size:=IP.1;exact bX 0xab1ca910b910 s.heap.objs.size h1.objs.size h2.objs.size rfl ‹_› this) (by rw [ao];exact bo _) (ab tk l1)
 rw [Ei]
 exact fin
theorem pL{l:Nat}(hh:A.handled=none)(hit:(s.heap.IsListIter I l i/\s.heap.IsList l items/\items[i]?=none)\/IsDead s.heap I)
  (hE:∀DE Eh e,(∀b o,¬@Eq Nat b I->s.heap.get? b=some o->DE.get? b=some o)->IsDead DE I->Heap.NewExcOf DE Eh e "StopIteration"->s.heap.objs.size<=e->Eh.objs.size=e+1->E (.ref e) {s with heap:=Eh}):
  wpAny (model prog w) A (call (.builtin "next") [.ref I]) Q E s:=by
 rcases hit with ⟨h1,h2,h3⟩|h1
 ·exact qT hh h1 h2 h3 λDE Eh e sb dd nx ge ee=>hE DE Eh e (λb o hb q=>sb.extBut b o hb q) dd nx ge ee
 ·exact pN hh h1 λEh e nx ge ee=>hE s.heap Eh e (λb o _ q=>q) h1 nx ge ee
noncomputable def OffB(B:Heap)(I:Nat)(fr:List Env):Prop:=B.get? I=none/\∀L∈d4 fr,B.get? L=none
theorem zd{l:Nat}(r:Room A 2)(bt:Bt K B s.heap)(t0:0<s.toks)(hit:(s.heap.IsListIter I l i/\s.heap.IsList l items/\items[i]?=none)\/IsDead s.heap I)
  (D0:A.frames=some fr) (stk:StkOk fr s.heap) (off:OffB B I fr)
  (hQ:∀(T:Nat) h' t',h'.IsTuple T #[.bool false,.none]->IsDead h' I->Sl [I] fr s.heap h'->s.heap.objs.size<=T->T<h'.objs.size->s.toks<=t'->Q (.ref T) {s with heap:=h',toks:=t'}):
  wpAny (model prog w) A (call (.ref 76) [.ref I]) Q E s:=by
 have kr:=bt.kr.up bt.up
 refine jO (n:=1) r (kr.kn.fn 76 (st 7) "_pull" .none .none (co (by kernel_rfl))) kr.kn.nl (binds:=[("it",.ref I)]) (λ_ _ _=>rfl)
  (fQ (.inl rfl) lS) (by decide) λpm cd doc C' env he gr tk Ei ro fm top E=>?_
 have fx:Fx s env (s.heap.objs.size+1+nC (aZ (st 7)).names) [] [("it",.is (.ref I))] C':=by
  subst he
  exact il Ei t0 tk top fm (sO (.ref I) rfl rfl (.inl At_rfl) mr)
 generalize DZ:s.heap.objs.size+1+nC (aZ (st 7)).names=lo at fx
 have hk:env.scope.kind=.function:=by subst he;rfl
 have JI:∀{ex Γ lo},Gl env (hO s.heap env lo ex Γ) "next" (.builtin "next"):=by intro ex Γ lo;subst he;exact glF kr.kn (.inr (co (by kernel_rfl)))
 obtain⟨oI,fsI,OG,hdI⟩:∃o fs,s.heap.get? I=some o/\o.data=.fields fs:=by
  rcases hit with ⟨⟨o,a,_,b⟩,_⟩|⟨o,fs,a,_,b,_⟩
  ·exact⟨o,_,a,b⟩
  ·exact⟨o,fs,a,b⟩
 have IM:@cA Nat _ I s.heap.objs.size:=iF OG
 refine au (wpAny_Try_except (au (cL (iy (cP (fK ?_) rfl)))))
 refine cP (aK (cC JI fx.fx ?_)) rfl
 rw [show starEach _ _=[(false,eval _ _)] from rfl]
 refine bV rfl (aE (ar (Ev.run (an (cu 0 rfl hk)) fx.fx fx.t λva Dy t1 u1 l1 Dv=>aA ?_)))
 replace Dv:=At_is Dv
 subst Dv
 have Hq:=gr.trans u1
 refine pL (l:=l) (i:=i) (items:=items) (s:={C' with heap:=Dy,toks:=t1}) ro.hand (hit.imp (fun⟨h1,h2,h3⟩=>⟨h1.at λo e=>Hq.up I o e,h2.at λo e=>Hq.up _ _ e,h3⟩) λh1=>h1.at λo e=>Hq.up I o e) λDE Eh e IP dead nx ge ee=>?_
 dsimp only at IP ge ⊢
 have Ec:@Eq Nat env.locals s.heap.objs.size:=by rw [he];rfl
 have EY:env.frame=some env.locals:=by rw [he];rfl
 have L9:∀(b:Nat) o,¬b=I->s.heap.get? b=some o->Eh.get? b=some o:=λb o hb q=>nx.keeps b o (IP b o hb (Hq.up b o q))
 have DX:s.heap.objs.size<=e:=ab Hq.sz ge
 have JL:∀(b:Nat) o,¬b=I->s.heap.get? b=some o->DE.get? b=some o:=λb o hb q=>IP b o hb (Hq.up b o q)
 have Hg:∀(b:Nat) o,(nX DE (env.locals::d4 fr)).get? b=some o->DE.get? b=some o:=λb o q=>by
  by_cases hm:b∈(env.locals:Nat)::d4 fr
  ·rw [dP _ _ _ hm] at q;cases q
  ·rw [ip _ _ _ hm] at q
   exact q
 have bin:∀(b:Nat) o,@cA Nat _ b s.heap.objs.size->b∉d4 fr->DE.get? b=some o->(nX DE (env.locals::d4 fr)).get? b=some o:=λb o hb hf q=>by
  have hm:b∉(env.locals:Nat)::d4 fr:=λz=>(aQ.mp z).elim (λz=>bX 0xb91ca914ab1e b s.heap.objs.size env.locals rfl hb z Ec) hf
  rw [ip _ _ _ hm];exact q
 have Jw:(nX DE (env.locals::d4 fr)).StaysIn Eh:=λb o q=>nx.keeps b o (Hg b o q)
 have Fd:(nX DE (env.locals::d4 fr)).get? e=none:=by
  cases q:(nX DE (env.locals::d4 fr)).get? e with
  |none=>rfl
  |some o=>have:=Hg e o q;rw [nx.new] at this;cases this
 obtain⟨_,m,cm,f,g⟩:=fx.fx
 have KK:Eh.Ns env.locals m:=((f.ns.keeps u1.up).at' λo q=>IP _ o (λz=>by have z':@Eq Nat env.locals I:=z;exact bX 0x9b18a914ab1e I s.heap.objs.size env.locals rfl IM z Ec) q).keeps nx.keeps
 have PO:StkOk fr Eh:=λev Ez=>by
  obtain⟨a,L,m',b,n⟩:=stk ev Ez
  refine⟨a,L,m',b,n.at' λo q=>L9 L o (λz=>?_) q⟩
  refine oi (n) λo2 es ep q2 d2 _=>?_
  rw [z,OG] at q2;cases q2;rw [hdI] at d2;cases d2
 have ff:Eh.FunFrames (nX DE (env.locals::d4 fr)) (env::fr):=
  Heap.FunFrames.cons (by rw [hk];decide) EY KK (dP _ _ _ aW) (PO.fun λL hL=>dP _ _ _ (az _ hL))
 refine fL (nx.there) λob vs UD Qv Qu KG=>?_
 have hsz:1<vs.size:=(bF.mp KG).1
 have KH:vs[0]?=some vs[0]:=aY (aJ ‹_›)
 have hfrE:(A.deeper env).frames=some (env::fr):=fA D0
 refine vU hfrE ff EY UD Jw Fd Qu KG KH λh4 nt=>?_
 refine a4 (nt) λn1 n2 n3 n4=>?_
 refine gX n1 n2 n3 λh5 k1 k2 k3 k4=>?_
 dsimp only at k4 ⊢
 have M1:Up B h5:=λb o q=>k1 b o (by
  have OV:¬b=I:=λz=>by rw [z,off.1] at q;cases q
  have GL:b∉d4 fr:=λz=>by rw [off.2 b z] at q;cases q
  exact bin b o (iF (bt.up b o q)) GL (JL b o OV (bt.up b o q)))
 have FD:Gl env ⟨λh=>Up B h,λu x=>x.trans u⟩ "StopIteration" (.type "StopIteration"):=by
  subst he
  exact⟨rfl,rfl,rfl,rfl,λh u=>(bt.kr.kn.bl "StopIteration" _ (co (by kernel_rfl))).up u,rfl⟩
 refine ci (k3.at.there) λTt Qx ML=>?_
 refine wpAny_handleBy_builtin (X:="StopIteration") (T:="StopIteration") (b:=true) (by rw [isSubtype_type];kernel_rfl) (by rw [isSubtype_type];kernel_rfl) (by rw [isSubtype_type];kernel_rfl) (cC (s:={C' with heap:=h5,toks:=t1}) FD M1 ⟨rfl,⟨Tt,Qx,ML.trans Qv⟩,?_⟩)
 refine gX k1 k2 k3.at λh6 j1 j2 j3 j4=>?_
 dsimp only at j4 ⊢
 refine au (cL (iy (cP (fK (cP (wpAny_Constant_none ?_) rfl)) rfl)))
 refine kZ ?_
 refine⟨show 2<=sizeLine by decide,?_⟩
 dsimp only
 refine ci (j3.at.there) λob6 Qw _=>?_
 have Mu:@cA Nat _ e h6.objs.size:=iF Qw
 have pu:Up h6 (h6.push {cls:=.type "tuple",data:=.seq ([.bool false,.none]:List Value).toArray}):=λb o q=>af _ q
 have hIf:I∉d4 fr:=λz=>by
   refine ci (cO.mp z) λev Ez GY=>?_
   obtain⟨_,L,m',b',n⟩:=stk ev Ez
   rw [GY] at b';cases b'
   refine oi (n) λo2 es ep q2 d2 _=>?_
   rw [OG] at q2;cases q2;rw [hdI] at d2;cases d2
 have slotsP:∀(b:Nat) o,b∈d4 fr->s.heap.get? b=some o->∃sl,(h6.push {cls:=.type "tuple",data:=.seq ([.bool false,.none]:List Value).toArray}).get? b=some {o with slots:=sl}:=λb o h2 q=>by
  have NG:¬b=I:=λz=>hIf (z▸h2)
  have F4:∀vs,o.data≠.fields vs:=by
   refine ci (cO.mp h2) λev Ez GY=>?_
   obtain⟨_,L,m',b',n⟩:=stk ev Ez
   rw [GY] at b';cases b'
   refine oi (n) λo2 es ep q2 d2 _=>?_
   rw [q2] at q;cases q
   intro vs z;rw [d2] at z;cases z
  obtain⟨sl,q4⟩:=n4 b o (L9 b o NG q) F4
  exact⟨sl,pu b _ (j4 b _ (k4 b _ q4 F4) F4)⟩
 have fin:=hQ h6.objs.size (h6.push {cls:=.type "tuple",data:=.seq ([.bool false,.none]:List Value).toArray}) t1 ⟨_,am _ rfl,rfl,_,rfl⟩
  (dead.at λo q=>pu I o (j1 I o (bin I o IM hIf q)))
  ⟨λb o h1 h2 q=>pu b o (j1 b o (bin b o (iF q) h2 (JL b o (λz=>h1 (by rw [z];exact aW)) q))),slotsP,by rw [ao];exact bX 0x13621522911a2b10 e h6.objs.size s.heap.objs.size rfl Mu DX,λb o q=>?_⟩ (oq Mu DX) (by rw [ao];exact bo _) (ab tk l1)
 ·rw [Ei]
  exact fin
 ·by_cases h2:b∈d4 fr
  ·obtain⟨sl,q'⟩:=slotsP b o h2 q
   exact⟨_,q'⟩
  ·by_cases NG:b=I
   ·refine lF (dead) λo' fs' q' _=>?_
    exact⟨o',pu b _ (j1 b _ (bin b _ (iF q) h2 (by rw [NG];exact q')))⟩
   ·exact⟨o,pu b _ (j1 b _ (bin b o (iF q) h2 (JL b o NG q)))⟩
structure Fly(ch:List Nat)(fr:List Env)(h h':Heap)(e:Nat):Prop where
 sl:Sl ch fr h h'
 en:h.get? e=none
 tr:h'.Traced h e (.type "StopIteration")
theorem n7{b:Nat}{o:Obj}(stk:StkOk fr h)(hb:b∈d4 fr)(q:h.get? b=some o):∀vs,o.data≠.fields vs:=by
 refine ci (cO.mp hb) λev Ez GY=>?_
 obtain⟨_,L,m',b',n⟩:=stk ev Ez
 rw [GY] at b';cases b'
 refine oi (n) λo2 es ep q2 d2 _=>?_
 rw [q2] at q;cases q
 intro vs z;rw [d2] at z;cases z
theorem tP{hm:Heap}{e:Nat}{m:Str->Option Value}{ob:Obj}{vs:Array Value}{Q:Unit->Shared->Prop}(D0:A.frames=some (env::fr))(hk:env.scope.kind≠.module)(hf:env.frame=some env.locals)
  (sl:Sl ch fr h hm) (stk:StkOk fr hm) (hn:hm.Ns env.locals m) (Ec:h.get? env.locals=none) (keeps:Up hm s.heap) (new:hm.get? e=none) (he:s.heap.get? e=some ob) (hc:ob.cls=.type "StopIteration") (hd:ob.data=.fields vs) (h1:vs[1]?=some .none) (DX:@iC Nat _ h.objs.size env.locals)
  (hQ:∀h',Fly ch fr h h' e->Q () {s with heap:=h'}):wpAny M A (leaving env (.ref e)) Q E s:=by
 have Fd:(nX hm (env.locals::d4 fr)).get? e=none:=by
  by_cases FK:(e:Nat)∈(env.locals:Nat)::d4 fr
  ·exact dP _ _ _ FK
  ·rw [ip _ _ _ FK];exact new
 have Jw:(nX hm (env.locals::d4 fr)).StaysIn s.heap:=λb o q=>by
  by_cases FK:(b:Nat)∈(env.locals:Nat)::d4 fr
  ·rw [dP _ _ _ FK] at q;cases q
  ·rw [ip _ _ _ FK] at q;exact keeps b o q
 have ff:s.heap.FunFrames (nX hm (env.locals::d4 fr)) (env::fr):=
  Heap.FunFrames.cons hk hf (hn.keeps keeps) (dP _ _ _ aW) ((stk.up keeps).fun λL hL=>dP _ _ _ (az _ hL))
 refine wpAny_leaving_first D0 ff hf he Jw Fd hd h1 λh' left=>?_
 refine a4 (left) λk1 k2 k3 k4=>?_
 rw [hc] at k3
 have Jm:∀(b:Nat) o,¬b=env.locals->b∉d4 fr->hm.get? b=some o->(nX hm (env.locals::d4 fr)).get? b=some o:=λb o h1 h2 q=>by
  have FK:b∉(env.locals:Nat)::d4 fr:=λz=>(aQ.mp z).elim h1 h2
  rw [ip _ _ _ FK];exact q
 have nl:∀(b:Nat) o,h.get? b=some o->¬b=env.locals:=λb o q z=>by rw [z,Ec] at q;cases q
 have slots:∀(b:Nat) o,b∈d4 fr->h.get? b=some o->∃sl,h'.get? b=some {o with slots:=sl}:=λb o hb q=>by
  obtain⟨Gg,q1⟩:=sl.slots b o hb q
  have nf:=n7 stk hb q1
  obtain⟨Eu,q2⟩:=k4 b _ (keeps b _ q1) nf
  exact⟨Eu,q2⟩
 refine e5a9 (k3) λoe ws T oT ts t1 t2 t3 t4 t5 t6 t7 t8 t9=>?_
 refine hQ h' ⟨⟨λb o h1 h2 q=>k1 b o (Jm b o (nl b o q) h2 (sl.kept b o h1 h2 q)),slots,?_,λb o q=>?_⟩,?_,oe,ws,T,oT,ts,t1,t2,t3,t4,?_,t6,t7,t8,t9⟩
 ·obtain⟨_,⟨L,o,hL,_,ho,_⟩,_⟩:=k2
  rw [hf] at hL;cases hL
  have:@cA Nat _ env.locals h'.objs.size:=iF ho
  exact oq this DX
 ·by_cases hb:b∈d4 fr
  ·obtain⟨sl,q'⟩:=slots b o hb q;exact⟨_,q'⟩
  ·obtain⟨o',q'⟩:=sl.there b o q
   exact⟨o',k1 b o' (Jm b o' (nl b o q) hb q')⟩
 ·cases q:h.get? e with
  |none=>rfl
  |some o=>obtain⟨o',q'⟩:=sl.there e o q;rw [new] at q';cases q'
 ·cases q:h.get? T with
  |none=>rfl
  |some o =>
   obtain⟨o',q'⟩:=sl.there T o q
   by_cases hb:(T:Nat)∈d4 fr
   ·obtain⟨S2,q3⟩:=slots T o hb q
    rw [t7] at q3;cases q3
    obtain⟨Gg,q1⟩:=sl.slots T o hb q
    exact absurd t8 (n7 stk hb q1 ts)
   ·rw [Jm T o' (nl T o q) hb q'] at t5;cases t5
theorem sJ{pos:Pos}{value:Expr}{Q:Flow->Shared->Prop}(hs:swapsWith value (some (.Tuple elts k tp)) pos.line env=pure false)(GI:swappedStores [.Tuple elts k tp] value env=pure none)
  (h:wpAny M A (eval value env) (λv C'=>wpAny M A (assign (.Tuple elts k tp) env v) (λ_=>Q .next) E C') E s):wpAny M A (exec (.Assign [.Tuple elts k tp] value pos) env) Q E s:=by
 rw [arm_exec_Assign,show swapsWithSole [.Tuple elts k tp] value pos.line env=swapsWith value (some (.Tuple elts k tp)) pos.line env from rfl,hs]
 refine aa (ez (aa (ai ?_)))
 refine aa (bb h (λv C' h1=>?_) λ_ _ q=>q)
 rw [GI]
 refine aa (ai ?_)
 exact aa (bb h1 (λ_ _ q=>ai q) λ_ _ q=>q)
noncomputable def gb(cg ck cv El Eo D2 it kf Ew tk:Value):Array (Option Value):=#[some cg,some ck,some cv,some El,some Eo,some D2,some it,some kf,some Ew,some tk]
theorem qJ{pos:Pos}{b:Bool}(l:Ld env G x (.bool b))(hd:(x==("__debug__":Str))=false:=by decide):EvT w A env G (.Name x pos) b:=by
 intro s Q E g t hQ
 refine aa (an l hd s _ _ g t λv h1 t1 u1 l1 Dv=>?_)
 have Dv:=At_bool.mp Dv
 unfold pB at Dv
 subst Dv
 exact aa (ez (bp (dq (hQ h1 t1 u1 l1))))
theorem lN{pos:Pos}{b:Bool}(h:EvT w A env G e b):EvT w A env G (.UnaryOp .Not e pos) (!b):=by
 intro s Q E g t hQ
 exact wpAny_isTrue_Not (h s _ _ g t λh1 t1 u1 l1=>hQ h1 t1 u1 l1)
theorem yo{a:Nat}:CmR w A .Is (·=.ref a) (·=.none) false:=by
 intro s va vb Q E t ha hb hQ
 subst ha hb
 exact wpAny_is_other rfl (by intro h;cases h) hQ
theorem mI{pos:Pos}:Ev w A env G (.Constant .none k pos) (tV (·=.none)):=by
 intro s Q E g t hQ
 exact wpAny_Constant_none (hQ _ s.heap _ (Gr.refl _) (ag _) rfl)
theorem qG{n:Str}{v:Value}(h:takerIn K C n=some (some v)):findIn K (.ref C) n=some (some v):=by
 unfold takerIn at h
 cases e:findIn K (.ref C) n with
 |none=>rw [e] at h;cases h
 |some r =>
  rw [e] at h
  cases r with
  |none=>cases h
  |some a =>
   simp only [Option.bind_some] at h
   cases q:takesIn K a with
   |none=>rw [q] at h;cases h
   |some b =>
    rw [q] at h
    simp only [dv,eo] at h
    split at h
    ·rw [h]
    ·cases h
theorem CN{JV:Str}{pos:Pos}(Fl:(apos.endLine==pos.line)=true)
  (GP:methodCallForm (es.length+([]:List Keyword).length) (backTo pos (starEach es env)) (backToKw pos (keywordEach [] env))=true)
  (h:wpAny (model prog w) A (eval (.Name x px) env) (λv C'=>∀pl,wpAny (model prog w) A (getMethod v JV pl) (λfr Ds=>wpAny (model prog w) A (callWith pos fr.1 fr.2 (backTo pos (starEach es env)) []) Q E Ds) E C') E s):
  wpAny (model prog w) A (eval (.Call (.Attribute (.Name x px) JV apos) es [] pos) env) Q E s:=by
 rw [arm_eval_Call,show attributeBase (.Name x px) JV env (eval (.Name x px) env)=eval (.Name x px) env from rfl]
 refine aa (bb h (λv C' h1=>?_) λ_ _ e=>e)
 refine aa (ez ?_)
 have Ea:methodCallPos true (.Name x px) env apos pos=pure pos:=by unfold methodCallPos;simp [Fl]
 unfold methodCall
 rw [GP]
 refine aa (bp ?_)
 refine bb (h1 _) (λfr Ds h2=>?_) λ_ _ e=>e
 exact aa (cD Ea h2)
theorem xm{x p:Nat}{v:Value}{vs:Array (Option Value)}{pl:Sem Bool}{Q:Value×List Value->Shared->Prop}(sk:SK K)(X:K.In s.heap)(hx:SlotAt s.heap x C vs)(hC:C∈clsTab)(hp:(C,name,p,i)∈slotTab)
  (hv:(vs[i]?).join=some v) (hh:handedIn v=true) (h:Q (v,[]) {s with toks:=s.toks+1}):
  wpAny (model prog w) A (getMethod (.ref x) name pl) Q E s:=by
 obtain⟨ox,I⟩:=hx.inst
 refine a4 (sk.rd C name p i hp) λq1 q2 q3 q4=>?_
 refine a5 (sk.cl C hC) λc1 c2 c3 c4 _=>?_
 refine method_usual X I c1 c2 (qG q3) (by simp only [Option.all_some,q4];decide) (oB sk X hx hC hp hv hh h)
noncomputable def SlotF(fr:List Env)(h:Heap)(x C:Nat)(vs:Array (Option Value)):Prop:=1<=x/\x-1∉d4 fr/\h.get? x=some (slO C (x-1) vs)/\h.get? (x-1)=some emptyDict
theorem SlotF.at{x:Nat}{vs:Array (Option Value)}(s:SlotF fr h x C vs):SlotAt h x C vs:=⟨x-1,by have:=s.1;exact vI this,s.2.2⟩
theorem SlotF.lt{x:Nat}{vs:Array (Option Value)}(s:SlotF fr h x C vs):x<h.objs.size:=aX s.2.2.1
theorem SlotF.keep{x N:Nat}{vs:Array (Option Value)}(s:SlotF fr h x C vs)(hx:x<N)(k:∀(b:Nat) o,b<N->h.get? b=some o->h'.get? b=some o):SlotF fr h' x C vs :=
 ⟨s.1,s.2.1,k _ _ hx s.2.2.1,k _ _ (vH hx) s.2.2.2⟩
theorem SlotF.up{x:Nat}{vs:Array (Option Value)}(s:SlotF fr h x C vs)(u:Up h h'):SlotF fr h' x C vs:=⟨s.1,s.2.1,u _ _ s.2.2.1,u _ _ s.2.2.2⟩
theorem dC{b:Nat}{o:Obj}(stk:StkOk fr h)(q:h.get? b=some o)(hd:∀es ep,o.data≠.dict es ep):b∉d4 fr:=λz=>by
 refine ci (cO.mp z) λev Ez GY=>?_
 obtain⟨_,L,m',b',n⟩:=stk ev Ez
 rw [GY] at b';cases b'
 refine oi (n) λo2 es ep q2 d2 _=>?_
 rw [q2] at q;cases q
 exact hd _ _ d2
theorem SlotF.sl{x:Nat}{vs:Array (Option Value)}(s:SlotF fr h x C vs)(sl:Sl ch fr h h')(stk:StkOk fr h)(h1:x∉ch)(h2:x-1∉ch):SlotF fr h' x C vs :=
 ⟨s.1,s.2.1,sl.kept x _ h1 (dC stk s.2.2.1 λ_ _ q=>by cases q) s.2.2.1,sl.kept (x-1) _ h2 s.2.1 s.2.2.2⟩
theorem SlotF.cons{x:Nat}{vs:Array (Option Value)}(s:SlotF fr h x C vs)(hf:env.frame=some env.locals)(hx:x<=env.locals):SlotF (env::fr) h x C vs:=by
 refine⟨s.1,λz=>?_,s.2.2⟩
 have h1:=s.1
 unfold d4 at z
 rw [dS,hf] at z
 rcases aQ.mp z with z|z
 ·have z':@Eq Nat (x-1) env.locals:=z;exact y_761 h1 hx z
 ·exact s.2.1 z
theorem SlotF.uncons{x:Nat}{vs:Array (Option Value)}(s:SlotF (env::fr) h x C vs)(hf:env.frame=some env.locals):SlotF fr h x C vs:=by
 refine⟨s.1,λz=>s.2.1 ?_,s.2.2⟩
 unfold d4
 rw [dS,hf]
 exact az _ z
theorem eD(hf:env.frame=some env.locals)(b:Nat):b∈d4 (env::fr)↔@Eq Nat b env.locals\/b∈d4 fr:=by
 unfold d4;rw [dS,hf];exact aQ
structure Ws(A:Around)(B:Heap)(s:Shared)(fr:List Env)(env:Env):Prop where
 hk:env.scope.kind=.function
 cells:env.cells=[]
 ge:@iC Nat _ s.heap.objs.size env.locals
 frame:env.frame=some env.locals
 hand:A.handled=none
 frames:A.frames=some (env::fr)
 offB:∀L∈d4 fr,B.get? L=none
 bsz:B.objs.size<=s.heap.objs.size
 frlt:∀L∈d4 fr,L<s.heap.objs.size
noncomputable def ScalΓ(Γ:Ctx):Prop:=∀(i:Nat) y d,Γ[i]?=some (y,d)->Scal d=true
theorem ScalΓ.cons(h:ScalΓ Γ)(hd:Scal d=true):ScalΓ ((x,d)::Γ):=λi y e hy=>by
 cases i with
 |zero=>simp at hy;obtain⟨_,rfl⟩:=hy;exact hd
 |succ i=>simp at hy;exact h i y e hy
noncomputable abbrev bsO(h:Heap)(env:Env):Heap:=m9 h (env.locals+1) env.locals
noncomputable abbrev ni(env:Env)(Γ:Ctx)(h:Heap):Cx:=hO (bsO h env) env (env.locals+1) [] Γ
structure Wk(K:Frag)(B:Heap)(s:Shared)(fr:List Env)(env:Env)(Γ:Ctx)(ch:List Nat)(s':Shared):Prop where
 fx:Fx {s' with heap:=bsO s'.heap env} env (env.locals+1) [] Γ s'
 sc:ScalΓ Γ
 sl:Sl ch fr s.heap s'.heap
 bt:Bt K B s'.heap
 same:s'={s with heap:=s'.heap,toks:=s'.toks}
 tk:s.toks<=s'.toks
 stk:StkOk fr s'.heap
section
variable{Ds:Shared}
theorem Wk.t(wk:Wk K B s fr env Γ ch C'):0<C'.toks:=wk.fx.t
theorem Wk.los(wk:Wk K B s fr env Γ ch C'):env.locals+1<=C'.heap.objs.size:=wk.fx.los
theorem Wk.ns(wk:Wk K B s fr env Γ ch C'):∃m,C'.heap.Ns env.locals m:=let ⟨_,m,_,f,_⟩:=wk.fx.fx;⟨m,f.ns⟩
theorem Wk.stkE(ws:Ws A B s fr env)(wk:Wk K B s fr env Γ ch C'):StkOk (env::fr) C'.heap:=λev Ez=>by
 rcases aQ.mp Ez with rfl|Ez
 ·obtain⟨m,n⟩:=wk.ns
  exact⟨by rw [ws.hk];decide,_,m,ws.frame,n⟩
 ·exact wk.stk ev Ez
theorem Wk.kr(ws:Ws A B s fr env)(wk:Wk K B s fr env Γ ch C'):KR K (bsO C'.heap env):=by
 have h1:=ws.bsz
 have h2:=ws.ge
 refine wk.bt.below (bX 0x17421522111b2910 B.objs.size s.heap.objs.size env.locals rfl h1 h2) ?_
 exact df (ab ‹_› ‹_›)
theorem Wk.next(ws:Ws A B s fr env)(wk:Wk K B s fr env Γ ch C')(sc:ScalΓ Γ')(GQ:Fx {C' with heap:=bsO C'.heap env} env (env.locals+1) [] Γ' Ds)
  (k:∀(b:Nat) o,¬@Eq Nat b env.locals->C'.heap.get? b=some o->Ds.heap.get? b=some o):Wk K B s fr env Γ' ch Ds:=by
 have DX:=ws.ge
 have DH:∀(b:Nat) o,s.heap.get? b=some o->¬@Eq Nat b env.locals:=λb o q=>by have:=iF q;exact vB this DX
 have IY:∀L∈d4 fr,¬@Eq Nat L env.locals:=λL hL=>by have:=ws.frlt L hL;exact vB this DX
 have los:=GQ.los
 refine⟨?_,sc,⟨λb o h1 h2 q=>k b o (DH b o q) (wk.sl.kept b o h1 h2 q),λb o h1 q=>?_,bX 0x136215119210ab10 env.locals Ds.heap.objs.size s.heap.objs.size rfl los DX,λb o q=>?_⟩,⟨wk.bt.kr,λb o q=>k b o ?_ (wk.bt.up b o q),?_⟩,?_,?_,λev Ez=>?_⟩
 ·have:=GQ.rebase (h':=Ds.heap) (t':=Ds.toks) sc ws.cells (λm hm=>hm) (ag _)
  exact this
 ·obtain⟨sl,q1⟩:=wk.sl.slots b o h1 q
  exact⟨sl,k b _ (IY b h1) q1⟩
 ·obtain⟨o',q1⟩:=wk.sl.there b o q
  exact⟨o',k b _ (DH b o q) q1⟩
 ·have h1:=iF q;have h2:=ws.bsz;exact dh 0xcb10ba10a914c91e b B.objs.size s.heap.objs.size env.locals rfl h1 h2 DX
 ·have h2:=ws.bsz;exact dh 0x1382196215119210ab10 env.locals Ds.heap.objs.size B.objs.size s.heap.objs.size rfl los h2 DX
 ·have h2:=wk.same
  have h3:=GQ.same
  rw [h3,h2]
 ·exact ab wk.tk GQ.tk
 ·obtain⟨a,L,m,b,n⟩:=wk.stk ev Ez
  have hL:L∈d4 fr:=cO.mpr ⟨ev,Ez,b⟩
  exact⟨a,L,m,b,n.at' λo q=>k L o (IY L hL) q⟩
theorem Wk.gr(ws:Ws A B s fr env)(wk:Wk K B s fr env Γ ch C')(u:Gr C'.heap h')(t:C'.toks<=t'):Wk K B s fr env Γ ch {C' with heap:=h',toks:=t'} :=
 wk.next ws wk.sc (wk.fx.move u.up t) λb o _ q=>u.up b o q
theorem Wk.pick(wk:Wk K B s fr env Γ ch C')(l:List Nat):Wk K B s fr env (zg Γ l) ch C' :=
 {wk with fx:=wk.fx.pick l,sc:=λi y d h=>et (bE.mp (n9 (aF h))) λj hj=>wk.sc j y d hj}
theorem Wk.call(ws:Ws A B s fr env)(wk:Wk K B s fr env Γ ch C')(sl:Sl ch' (env::fr) C'.heap h')(t:C'.toks<=t')(hc:∀b∈ch',b∈ch)(hb:∀b∈ch',B.objs.size<=b)(hn:∀(L:Nat) m,L∈ch'->¬C'.heap.Ns L m):
  Wk K B s fr env Γ ch {C' with heap:=h',toks:=t'}:=by
 have DX:=ws.ge
 have Fg:=ws.bsz
 obtain⟨mL,nL⟩:=wk.ns
 have hLc:(env.locals:Nat)∉ch':=λq=>hn _ _ q nL
 have Mc:=(wk.stkE ws).sl sl hn
 have Vr:∀m,C'.heap.Ns env.locals m->h'.Ns env.locals m:=λm n=>sl.ns n hLc
 have fx:=wk.fx.rebase (h':=h') (t':=t') wk.sc ws.cells Vr t
 have DH:∀(b:Nat) o,s.heap.get? b=some o->¬@Eq Nat b env.locals:=λb o q=>by have:=iF q;exact vB this DX
 have nf:∀(b:Nat) o,s.heap.get? b=some o->b∉d4 fr->b∉d4 (env::fr):=λb o q h z=>((eD ws.frame b).mp z).elim (DH b o q) h
 refine⟨fx,wk.sc,⟨λb o h1 h2 q=>sl.kept b o (λz=>h1 (hc b z)) (nf b o q h2) (wk.sl.kept b o h1 h2 q),λb o h1 q=>?_,?_,λb o q=>?_⟩,⟨wk.bt.kr,λb o q=>sl.kept b o (λz=>?_) (λz=>?_) (wk.bt.up b o q),ab wk.bt.sz sl.sz⟩,?_,ab wk.tk t,λev Ez=>Mc ev (az _ Ez)⟩
 ·obtain⟨s1,q1⟩:=wk.sl.slots b o h1 q
  obtain⟨s2,q2⟩:=sl.slots b _ ((eD ws.frame b).mpr (.inr h1)) q1
  exact⟨s2,q2⟩
 ·exact ab wk.sl.sz sl.sz
 ·obtain⟨o1,q1⟩:=wk.sl.there b o q
  exact sl.there b o1 q1
 ·have h1:=iF q;have h2:=hb b z;exact qj h1 h2
 ·have h1:=iF q
  rcases (eD ws.frame b).mp z with z|z
  ·exact dh 0xcb10ba10a914c91e b B.objs.size s.heap.objs.size env.locals rfl h1 Fg DX z
  ·rw [ws.offB b z] at q;cases q
 ·rw [wk.same]
end
noncomputable def scB(binds:List (Str×Value)):Ctx:=binds.map λp=>(p.1,.is p.2)
theorem ScalΓ.binds(binds:List (Str×Value)):ScalΓ (scB binds):=λi y d h=>by
 unfold scB at h
 rw [ah] at h
 refine ci (aq.mp h) λp hp e=>?_
 cases e;rfl
theorem yM{x:Sem α}{Q:α->Shared->Prop}(h:∀E',wpAny M A x Q E' s):wpAny M A x Q E s:=h E
theorem vd{a:Nat}{t:Stmt}(binds:List (Str×Value))(ch:List Nat){n:Nat}
  (r:Room A (n+1)) (bt:Bt K B s.heap) (f:FnAt s.heap a t qual EM EK) (t0:0<s.toks) (D0:A.frames=some fr) (stk:StkOk fr s.heap) (offB:∀L∈d4 fr,B.get? L=none)
  (D7:∀pm cd doc,BindsTo s (pX t qual EM EK pm cd doc) args binds)
  (Ec:(∀x∈binds,(aZ t).names.lookup x.1=some .local)/\∀p∈binds,bindL (λx=>(aZ t).names.lookup x) binds (λ_=>none) p.1=some p.2) (H6:cellsFrom 0 (aZ t).names []=[])
  (h:∀env C',Ws (A.deeper env) B s fr env->Wk K B s fr env (scB binds) ch C'->Room (A.deeper env) n->(∃pm cd doc,env=ky t qual EM EK a s.heap.objs.size pm cd doc)->Up s.heap C'.heap ->
   wpAny (model prog w) (A.deeper env) (execs (gR t) env) (λf s'=>R (.ok (.ret (match f with|.ret v=>v|_=>.none))) s')
    (λe s'=>wpAny (model prog w) (A.deeper env) (leaving env e) (λ_ Ef=>R (.error e) Ef) (λe' Ef=>R (.error e') Ef) s') C')
  (F5:(aZ t).isCoroutine=false:=by rfl) (EV:(aZ t).isGenerator=false:=by rfl) (hk:(aZ t).kind=.function:=by rfl):
  codeAny (model prog w) A (.call (.ref a) args) R s:=by
 refine Bw (PB:=λb hb=>b=binds/\hb=s.heap) r bt f t0 (λpm cd doc E' Q' hq=>D7 pm cd doc _ _ _ _ (hq _ s.heap s.toks ⟨rfl,rfl⟩ (Gr.refl _) (ag _))) (by rintro _ _ ⟨rfl,rfl⟩;exact Ec) H6 ?_ F5 EV hk
 rintro pm cd doc b hb C' env ⟨rfl,rfl⟩ FC he DO gr tk Ei ro kr Ho fx
 have hl:@Eq Nat env.locals s.heap.objs.size:=by rw [he];rfl
 have Et:env.locals=s.heap.objs.size:=hl
 rw [<-Et] at fx
 have EY:env.frame=some env.locals:=by rw [he];rfl
 have frlt:∀L∈d4 fr,L<s.heap.objs.size:=λL hL=>by
  refine ci (cO.mp hL) λev Ez GY=>?_
  obtain⟨_,L',m,b',n⟩:=stk ev Ez
  rw [GY] at b';cases b'
  exact wh n
 refine h env C' ⟨by rw [he];exact hk,DO,wt hl,EY,r.hand,fA D0,offB,bt.sz,frlt⟩ ⟨fx,ScalΓ.binds b,Sl.of_gr gr,Ho,Ei,tk,stk.up gr.up⟩ ro ⟨pm,cd,doc,he⟩ gr.up
theorem oZ{a:Nat}{t:Stmt}(binds:List (Str×Value))(ch:List Nat){n:Nat}
 (r:Room A (n+1)) (bt:Bt K B s.heap) (f:FnAt s.heap a t qual EM EK) (t0:0<s.toks) (D0:A.frames=some fr) (stk:StkOk fr s.heap) (offB:∀L∈d4 fr,B.get? L=none)
 (D7:∀pm cd doc,bindArgs (pX t qual EM EK pm cd doc) args=pure binds)
 (Ec:(∀x∈binds,(aZ t).names.lookup x.1=some .local)/\∀p∈binds,bindL (λx=>(aZ t).names.lookup x) binds (λ_=>none) p.1=some p.2) (H6:cellsFrom 0 (aZ t).names []=[])
 (h:∀env C',Ws (A.deeper env) B s fr env->Wk K B s fr env (scB binds) ch C'->Room (A.deeper env) n->(∃pm cd doc,env=ky t qual EM EK a s.heap.objs.size pm cd doc)->Up s.heap C'.heap ->
  wpAny (model prog w) (A.deeper env) (execs (gR t) env) (λf s'=>R (.ok (.ret (match f with|.ret v=>v|_=>.none))) s')
   (λe s'=>wpAny (model prog w) (A.deeper env) (leaving env e) (λ_ Ef=>R (.error e) Ef) (λe' Ef=>R (.error e') Ef) s') C')
 (F5:(aZ t).isCoroutine=false:=by rfl) (EV:(aZ t).isGenerator=false:=by rfl) (hk:(aZ t).kind=.function:=by rfl):
 codeAny (model prog w) A (.call (.ref a) args) R s:=vd binds ch r bt f t0 D0 stk offB (λpm cd doc=>BindsTo.of_eq (D7 pm cd doc)) Ec H6 h F5 EV hk
section
variable{Q:Flow->Shared->Prop}
noncomputable abbrev KpL(env:Env)(h h':Heap):Prop:=∀(b:Nat) o,¬@Eq Nat b env.locals->h.get? b=some o->h'.get? b=some o
theorem Ws.own(ws:Ws A B s fr env):∀b,OwnB env b->@Eq Nat b env.locals:=by
 rintro b (q|⟨nm,hm⟩)
 ·exact q
 ·rw [ws.cells] at hm;cases hm
theorem Wk.is(_wk:Wk K B s fr env Γ ch C'){v:Value}(ws:Ws A B s fr env)(j:Nat)(hj:Γ[j]?=some (x,.is v))(hd:(x==("__debug__":Str))=false:=by rfl):Ev w A env (ni env Γ C'.heap) (.Name x p) (tV (·=v)):=
 Ev.eq (an (cu j hj ws.hk) hd)
theorem Wk.attr{n:Str}{pos:Pos}{x:Nat}{vs:Array (Option Value)}{v:Value}(ws:Ws A B s fr env)(wk:Wk K B s fr env Γ ch C')(j:Nat)(hj:Γ[j]?=some (sn,.is (.ref x)))(sa:SlotF fr C'.heap x C vs)(hx:x<env.locals)
  (hC:C∈clsTab) (hp:(C,n,pp,i)∈slotTab) (hv:(vs[i]?).join=some v) (hh:handedIn v=true) (hd:(sn==("__debug__":Str))=false:=by rfl):Ev w A env (ni env Γ C'.heap) (.Attribute (.Name sn p) n pos) (tV (·=v)):=by
 have kr:=wk.kr ws
 have Tc:SlotAt (bsO C'.heap env) x C vs:=sa.at.below (mP hx) ‹_›
 exact xR (cu j hj ws.hk) hd (λh z9=>⟨kr.up (FxH.bs z9),Tc.up (FxH.bs z9)⟩) hC hp hv hh
theorem nJ{pos:Pos}(ws:Ws A B s fr env)(wk:Wk K B s fr env Γ ch C')(he:Ev w A env (ni env Γ C'.heap) e (tN d))(hd:Scal d=true)(hf:Fresh Γ x=true)(hl:env.kindOf x=some .local)
  (hs:swapsWith e (some (.Name x px)) pos.line env=pure false)
  (hQ:∀Ds,Wk K B s fr env ((x,d)::Γ) ch Ds->KpL env C'.heap Ds.heap->wpAny (model prog w) A (execs rest env) Q E Ds):wpAny (model prog w) A (execs (.Assign [.Name x px] e pos::rest) env) Q E C':=by
 refine nV wk.fx he hf ws.hk hl hs λDs ES k2=>?_
 have k:KpL env C'.heap Ds.heap:=λb o hb q=>k2 b o (λz=>hb (ws.own b z)) q
 exact hQ Ds (wk.next ws (wk.sc.cons hd) ES k) k
theorem Wk.store{v:Value}{Q:Unit->Shared->Prop}(ws:Ws A B s fr env)(wk:Wk K B s fr env Γ ch C')(DJ:At 0 C'.heap v d)(hd:Scal d=true)(hf:Fresh Γ x=true)(hl:env.kindOf x=some .local)
  (hQ:∀Ds,Wk K B s fr env ((x,d)::Γ) ch Ds->KpL env C'.heap Ds.heap->C'.heap.objs.size<=Ds.heap.objs.size->Q () Ds):wpAny (model prog w) A (storeName env x v) Q E C':=by
 obtain⟨e,m,cm,f,g⟩:=wk.fx.fx
 refine Fm.storeL f ws.hk hl λh' f' keep u hsz=>?_
 have Ek:KpL env C'.heap h':=λb o hb e=>keep b o hb e
 refine hQ _ (wk.next ws (wk.sc.cons hd) ⟨nY wk.fx.same,wk.fx.t0,b8 wk.fx.tk,wk.fx.sz,wk.fx.top,(λa DB h=>(nomatch h)),rq m x v,cm,f',?_⟩ Ek) Ek (by show C'.heap.objs.size<=h'.objs.size;exact wt hsz)
 exact(g.upF u).set hf (.inl ⟨hl,by simp [rq]⟩) (.inl (Scal.move hd DJ)) λy hy=>⟨by simp [rq,hy],rfl⟩
theorem wA{pos:Pos}{b:Bool}(ws:Ws A B s fr env)(wk:Wk K B s fr env Γ ch C')(ht:EvT w A env (ni env Γ C'.heap) test b)
  (h:∀Ds,Wk K B s fr env Γ ch Ds->Gr C'.heap Ds.heap->wpAny (model prog w) A (execs (if b then body else orelse) env) (λf s'=>match f with|.next=>wpAny (model prog w) A (execs rest env) Q E s'|f=>Q f s') E Ds):
  wpAny (model prog w) A (execs (.If test body orelse pos::rest) env) Q E C' :=
 qt wk.fx ht λh' t' u l _=>h _ (wk.gr ws u l) u
theorem ot{pos:Pos}(ws:Ws A B s fr env)(wk:Wk K B s fr env Γ ch C')(ht:EvT w A env (ni env Γ C'.heap) test false)
  (h:∀Ds,Wk K B s fr env Γ ch Ds->Gr C'.heap Ds.heap->wpAny (model prog w) A (execs rest env) Q E Ds):
  wpAny (model prog w) A (execs (.If test body [] pos::rest) env) Q E C' :=
 Aa wk.fx ht λh' t' u l _=>h _ (wk.gr ws u l) u
theorem pQ{pos:Pos}(ws:Ws A B s fr env)(wk:Wk K B s fr env Γ ch C')(ht:EvT w A env (ni env Γ C'.heap) test true)
 (h:∀Ds,Wk K B s fr env Γ ch Ds->Gr C'.heap Ds.heap->wpAny (model prog w) A (execs body env) (λf s'=>match f with|.next=>wpAny (model prog w) A (execs rest env) Q E s'|f=>Q f s') E Ds):
 wpAny (model prog w) A (execs (.If test body orelse pos::rest) env) Q E C':=wA (b:=true) ws wk ht h
theorem uu{pos:Pos}{T:TT}(ws:Ws A B s fr env)(wk:Wk K B s fr env Γ ch C')(he:Ev w A env (ni env Γ C'.heap) e T)
  (hQ:∀v h' t',Gr C'.heap h'->C'.toks<=t'->T C'.heap.objs.size h' v->Wk K B s fr env Γ ch {C' with heap:=h',toks:=t'}->Q (.ret v) {C' with heap:=h',toks:=t'}):wpAny (model prog w) A (execs (.Return (some e) pos::rest) env) Q E C' :=
 au (cL (he.run wk.fx.fx wk.t λv h1 t1 u1 l1 DJ=>hQ v h1 t1 u1 l1 DJ (wk.gr ws u1 l1)))
theorem AO{n:Str}{pos:Pos}{x:Nat}{vs:Array (Option Value)}{P:Value->Prop}(j:Nat)(ws:Ws A B s fr env)(wk:Wk K B s fr env Γ ch C')(he:Ev w A env (ni env Γ C'.heap) e (tV P))(hj:Γ[j]?=some (sn,.is (.ref x)))
  (sa:SlotF fr C'.heap x C vs) (hx:x<env.locals) (Ih:x∈ch) (E9:B.objs.size<=x) (hC:C∈clsTab) (hp:(C,n,pp,i)∈slotTab) (hi:i<1000)
  (F3:swapsWith e (some (.Attribute (.Name sn p) n pos)) F'.line env=pure false)
  (hQ:∀v Ds,P v->Wk K B s fr env Γ ch Ds->SlotF fr Ds.heap x C ((vs ++ fX (i+1-vs.size) none).setIfInBounds i (some v))->(∀(b:Nat) o,¬b=x->C'.heap.get? b=some o->Ds.heap.get? b=some o)->wpAny (model prog w) A (execs rest env) Q E Ds)
  (hd:(sn==("__debug__":Str))=false:=by rfl):
  wpAny (model prog w) A (execs (.Assign [.Attribute (.Name sn p) n pos] e F'::rest) env) Q E C':=by
 refine au (plainObj_wpAny_Assign_Attribute (he.run wk.fx.fx wk.t λv Dy t1 u1 l1 hv=>?_) F3)
 have EG:=wk.gr ws u1 l1
 refine an (cu j hj ws.hk) hd _ _ _ EG.fx.fx EG.t λvx h2 t2 u2 l2 F0=>?_
 replace F0:=At_is F0
 subst F0
 have DL:=EG.gr ws u2 l2
 have Jp:SlotF fr h2 x C vs:=(sa.up u1.up).up u2.up
 have sk:=wk.bt.kr.sk
 have X:K.In h2:=(DL.bt.kr.up DL.bt.up).X
 refine rH (dx:=x-1) (s:={C' with heap:=h2,toks:=t2}) sk X (by have:=Jp.1;exact vI this) Jp.2.2.1 Jp.2.2.2 hC hp hi λh' e1 e2 k' z'=>?_
 have hxL:¬@Eq Nat x env.locals:=mh hx
 have KK:∀m,h2.Ns env.locals m->h'.Ns env.locals m:=λm hm=>hm.at' λo q=>k' _ o (λz=>hxL z.symm) q
 have OI:∀(L:Nat) m,L∈[x]->¬h2.Ns L m:=λL m hL n=>by
  rw [ak.mp hL] at n
  refine oi (n) λo es ep q d _=>?_
  rw [Jp.2.2.1] at q;cases q;cases d
 have Fo:Sl [x] (env::fr) h2 h':=by
  refine⟨λb o h1 _ q=>k' b o (λz=>h1 (by have z':b=x:=z;rw [z'];exact ak.mpr rfl)) q,λb o h1 q=>⟨o.slots,k' b o (λz=>?_) q⟩,wt z',λb o q=>?_⟩
  ·have z':b=x:=z
   rw [z'] at h1
   exact dC (DL.stkE ws) Jp.2.2.1 (λ_ _ q=>by cases q) h1
  ·by_cases hb:b=x
   ·rw [hb];exact⟨_,e1⟩
   ·exact⟨o,k' b o hb q⟩
 refine hQ v _ hv (DL.call ws Fo (aD _) (λb hb=>by rw [ak.mp hb];exact Ih) (λb hb=>by rw [ak.mp hb];exact E9) OI) ⟨Jp.1,Jp.2.1,e1,e2⟩ λb o hb q=>k' b o hb (u2.up b o (u1.up b o q))
end
structure GD where
 G:Nat
 I:Nat
 IG:Nat
 T0:Nat
 l:Nat
 n:Nat
 k:Tok
 P:Nat->Nat
 Kx:Nat->Nat
 kv:Nat->Array Value
 ki:Nat->List Int
 c:Nat->Int
 ct:Nat->Tok
 items:Array Value
structure GD.Ok(D:GD)(B:Heap):Prop where
 sz:D.items.size=D.n
 it:∀i,i<D.n->D.items[i]?=some (.ref (D.P i))
 k0:D.k≠0
 ct0:∀i,i<D.n->D.ct i≠0
 ksz:∀i,i<D.n->(D.kv i).size=(D.ki i).length
 kat:∀i,i<D.n->∀h,AtAll 0 h (D.kv i).toList ((D.ki i).map .int)
 klen:∀i j,i<D.n->j<D.n->(D.ki i).length=(D.ki j).length
 kpos:∀i,i<D.n->0<(D.ki i).length
 tok:∀i j,i<D.n->j<D.n->∀(q:Nat) v w a b,(D.kv i)[q]?=some v->(D.kv j)[q]?=some w->(D.ki i)[q]?=some a->(D.ki j)[q]?=some b->TokOk v w a b
 kx:∀i j,i<D.n->j<D.n->D.Kx i=D.Kx j->D.ki i=D.ki j
 bG:B.objs.size<=D.G
 bI:B.objs.size<=D.I
 nb:NoneBooked B
noncomputable def itAt(D:GD)(it:Option Nat)(h:Heap):Prop:=match it with
 |some i=>h.IsListIter D.I D.l i
 |none=>IsDead h D.I
structure Gbw(D:GD)(fr:List Env)(vs:Array (Option Value))(it:Option Nat)(h:Heap):Prop where
 g:SlotF fr h D.G 124 vs
 ig:SlotF fr h D.IG 267 #[some (.ref D.T0)]
 t0:h.IsTuple D.T0 #[.int 0 D.k]
 itr:itAt D it h
 lst:h.IsList D.l D.items
 tup:∀i,i<D.n->h.IsTuple (D.P i) #[.ref (D.Kx i),.int (D.c i) (D.ct i)]
 key:∀i,i<D.n->h.IsTuple (D.Kx i) (D.kv i)
structure GLow(D:GD)(L:Nat):Prop where
 g:D.G<L
 ig:D.IG<L
 t0:D.T0<L
 i:D.I<L
 l:D.l<L
 p:∀i,i<D.n->D.P i<L
 k:∀i,i<D.n->D.Kx i<L
theorem GLow.mono{L':Nat}(g:GLow D L)(h:L<=L'):GLow D L' :=
 ⟨ad g.g h,ad g.ig h,ad g.t0 h,ad g.i h,ad g.l h,λi hi=>ad (g.p i hi) h,λi hi=>ad (g.k i hi) h⟩
theorem IsListIter.objD{l:Nat}(x:h.IsListIter I l i):∃o fs,h.get? I=some o/\o.data=.fields fs:=kF x λo e _ d=>⟨o,_,e,d⟩
theorem itAt.obj(x:itAt D it h):∃o fs,h.get? D.I=some o/\o.data=.fields fs:=by
 cases it with
 |some i=>exact IsListIter.objD x
 |none=>obtain⟨o,fs,e,_,d,_⟩:=x;exact⟨o,fs,e,d⟩
theorem itAt.at(x:itAt D it h)(k:∀o,h.get? D.I=some o->h'.get? D.I=some o):itAt D it h':=by
 cases it with
 |some i=>obtain⟨o,e,c,d⟩:=x;exact⟨o,k _ e,c,d⟩
 |none=>exact IsDead.at x k
theorem nN{a:Nat}(x:h.IsTuple a xs):a<h.objs.size:=ci x λ_ e _=>iF e
theorem iG{a:Nat}(x:h.IsList a xs):a<h.objs.size:=ci x λ_ e _=>iF e
theorem gq{a:Nat}(x:h.IsTuple a xs)(k:∀o,h.get? a=some o->h'.get? a=some o):h'.IsTuple a xs:=ci x λo e r=>⟨o,k o e,r⟩
theorem cU{a:Nat}(x:h.IsList a xs)(k:∀o,h.get? a=some o->h'.get? a=some o):h'.IsList a xs:=ci x λo e r=>⟨o,k o e,r⟩
theorem ko{a:Nat}(x:h.IsTuple a xs):∃o n,h.get? a=some o/\o.data=.seq xs n:=let ⟨o,e,_,n,d⟩:=x;⟨o,n,e,d⟩
theorem iR{a:Nat}(x:h.IsList a xs):∃o n,h.get? a=some o/\o.data=.seq xs n:=let ⟨o,e,_,n,d⟩:=x;⟨o,n,e,d⟩
section
variable{vs EB:Array (Option Value)}{it':Option Nat}
theorem Gbw.low(g:Gbw D fr vs it h):GLow D h.objs.size :=
 ⟨g.g.lt,g.ig.lt,nN g.t0,lF g.itr.obj λ_ _ e _=>iF e,iG g.lst,λi hi=>nN (g.tup i hi),λi hi=>nN (g.key i hi)⟩
theorem Gbw.keep(g:Gbw D fr vs it h)(lw:GLow D L)(k:∀(b:Nat) o,b<L->h.get? b=some o->h'.get? b=some o):Gbw D fr vs it h' :=
 ⟨g.g.keep lw.g k,g.ig.keep lw.ig k,gq g.t0 λo=>k _ o lw.t0,g.itr.at λo=>k _ o lw.i,cU g.lst λo=>k _ o lw.l,λi hi=>gq (g.tup i hi) λo=>k _ o (lw.p i hi),λi hi=>gq (g.key i hi) λo=>k _ o (lw.k i hi)⟩
theorem Gbw.up(g:Gbw D fr vs it h)(u:Up h h'):Gbw D fr vs it h':=g.keep g.low λb o _ q=>u b o q
theorem Gbw.kpl(g:Gbw D fr vs it h)(lw:GLow D env.locals)(k:KpL env h h'):Gbw D fr vs it h':=g.keep lw λb o hb q=>k b o (mh hb) q
theorem Gbw.cons(g:Gbw D fr vs it h)(hf:env.frame=some env.locals)(lw:GLow D env.locals):Gbw D (env::fr) vs it h :=
 {g with g:=g.g.cons hf (aJ lw.g),ig:=g.ig.cons hf (aJ lw.ig)}
theorem Gbw.uncons(g:Gbw D (env::fr) vs it h)(hf:env.frame=some env.locals):Gbw D fr vs it h :=
 {g with g:=g.g.uncons hf,ig:=g.ig.uncons hf}
theorem Gbw.set(g:Gbw D fr vs it h)(sg:SlotF fr h' D.G 124 EB)(k:∀(b:Nat) o,¬b=D.G->h.get? b=some o->h'.get? b=some o):Gbw D fr EB it h':=by
 have hG:=g.g.2.2.1
 have sq:∀{a:Nat} {xs:Array Value},(∃o n,h.get? a=some o/\o.data=.seq xs n)->¬a=D.G:=by
  rintro a xs ⟨o,n,e,d⟩ rfl
  rw [hG] at e;cases e;cases d
 refine⟨sg,⟨g.ig.1,g.ig.2.1,k _ _ (λq=>?_) g.ig.2.2.1,k _ _ (λq=>?_) g.ig.2.2.2⟩,gq g.t0 λo=>k _ o (sq (ko g.t0)),g.itr.at λo=>k _ o λq=>?_,cU g.lst λo=>k _ o (sq (iR g.lst)),λi hi=>gq (g.tup i hi) λo=>k _ o (sq (ko (g.tup i hi))),λi hi=>gq (g.key i hi) λo=>k _ o (sq (ko (g.key i hi)))⟩
 ·have e:=g.ig.2.2.1
  rw [q,hG] at e
  have e':=congrArg (λo:Option Obj=>o.map (·.cls)) e
  cases e'
 ·have e:=g.ig.2.2.2
  rw [q,hG] at e;cases e
 ·refine lF (g.itr.obj) λo' fs e d=>?_
  rw [q,hG] at e;cases e;cases d
theorem Gbw.slI(g:Gbw D fr vs it h)(sl:Sl [D.I] fr h h')(stk:StkOk fr h)(Qd:itAt D it' h'):Gbw D fr vs it' h':=by
 refine lF (g.itr.obj) λoI fs eI dI=>?_
 have sq:∀{a:Nat} {xs:Array Value},(∃o n,h.get? a=some o/\o.data=.seq xs n)->∀o,h.get? a=some o->h'.get? a=some o:=by
  rintro a xs ⟨o,n,e,d⟩ o' e'
  rw [e] at e';cases e'
  refine sl.kept a o (λq=>?_) (dC stk e λ_ _ q=>by rw [d] at q;cases q) e
  rw [ak.mp q,eI] at e;cases e;rw [dI] at d;cases d
 have sf:∀{x C:Nat} {ws:Array (Option Value)},SlotF fr h x C ws->SlotF fr h' x C ws:=λs=>s.sl sl stk (λq=>by
   have e:=s.2.2.1
   rw [ak.mp q,eI] at e;cases e;cases dI) (λq=>by
   have e:=s.2.2.2
   rw [ak.mp q,eI] at e;cases e;cases dI)
 exact⟨sf g.g,sf g.ig,gq g.t0 (sq (ko g.t0)),Qd,cU g.lst (sq (iR g.lst)),λi hi=>gq (g.tup i hi) (sq (ko (g.tup i hi))),λi hi=>gq (g.key i hi) (sq (ko (g.key i hi)))⟩
theorem Gbw.nns(g:Gbw D fr vs it h):∀(L:Nat) m,L∈[D.G,D.I]->¬h.Ns L m:=λL m hL n=>by
 refine oi (n) λo es ep q d _=>?_
 rcases aQ.mp hL with rfl|hL
 ·rw [g.g.2.2.1] at q;cases q;cases d
 ·rw [ak.mp hL] at q
  refine lF (g.itr.obj) λoI fs eI dI=>?_
  rw [eI] at q;cases q;rw [dI] at d;cases d
end
theorem zx{e T:Nat}(hf:env.frame=some env.locals)
  (sl:Sl ch' fr h hc) (Gg:Sl ch (env::fr) hc hx) (en:hc.get? e=none) (t5:hc.get? T=none) (stk:StkOk fr hc) (Ec:h.get? env.locals=none) (DX:@iC Nat _ h.objs.size env.locals)
  (left:Heap.Left (nX hx (e::T::d4 (env::fr))) (env::fr) e (.type "StopIteration") hx h'):Fly (ch' ++ ch) fr h h' e:=by
 let base:=nX hx (e::T::d4 (env::fr))
 refine a4 (left) λk1 k2 k3 k4=>?_
 have HY:∀b:Nat,b∈d4 (env::fr)↔@Eq Nat b env.locals\/b∈d4 fr:=λb=>eD hf b
 have nl:∀(b:Nat) o,h.get? b=some o->¬@Eq Nat b env.locals:=λb o q z=>by have z':b=env.locals:=z;rw [z',Ec] at q;cases q
 have Jm:∀(b:Nat) o o0,hc.get? b=some o0->¬@Eq Nat b env.locals->b∉d4 fr->hx.get? b=some o->base.get? b=some o:=λb o o0 q0 h1 h2 q=>by
  have FK:b∉(e:Nat)::(T:Nat)::d4 (env::fr):=λz=>by
   rcases aQ.mp z with z|z
   ·rw [z,en] at q0;cases q0
   ·rcases aQ.mp z with z|z
    ·rw [z,t5] at q0;cases q0
    ·exact((HY b).mp z).elim h1 h2
  rw [show base.get? b=hx.get? b from ip _ _ _ FK];exact q
 have slots:∀(b:Nat) o,b∈d4 fr->h.get? b=some o->∃sl,h'.get? b=some {o with slots:=sl}:=λb o hb q=>by
  obtain⟨SZ,qa⟩:=sl.slots b o hb q
  have nf:=n7 stk hb qa
  obtain⟨slb,qb⟩:=Gg.slots b _ ((HY b).mpr (.inr hb)) qa
  obtain⟨SY,qc⟩:=k4 b _ qb nf
  exact⟨SY,qc⟩
 refine e5a9 (k3) λTr SG T' oT' Q3 r1 r2 r3 r4 r5 r6 r7 r8 r9=>?_
 have there:∀(b:Nat) o,h.get? b=some o->∃o',h'.get? b=some o':=λb o q=>by
  by_cases hb:b∈d4 fr
  ·obtain⟨sl,q'⟩:=slots b o hb q;exact⟨_,q'⟩
  ·obtain⟨o',q'⟩:=sl.there b o q
   obtain⟨o2,q2⟩:=Gg.there b o' q'
   exact⟨o2,k1 b o2 (Jm b o2 o' q' (nl b o q) hb q2)⟩
 refine⟨⟨λb o h1 h2 q=>?_,slots,?_,there⟩,?_,Tr,SG,T',oT',Q3,r1,r2,r3,r4,?_,r6,r7,r8,r9⟩
 ·have qc:=sl.kept b o (λz=>h1 (cM _ z)) h2 q
  exact k1 b o (Jm b o o qc (nl b o q) h2 (Gg.kept b o (λz=>h1 (cQ _ z)) (λz=>((HY b).mp z).elim (nl b o q) h2) qc))
 ·obtain⟨_,⟨L,o,hL,_,ho,_⟩,_⟩:=k2
  rw [hf] at hL;cases hL
  have:@cA Nat _ env.locals h'.objs.size:=iF ho
  exact oq this DX
 ·cases q:h.get? e with
  |none=>rfl
  |some o=>obtain⟨o',q'⟩:=sl.there e o q;rw [en] at q';cases q'
 ·cases q:h.get? T' with
  |none=>rfl
  |some o =>
   obtain⟨o',q'⟩:=sl.there T' o q
   by_cases hb:(T':Nat)∈d4 fr
   ·obtain⟨S2,q3⟩:=slots T' o hb q
    rw [r7] at q3;cases q3
    obtain⟨SZ,qa⟩:=sl.slots T' o hb q
    exact absurd r8 (n7 stk hb qa Q3)
   ·obtain⟨o2,q2⟩:=Gg.there T' o' q'
    rw [Jm T' o2 o' q' (nl T' o q) hb q2] at r5;cases r5
theorem mi{base:Heap}{l:List Env}{e L:Addr}{cls a0 fl:Value}{Q:Unit->Shared->Prop}
  (Jw:base.StaysIn s.heap) (hl:s.heap.FunFrames base l) (ht:s.heap.TracedAtW base e cls a0 fl)
  (h:∀h',base.StaysIn h'->h'.FunFrames base l->h'.TracedAtW base e cls a0 (rawInt L)->(∀b o,s.heap.get? b=some o->(∀vs,o.data≠.fields vs)->h'.get? b=some o)->Q () {s with heap:=h'}):
  wpAny M A (setFlight (.ref e) (some L)) Q E s:=by
 refine e5a9 (ht) λoe vs T oT ts he QL hd h1 hnT hTe hT ND h3=>?_
 have Mp:3<ts.size:=(bF.mp h3).1
 have off:∀b,b≠T->(s.heap.update T (Obj.mapFields (·.setIfInBounds 3 (rawInt L)))).get? b=s.heap.get? b:=λb hb=>bJ _ _ (iZ hb)
 have Rh:∀b o,s.heap.get? b=some o->(∀vs,o.data≠.fields vs)->b≠T:=λb o hb F4 q=>by
  rw [q,hT] at hb;injection hb with hb;subst hb;exact F4 ts ND
 refine aa (bS he hd h1 ?_)
 refine gF hT ND Mp (h _ (λb o OU=>(off b λq=>by rw [q,hnT] at OU;cases OU).trans (Jw b o OU))
  (hl.of_keeps λb o hb F4=>⟨o,(off b (Rh b o hb F4)).trans hb,rfl⟩) ?_ λb o hb F4=>(off b (Rh b o hb F4)).trans hb)
 exact⟨oe,vs,T,_,_,(off e (iZ hTe)).trans he,QL,hd,h1,hnT,hTe,bv _ hT (d9 (dm ND _)),dm ND _,by simp [Mp]⟩
theorem Sl.one{x:Nat}{o o':Obj}(q:h.get? x=some o)(hd:∀es ep,o.data≠.dict es ep)(q':h'.get? x=some o')(stk:StkOk fr h)(k:∀(b:Nat) o,¬b=x->h.get? b=some o->h'.get? b=some o)(sz:h.objs.size<=h'.objs.size):Sl [x] fr h h':=by
 refine⟨λb o h1 _ e=>k b o (λz=>h1 (by rw [z];exact ak.mpr rfl)) e,λb o h1 e=>⟨o.slots,k b o (λz=>?_) e⟩,sz,λb o e=>?_⟩
 ·rw [z] at h1
  exact dC stk q hd h1
 ·by_cases hb:b=x
  ·rw [hb];exact⟨_,q'⟩
  ·exact⟨o,k b o hb e⟩
section
variable{it kf:Value}
noncomputable abbrev put(vs:Array (Option Value))(i:Nat)(v:Value):Array (Option Value):=(vs ++ fX (i+1-vs.size) none).setIfInBounds i (some v)
theorem gb0(v:Value):put (gb cg ck cv El Eo D2 it kf Ew tk) 0 v=gb v ck cv El Eo D2 it kf Ew tk:=by simp [put,gb]
theorem gb1(v:Value):put (gb cg ck cv El Eo D2 it kf Ew tk) 1 v=gb cg v cv El Eo D2 it kf Ew tk:=by simp [put,gb]
theorem gb2(v:Value):put (gb cg ck cv El Eo D2 it kf Ew tk) 2 v=gb cg ck v El Eo D2 it kf Ew tk:=by simp [put,gb]
theorem gb3(v:Value):put (gb cg ck cv El Eo D2 it kf Ew tk) 3 v=gb cg ck cv v Eo D2 it kf Ew tk:=by simp [put,gb]
theorem gb4(v:Value):put (gb cg ck cv El Eo D2 it kf Ew tk) 4 v=gb cg ck cv El v D2 it kf Ew tk:=by simp [put,gb]
theorem gb5(v:Value):put (gb cg ck cv El Eo D2 it kf Ew tk) 5 v=gb cg ck cv El Eo v it kf Ew tk:=by simp [put,gb]
theorem gb8(v:Value):put (gb cg ck cv El Eo D2 it kf Ew tk) 8 v=gb cg ck cv El Eo D2 it kf v tk:=by simp [put,gb]
theorem gb9(v:Value):put (gb cg ck cv El Eo D2 it kf Ew tk) 9 v=gb cg ck cv El Eo D2 it kf Ew v:=by simp [put,gb]
end
section
variable{Q:Flow->Shared->Prop}
theorem Wk.pair{y:Str}{k0 T:Nat}{vx vy:Value}{e:Dt}{Q:Unit->Shared->Prop}(ws:Ws A B s fr env)(wk:Wk K B s fr env Γ ch C')(DQ:C'.heap.IsTuple T #[vx,vy])(hx:At 0 C'.heap vx d)(hy:At 0 C'.heap vy e)(KQ:Scal d=true)(R3:Scal e=true)
  (hf:Fresh Γ x=true) (Hz:Fresh Γ y=true) (Hx:env.kindOf x=some .local) (Io:env.kindOf y=some .local) (Fe:x≠y)
  (hQ:∀Ds,Wk K B s fr env ((y,e)::(x,d)::Γ) ch Ds->KpL env C'.heap Ds.heap->Q () Ds):
  wpAny (model prog w) A (assign (.Tuple [.Name x px,.Name y py] k0 tp) env (.ref T)) Q E C':=by
 refine Fx.pair ws.hand wk.fx DQ (.inl (Scal.move KQ hx)) (.inl (Scal.move R3 hy)) hf Hz ws.hk Hx Io Fe λh' t' D6 l' k'=>?_
 have k:KpL env C'.heap h':=λb o hb q=>k' b o (λz=>hb (ws.own b z)) q
 exact hQ _ (wk.next ws ((wk.sc.cons KQ).cons R3) D6 k) k
theorem ek{n:Str}{pos:Pos}{x:Nat}{vs:Array (Option Value)}{P:Value->Prop}(EB:Value->Array (Option Value))(j:Nat)(ws:Ws A B s fr env)(wk:Wk K B s fr env Γ ch C')(Ow:∀v,put vs i v=EB v)(he:Ev w A env (ni env Γ C'.heap) e (tV P))(hj:Γ[j]?=some (sn,.is (.ref x)))
  (sa:SlotF fr C'.heap x C vs) (hx:x<env.locals) (Ih:x∈ch) (E9:B.objs.size<=x) (hC:C∈clsTab) (hp:(C,n,pp,i)∈slotTab) (hi:i<1000)
  (F3:swapsWith e (some (.Attribute (.Name sn p) n pos)) F'.line env=pure false)
  (hQ:∀v Ds,P v->Wk K B s fr env Γ ch Ds->SlotF fr Ds.heap x C (EB v)->(∀(b:Nat) o,¬b=x->C'.heap.get? b=some o->Ds.heap.get? b=some o)->wpAny (model prog w) A (execs rest env) Q E Ds)
  (hd:(sn==("__debug__":Str))=false:=by rfl):
  wpAny (model prog w) A (execs (.Assign [.Attribute (.Name sn p) n pos] e F'::rest) env) Q E C' :=
 AO j ws wk he hj sa hx Ih E9 hC hp hi F3 (λv Ds h1 h2 h3 h4=>hQ v Ds h1 h2 (Ow v▸h3) h4) hd
theorem Wk.gl{v:Value}(ws:Ws A B s fr env)(wk:Wk K B s fr env Γ ch C')(hx:(x,v)∈globs\/(x,v)∈blts)(hi:env.kindOf x=some .globalImplicit)(hg:env.globals=3)(hb:env.builtins=0)(hd:(x==("__debug__":Str))=false):
 Gl env (ni env Γ C'.heap) x v:=glF (wk.kr ws).kn hx ws.hk hi hg hb hd
theorem Wk.fn{a:Nat}{t:Stmt}{d k:Value}(wk:Wk K B s fr env Γ ch C')(m:(a,t,q,d,k)∈fns):∃o fd,C'.heap.get? a=some o/\o.data=.func fd:=by
 refine zC ((wk.bt.kr.up wk.bt.up).kn.fn a t q d k m) λo pm cd doc e d _=>?_
 exact⟨o,_,e,d⟩
end
theorem rC(r:Room A 5)(bt:Bt K B s.heap)(t0:0<s.toks)(D0:A.frames=some fr)(stk:StkOk fr s.heap)(offB:∀L∈d4 fr,B.get? L=none)
  (ok:D.Ok B) (g:Gbw D fr (gb cg ck cv El Eo D2 (.ref D.I) (.ref D.IG) Ew tk) (some i) s.heap) (hi:i<D.n)
  (hQ:∀h' t',Gbw D fr (gb cg (.ref (D.Kx i)) (.ref (D.P i)) (.bool true) (.bool true) D2 (.ref D.I) (.ref D.IG) Ew tk) (some (i+1)) h'->Sl [D.G,D.I] fr s.heap h'->s.toks<=t'->R (.ok (.ret .none)) {s with heap:=h',toks:=t'}):
  codeAny (model prog w) A (.call (.ref 113) ⟨[.ref D.G],[]⟩) R s:=by
 refine oZ [(("self":Str),aM D.G)] [D.G,D.I] r bt ((bt.kr.up bt.up).kn.fn 113 (me 9 3) "groupby._step" .none .none (co (by kernel_rfl))) t0 D0 stk offB (λ_ _ _=>rfl)
  ⟨(fQ rfl lS),(fQ rfl lS)⟩ rfl ?_
 rintro env C' ws wk ro ⟨pm,cd,doc,he⟩ up1
 refine yM λE'=>?_
 have hk:=ws.hk
 have lw:GLow D env.locals:=g.low.mono ws.ge
 have g1:=g.up up1
 have JH:Gl env (ni env (scB [(("self":Str),aM D.G)]) C'.heap) "_pull" (.ref 76):=by subst he;exact wk.gl ws (.inl (co (by kernel_rfl))) rfl rfl rfl rfl
 refine au (sJ rfl rfl (aK (cC JH wk.fx.fx ?_)))
 rw [show starEach _ _=[(false,eval _ _)] from rfl]
 refine lF (wk.fn (a:=76) (t:=st 7) (q:="_pull") (d:=.none) (k:=.none) (co (by kernel_rfl))) λN' QS J3 Kb=>?_
 refine b7 (o:=N') (aE (ar (Ev.run (wk.attr ws 0 rfl g1.g lw.g (by decide +kernel) (C:=124) (pp:=131) (i:=6) (v:=.ref D.I) (by decide +kernel) rfl rfl) wk.fx.fx wk.t λva h1 t1 u2 l1 Dv=>aA ⟨⟨u2.up _ _ J3,Kb⟩,?_⟩)))
 have FI:va=.ref D.I:=Dv
 subst FI
 have EG:=wk.gr ws u2 l1
 have g2:=g1.up u2.up
 refine w6 (s:={C' with heap:=h1,toks:=t1}) (ro.le (by decide)) EG.bt EG.t g2.itr g2.lst (ok.it i hi) λT h2 t2 hT IK k2 gT g3 l2=>?_
 dsimp only at k2 gT l2 ⊢
 refine lF (g2.itr.obj) λoI fsI eI dI=>?_
 refine lF (IsListIter.objD IK) λoI2 fsI2 eI2 dI2=>?_
 have Eu:Sl [D.I] (env::fr) h1 h2:=Sl.one eI (λ_ _ q=>by rw [dI] at q;cases q) eI2 (EG.stkE ws) (λb o hb q=>k2 b o hb q) (oq g3 gT)
 have nI:∀(L:Nat) m,L∈[D.I]->¬h1.Ns L m:=λL m hL=>g2.nns L m (az _ hL)
 have DL:=EG.call ws Eu l2 (λb hb=>az _ hb) (λb hb=>by rw [ak.mp hb];exact ok.bI) nI
 have Pn:Gbw D fr _ (some (i+1)) h2:=((g2.cons ws.frame lw).slI (it':=some (i+1)) Eu (EG.stkE ws) IK).uncons ws.frame
 have lm:∀x,x=("more":Str)\/x=("newvalue":Str)\/x=("newkey":Str)->env.kindOf x=some .local:=by subst he;rintro x (rfl|rfl|rfl)<;>rfl
 refine DL.pair ws hT (d:=.bool true) (e:=.is (.ref (D.P i))) (At_bool.mpr rfl) At_rfl rfl rfl rfl rfl (lm _ (.inl rfl)) (lm _ (.inr (.inl rfl))) (by decide) λs3 DS k3=>?_
 have g4:=Pn.kpl lw k3
 refine ot ws DS ((lN (qJ (cu 1 rfl hk))).cast rfl) λs4 DR u4=>?_
 have g5:=g4.up u4.up
 refine wA (b:=false) ws DR (fJ yo (DR.attr ws 2 rfl g5.g lw.g (by decide +kernel) (C:=124) (pp:=132) (i:=7) (v:=.ref D.IG) (by decide +kernel) rfl rfl) mI) λs5 DT u5=>?_
 have g6:=g5.up u5.up
 refine au (bu (CN rfl rfl (Ev.run (an (cu 2 rfl hk)) DT.fx.fx DT.t λva h6 t6 u6 l6 p6 pl=>?_)) rfl)
 replace p6:=At_is p6
 subst p6
 have D5:=DT.gr ws u6 l6
 have EF:=g6.up u6.up
 have IT:=D5.bt.kr.up D5.bt.up
 refine xm (s:={s5 with heap:=h6,toks:=t6}) IT.sk IT.X EF.g.at (by decide +kernel) (C:=124) (p:=132) (i:=7) (v:=.ref D.IG) (by decide +kernel) rfl rfl ?_
 dsimp only
 have D8:=D5.gr ws (Gr.refl _) (aD _)
 refine kF (EF.ig.at) λdx _ hb hc=>?_
 have IG:InstAt h6 D.IG (slO 267 dx #[some (.ref D.T0)]) 267 (some emptyDict):=⟨hb,rfl,rfl,hc⟩
 obtain⟨m1,m2⟩:=IT.sk.me 267 "__call__" 249 (by decide +kernel)
 refine kco_callWith (e:=.Name "newvalue" _) (s:={s5 with heap:=h6,toks:=t6+1}) IT.X IG rfl m1 ?_ rfl rfl
 refine ar (Ev.run (an (cu 0 rfl hk)) D8.fx.fx D8.t λva h7 t7 u7 l7 p7=>aA ?_)
 replace p7:=At_is p7
 subst p7
 dsimp only at u7 l7
 have EP:=D8.gr ws u7 l7
 have FW:=EF.up u7.up
 refine⟨⟨IT.X.keeps u7.up,⟨u7.up _ _ hb,rfl,rfl,u7.up _ _ hc⟩⟩,?_⟩
 refine ur (s:={s5 with heap:=h7,toks:=t7}) (ro.le (by decide)) EP.bt EP.t FW.ig.at FW.t0 ok.k0 (FW.tup i hi) λh8 t8 u8 G9=>?_
 have FH:=EP.gr ws u8 G9
 have Kj:=FW.up u8.up
 refine FH.store ws (d:=.is (.ref (D.Kx i))) At_rfl rfl rfl (lm _ (.inr (.inr rfl))) λs10 FY kA _=>?_
 have gA:=Kj.kpl lw kA
 refine aH ?_
 dsimp only
 refine ek _ (P:=(·=.ref (D.P i))) 3 ws FY gb2 (FY.is ws 1 rfl) rfl gA.g lw.g (.head _) ok.bG (by decide +kernel) (C:=124) (pp:=127) (i:=2) (by decide +kernel) (by decide) rfl λv s11 hv Fv sB kB=>?_
 subst hv
 have gB:=gA.set sB kB
 refine ek _ (P:=pB true) 3 ws Fv gb4 gy rfl gB.g lw.g (.head _) ok.bG (by decide +kernel) (C:=124) (pp:=129) (i:=4) (by decide +kernel) (by decide) rfl λv s12 hv GS sC kC=>?_
 unfold pB at hv
 subst hv
 have gC:=gB.set sC kC
 refine ek _ (P:=(·=.ref (D.Kx i))) 3 ws GS gb1 (GS.is ws 0 rfl) rfl gC.g lw.g (.head _) ok.bG (by decide +kernel) (C:=124) (pp:=126) (i:=1) (by decide +kernel) (by decide) rfl λv s13 hv Jj sD kD=>?_
 subst hv
 have gD:=gC.set sD kD
 refine ek _ (P:=pB true) 3 ws Jj gb3 gy rfl gD.g lw.g (.head _) ok.bG (by decide +kernel) (C:=124) (pp:=128) (i:=3) (by decide +kernel) (by decide) rfl λv s14 hv Ji sE kE=>?_
 unfold pB at hv
 subst hv
 have gE:=gD.set sE kE
 refine aH ?_
 dsimp only
 rw [Ji.same]
 exact hQ _ _ gE Ji.sl Ji.tk
noncomputable abbrev vW(h:Heap)(L:Nat):Heap:=m9 h L L
theorem mX(h:Heap)(L b:Nat)(hb:b<L):(vW h L).get? b=h.get? b:=jj h L L b hb (mh hb)
theorem tM(h:Heap)(L:Nat):Up (vW h L) h:=vt h L L
theorem rU(h:Heap)(L:Nat)(hL:L<=h.objs.size):(vW h L).objs.size=L:=by
 show (jh (pA h L) L).objs.size=L
 rw [kG];simp [pA];exact y_495 hL
theorem Sl.low(fr:List Env)(h:Heap)(L:Nat)(hL:L<=h.objs.size):Sl [] fr (vW h L) h :=
 ⟨λb o _ _ q=>tM h L b o q,λb o _ q=>⟨o.slots,tM h L b o q⟩,by have:=mf h L L;show (m9 h L L).objs.size<=_;exact rm this hL,λb o q=>⟨o,tM h L b o q⟩⟩
theorem Sl.overLow{hm:Heap}(a:Sl ch fr h hm)(hL:h.objs.size<=L)(b:Sl ch' fr (vW hm L) h')(hc:∀x∈ch',x∈ch)(sz:h.objs.size<=h'.objs.size):Sl ch fr h h':=by
 have lt:∀(b:Nat) o,h.get? b=some o->b<L:=λb o q=>ad (aX q) hL
 have tr:∀(b:Nat) o o',h.get? b=some o->hm.get? b=some o'->(vW hm L).get? b=some o':=λb o o' q q'=>by rw [mX hm L b (lt b o q)];exact q'
 refine⟨λn o h1 h2 q=>b.kept n o (λz=>h1 (hc n z)) h2 (tr n o o q (a.kept n o h1 h2 q)),λn o h1 q=>?_,sz,λn o q=>?_⟩
 ·obtain⟨s1,q1⟩:=a.slots n o h1 q
  obtain⟨s2,q2⟩:=b.slots n _ h1 (tr n o _ q q1)
  exact⟨s2,q2⟩
 ·obtain⟨o1,q1⟩:=a.there n o q
  exact b.there n o1 (tr n o o1 q q1)
theorem Fly.overLow{hm:Heap}{e:Nat}(a:Sl ch fr h hm)(hL:h.objs.size<=L)(b:Fly ch' fr (vW hm L) h' e)(hc:∀x∈ch',x∈ch)(sz:h.objs.size<=h'.objs.size):Fly ch fr h h' e:=by
 have lt:∀(b:Nat) o,h.get? b=some o->b<L:=λb o q=>ad (aX q) hL
 have nn:∀x:Nat,(vW hm L).get? x=none->h.get? x=none:=λx q=>by
  cases q':h.get? x with
  |none=>rfl
  |some o =>
   obtain⟨o1,q1⟩:=a.there x o q'
   rw [mX hm L x (lt x o q'),q1] at q;cases q
 refine⟨a.overLow hL b.sl hc sz,nn e b.en,?_⟩
 refine e5a6 (b.tr) λa1 a2 a3 a4 a5 a6 a7 a8 a9 VR VQ=>?_
 exact⟨a1,a2,a3,a4,a5,a6,a7,a8,a9,nn a3 VR,VQ⟩
theorem StkOk.low(s:StkOk fr h)(hL:∀x∈d4 fr,x<L):StkOk fr (vW h L):=λev Ez=>by
 obtain⟨a,x,m,b,n⟩:=s ev Ez
 have hx:x∈d4 fr:=cO.mpr ⟨ev,Ez,b⟩
 exact⟨a,x,m,b,n.at' λo q=>by rw [mX h L x (hL x hx)];exact q⟩
theorem Gbw.low'{vs:Array (Option Value)}(g:Gbw D fr vs it h)(lw:GLow D L):Gbw D fr vs it (vW h L):=g.keep lw λb o hb q=>by rw [mX h L b hb];exact q
theorem Gbw.sl0{vs:Array (Option Value)}(g:Gbw D fr vs it h)(sl:Sl [] fr h h')(stk:StkOk fr h):Gbw D fr vs it h':=by
 refine g.slI (it':=it) (sl.mono λ_ h=>nomatch h) stk (g.itr.at λo q=>?_)
 refine lF (g.itr.obj) λoI fs eI dI=>?_
 have q':=q
 rw [eI] at q';cases q'
 exact sl.kept D.I _ (λh=>nomatch h) (dC stk q λ_ _ z=>by rw [dI] at z;cases z) q
section
variable{Q:Flow->Shared->Prop}
theorem uv{np pos:Pos}{E2:Value->Shared->Value->Shared->Prop}(ws:Ws A B s fr env)(wk:Wk K B s fr env Γ ch C')(gl:Gl env (ni env Γ C'.heap) "StopIteration" (.type "StopIteration"))
  (hQ:∀h' e,Fly ch fr s.heap h' e->Sl [] fr (vW C'.heap env.locals) h'->R (.error (.ref e)) {C' with heap:=h'}):
  wpAny (model prog w) A (execs (.Raise (some (.Name "StopIteration" np)) none pos::rest) env) Q (λe s'=>wpAny (model prog w) A (leaving env e) (λ_ Ef=>R (.error e) Ef) (E2 e s') s') C':=by
 have DX:=ws.ge
 have los:@iC Nat _ (env.locals+1) C'.heap.objs.size:=wk.los
 refine au (owsi_raiseC ws.hand (cC gl wk.fx.fx ⟨rfl,rfl⟩) λh2 e mk=>?_)
 refine kF (mk.there) λt he OA ht=>?_
 obtain⟨m,hn⟩:=wk.ns
 have IY:∀x∈d4 fr,x<env.locals:=λx hx=>ad (ws.frlt x hx) DX
 refine tP (s:={C' with heap:=h2}) (ch:=[]) (h:=vW C'.heap env.locals) (hm:=C'.heap) ws.frames (by rw [ws.hk];decide) ws.frame (Sl.low fr _ _ (aJ ‹_›)) wk.stk hn (nG _ _ _) mk.keeps mk.new he rfl rfl rfl (mf _ _ _) λh' fly=>?_
 have sz:s.heap.objs.size<=h'.objs.size:=by
  have h1:=fly.sl.sz
  rw [rU _ _ (aJ ‹_›)] at h1
  exact rm DX h1
 exact hQ h' e (Fly.overLow wk.sl ‹_› fly (λ_ h=>nomatch h) sz) fly.sl
end
theorem ux(r:Room A 5)(bt:Bt K B s.heap)(t0:0<s.toks)(D0:A.frames=some fr)(stk:StkOk fr s.heap)(offB:∀L∈d4 fr,B.get? L=none)
  (ok:D.Ok B) (g:Gbw D fr (gb cg ck cv El Eo D2 (.ref D.I) (.ref D.IG) Ew tk) it s.heap) (hi:it=some D.n\/it=none)
  (hQ:∀h' t' e,Gbw D fr (gb cg ck cv El Eo D2 (.ref D.I) (.ref D.IG) Ew tk) none h'->Fly [D.I] fr s.heap h' e->s.toks<=t'->R (.error (.ref e)) {s with heap:=h',toks:=t'}):
  codeAny (model prog w) A (.call (.ref 113) ⟨[.ref D.G],[]⟩) R s:=by
 refine oZ [(("self":Str),aM D.G)] [D.I] r bt ((bt.kr.up bt.up).kn.fn 113 (me 9 3) "groupby._step" .none .none (co (by kernel_rfl))) t0 D0 stk offB (λ_ _ _=>rfl)
  ⟨(fQ rfl lS),(fQ rfl lS)⟩ rfl ?_
 rintro env C' ws wk ro ⟨pm,cd,doc,he⟩ up1
 have hk:=ws.hk
 have lw:GLow D env.locals:=g.low.mono ws.ge
 have g1:=g.up up1
 have JH:Gl env (ni env (scB [(("self":Str),aM D.G)]) C'.heap) "_pull" (.ref 76):=by subst he;exact wk.gl ws (.inl (co (by kernel_rfl))) rfl rfl rfl rfl
 refine au (sJ rfl rfl (aK (cC JH wk.fx.fx ?_)))
 refine lF (wk.fn (a:=76) (t:=st 7) (q:="_pull") (d:=.none) (k:=.none) (co (by kernel_rfl))) λN' QS J3 Kb=>?_
 refine b7 (o:=N') (aE (ar (Ev.run (wk.attr ws 0 rfl g1.g lw.g (by decide +kernel) (C:=124) (pp:=131) (i:=6) (v:=.ref D.I) (by decide +kernel) rfl rfl) wk.fx.fx wk.t λva h1 t1 u2 l1 Dv=>aA ⟨⟨u2.up _ _ J3,Kb⟩,?_⟩)))
 have FI:va=.ref D.I:=Dv
 subst FI
 have EG:=wk.gr ws u2 l1
 have g2:=g1.up u2.up
 have DX:=ws.ge
 have Gw:=ws.bsz
 have off:OffB B D.I (env::fr):=⟨df ok.bI,λL hL=>by
  rcases (eD ws.frame L).mp hL with z|z
  ·exact df (qk Gw DX z)
  ·exact offB L z⟩
 refine zd (l:=D.l) (i:=D.n) (items:=D.items) (s:={C' with heap:=h1,toks:=t1}) (ro.le (by decide)) EG.bt EG.t ?_ ws.frames (EG.stkE ws) off λT h2 t2 hT dead Eu gT g3 l2=>?_
 ·rcases hi with rfl|rfl
  ·exact .inl ⟨g2.itr,g2.lst,du (by rw [ok.sz];exact ag _)⟩
  ·exact .inr g2.itr
 have nI:∀(L:Nat) m,L∈[D.I]->¬h1.Ns L m:=λL m hL=>g2.nns L m (az _ hL)
 have DL:=EG.call ws Eu l2 (λb hb=>hb) (λb hb=>by rw [ak.mp hb];exact ok.bI) nI
 have Pn:Gbw D fr _ none h2:=((g2.cons ws.frame lw).slI (it':=none) Eu (EG.stkE ws) dead).uncons ws.frame
 have lm:∀x,x=("more":Str)\/x=("newvalue":Str)->env.kindOf x=some .local:=by subst he;rintro x (rfl|rfl)<;>rfl
 refine DL.pair ws hT (d:=.bool false) (e:=.is .none) (At_bool.mpr rfl) At_rfl rfl rfl rfl rfl (lm _ (.inl rfl)) (lm _ (.inr rfl)) (by decide) λs3 DS k3=>?_
 have g4:=Pn.kpl lw k3
 refine pQ ws DS ((lN (qJ (cu 1 rfl hk))).cast rfl) λs4 DR u4=>?_
 have g5:=g4.up u4.up
 have FD:∀Γ h,Wk K B s fr env Γ [D.I] h->Gl env (ni env Γ h.heap) "StopIteration" (.type "StopIteration"):=λΓ h wk=>by subst he;exact wk.gl ws (.inr (co (by kernel_rfl))) rfl rfl rfl rfl
 refine uv ws DR (FD _ _ DR) λh' e fly Fo=>?_
 have IY:∀x∈d4 fr,x<env.locals:=λx hx=>ad (ws.frlt x hx) DX
 have g6:=(g5.low' lw).sl0 Fo (DR.stk.low IY)
 have:=hQ h' s4.toks e g6 fly DR.tk
 rw [DR.same]
 exact this
section
variable{Q:Flow->Shared->Prop}
theorem Wk.set{n:Str}{x:Nat}{vs:Array (Option Value)}{v:Value}{Q:Unit->Shared->Prop}(ws:Ws A B s fr env)(wk:Wk K B s fr env Γ ch C')
  (sa:SlotF fr C'.heap x C vs) (Ih:x∈ch) (E9:B.objs.size<=x) (hC:C∈clsTab) (hp:(C,n,pp,i)∈slotTab) (hi:i<1000)
  (hQ:∀Ds,Wk K B s fr env Γ ch Ds->SlotF fr Ds.heap x C (put vs i v)->(∀(b:Nat) o,¬b=x->C'.heap.get? b=some o->Ds.heap.get? b=some o)->Q () Ds):
  wpAny (model prog w) A (setAttr (.ref x) n v) Q E C':=by
 have sk:=wk.bt.kr.sk
 have X:K.In C'.heap:=(wk.bt.kr.up wk.bt.up).X
 refine rH (dx:=x-1) sk X (by have:=sa.1;exact vI this) sa.2.2.1 sa.2.2.2 hC hp hi λh' e1 e2 k' z'=>?_
 have nd:∀es ep,(slO C (x-1) vs).data≠.dict es ep:=λ_ _ q=>by cases q
 have OI:∀(L:Nat) m,L∈[x]->¬C'.heap.Ns L m:=λL m hL n=>by
  rw [ak.mp hL] at n
  refine oi (n) λo es ep q d _=>?_
  rw [sa.2.2.1] at q;cases q;cases d
 have Fo:Sl [x] (env::fr) C'.heap h':=Sl.one sa.2.2.1 nd e1 (wk.stkE ws) (λb o hb q=>k' b o hb q) (wt z')
 exact hQ _ (wk.call ws Fo (aD _) (λb hb=>by rw [ak.mp hb];exact Ih) (λb hb=>by rw [ak.mp hb];exact E9) OI) ⟨sa.1,sa.2.1,e1,e2⟩ λb o hb q=>k' b o hb q
theorem Ct{n:Str}{pos:Pos}{x:Nat}{vs:Array (Option Value)}{a:Int}{t:Tok}(EB:Value->Array (Option Value))(j:Nat)(ws:Ws A B s fr env)(wk:Wk K B s fr env Γ ch C')(Ow:∀v,put vs i v=EB v)
  (he:∀C',Wk K B s fr env Γ ch C'->Ev w A env (ni env Γ C'.heap) e (tV (pI c))) (hj:Γ[j]?=some (sn,.is (.ref x)))
  (sa:SlotF fr C'.heap x C vs) (hx:x<env.locals) (Ih:x∈ch) (E9:B.objs.size<=x) (hC:C∈clsTab) (hp:(C,n,pp,i)∈slotTab) (hi:i<1000) (hv:(vs[i]?).join=some (.int a t))
  (hQ:∀k Ds,k≠0->Wk K B s fr env Γ ch Ds->SlotF fr Ds.heap x C (EB (.int (a+c) k))->(∀(b:Nat) o,¬b=x->C'.heap.get? b=some o->Ds.heap.get? b=some o)->wpAny (model prog w) A (execs rest env) Q E Ds)
  (hd:(sn==("__debug__":Str))=false:=by rfl):
  wpAny (model prog w) A (execs (.AugAssign (.Attribute (.Name sn p) n Fy) .Add e pos::rest) env) Q E C':=by
 refine au (wpAny_AugAssign_AttributeAny (an (cu j hj ws.hk) hd _ _ _ wk.fx.fx wk.t λvx h1 t1 u1 l1 F0=>?_))
 replace F0:=At_is F0
 subst F0
 have EG:=wk.gr ws u1 l1
 have Rg:=sa.up u1.up
 have kr:=EG.bt.kr.up EG.bt.up
 refine oB (s:={C' with heap:=h1,toks:=t1}) kr.sk kr.X Rg.at hC hp hv rfl ?_
 have DL:=EG.gr ws (Gr.refl _) (aD _)
 refine he _ DL _ _ _ DL.fx.fx DL.t λve h3 t3 u3 l3 p3=>?_
 refine ci (p3) λtc _ Dz=>?_;subst Dz
 dsimp only at u3 l3
 have DS:=DL.gr ws u3 l3
 have Ta:=Rg.up u3.up
 refine j7 ?_
 have DR:=DS.gr ws (Gr.refl _) (aD _)
 refine DR.set ws (vs:=vs) Ta Ih E9 hC hp hi λDs DT S' k5=>?_
 exact hQ _ Ds (aB DS.t) DT (Ow _▸S') λb o hb q=>k5 b o hb (u3.up b o (u1.up b o q))
theorem SlotF.but{x y D:Nat}{vs EB:Array (Option Value)}(s:SlotF fr h x C vs)(g:SlotF fr h y D EB)(Fe:x≠y)(k:∀(b:Nat) o,¬b=y->h.get? b=some o->h'.get? b=some o):SlotF fr h' x C vs :=
 ⟨s.1,s.2.1,k _ _ Fe s.2.2.1,k _ _ (λq=>by
  have e:=s.2.2.2
  rw [q,g.2.2.1] at e;cases e) s.2.2.2⟩
theorem SlotF.ne{x y D:Nat}{vs EB:Array (Option Value)}(s:SlotF fr h x C vs)(g:SlotF fr h y D EB)(hCD:C≠D):x≠y:=λq=>by
 have e:=s.2.2.1
 rw [q,g.2.2.1] at e
 have e':=congrArg (λo:Option Obj=>o.map (·.cls)) e
 simp [slO] at e'
 exact hCD e'.symm
theorem Bp{pos:Pos}{x:Nat}{vs:Array (Option Value)}(l:Gl env G "type" (.type "type"))(he:Ev w A env G e (tV (·=.ref x)))(hG:∀h,G.p h->SlotAt h x C vs)(Eb:starEach [e] env=[(false,eval e env)]:=by rfl):
  Ev w A env G (.Call (.Name "type" p) [e] [] pos) (tV (·=.ref C)):=by
 intro s Q E g t hQ
 refine aK (cC l g ?_)
 rw [Eb]
 refine cE rfl (aE (ar (he s _ _ g t λnv h1 t1 u1 l1 Dv=>aA ?_)))
 have FI:nv=.ref x:=Dv
 subst FI
 obtain⟨ox,I⟩:=(hG _ (G.up u1.up g)).inst
 exact kto_own (s:={s with heap:=h1,toks:=t1}) I (hQ _ h1 t1 u1 l1 rfl)
theorem sH{a:Nat}:CmR w A .IsNot (·=.ref a) (·=.ref a) false:=by
 intro s va vb Q E t ha hb hQ
 subst ha hb
 exact wpAny_isNot_ref_self hQ
end
theorem mV{fI:Nat}{rest:List Value}{kw:List (Str×Value)}(sk:SK K)(X:K.In s.heap)(hC:C∈clsTab)(hm:(C,("__init__":Str),fI)∈metTab)(stk:StkOk fr s.heap)
  (h:∀x h',Gr s.heap h'->s.heap.objs.size<x->h'.objs.size=x+1->SlotF fr h' x C #[]->codeAny (model prog w) (A.under (.builtin "type.__call__" ⟨.ref C::rest,kw⟩)) (.call (.ref fI) ⟨.ref x::rest,kw⟩) (InitBack x R) {s with heap:=h'}):
  codeAny (model prog w) A (.call (.ref C) ⟨rest,kw⟩) R s:=by
 obtain⟨m1,m2⟩:=sk.me C _ fI hm
 refine a5 (sk.cl C hC) λ_ _ _ _ c5=>?_
 have frlt:∀L∈d4 fr,L<s.heap.objs.size:=λL hL=>by
  refine ci (cO.mp hL) λev Ez GY=>?_
  obtain⟨_,L',m,b',n⟩:=stk ev Ez
  rw [GY] at b';cases b'
  exact wh n
 obtain⟨hh,g,d,t,os⟩:=s
 refine make_core (makes_of X c5) (looks_findIn X m1) (λself=>bind_fn X self m2) (.inl rfl) (h (hh.objs.size+1) ((hh.push emptyDict).push (instObj C hh.objs.size)) ⟨λb o e=>af _ (af _ e),by rw [ao,ao];exact b8 (aD _)⟩ (bo _) (by rw [ao,ao]) ?_)
 have e1:=am (hh.push emptyDict) (o:=instObj C hh.objs.size) rfl
 rw [ao] at e1
 refine⟨Nat.succ_le_succ (bY _),λz=>?_,e1,?_⟩
 ·have:=frlt _ z
  exact y_720 this
 ·exact af _ (am _ rfl)
theorem rY{x b:Nat}{sT:Tok}(r:Room A 5)(bt:Bt K B s.heap)(t0:0<s.toks)(D0:A.frames=some fr)(stk:StkOk fr s.heap)(offB:∀L∈d4 fr,B.get? L=none)
  (ok:D.Ok B) (g:Gbw D fr (gb cg ck cv El Eo D2 (.ref D.I) (.ref D.IG) (.int sN sT) tk) it s.heap) (gx:SlotF fr s.heap x 169 #[]) (hx:B.objs.size<=x)
  (hQ:∀h' t' k,k≠0->Gbw D fr (gb (.int (sN+1) k) ck cv El Eo D2 (.ref D.I) (.ref D.IG) (.int (sN+1) k) tk) it h'->SlotF fr h' x 169 #[some (.int (sN+1) k),some (.ref D.G),some (.ref (D.Kx b))]->Sl [x,D.G] fr s.heap h'->s.toks<=t'->R (.ok (.ret .none)) {s with heap:=h',toks:=t'}):
  codeAny (model prog w) A (.call (.ref 151) ⟨[.ref x,.ref D.G,.ref (D.Kx b)],[]⟩) R s:=by
 refine oZ [(("self":Str),aM x),(("parent":Str),aM D.G),(("tgtkey":Str),aM (D.Kx b))] [x,D.G] r bt ((bt.kr.up bt.up).kn.fn 151 (me 10 1) "_grouper.__init__" .none .none (co (by kernel_rfl))) t0 D0 stk offB (λ_ _ _=>rfl)
  ⟨(fQ rfl (fQ rfl (fQ rfl lS))),(fQ rfl (fQ rfl (fQ rfl lS)))⟩ rfl ?_
 rintro env C' ws wk ro ⟨pm,cd,doc,he⟩ up1
 refine yM λE'=>?_
 have hk:=ws.hk
 have lw:GLow D env.locals:=g.low.mono ws.ge
 have g1:=g.up up1
 have G0:=gx.up up1
 have D9:x<env.locals:=ad gx.lt ws.ge
 have JG:Gl env (ni env (scB [(("self":Str),aM x),(("parent":Str),aM D.G),(("tgtkey":Str),aM (D.Kx b))]) C'.heap) "type" (.type "type"):=by subst he;exact wk.gl ws (.inr (co (by kernel_rfl))) rfl rfl rfl rfl
 have Pl:Gl env (ni env (scB [(("self":Str),aM x),(("parent":Str),aM D.G),(("tgtkey":Str),aM (D.Kx b))]) C'.heap) "groupby" (.ref 124):=by subst he;exact wk.gl ws (.inl (co (by kernel_rfl))) rfl rfl rfl rfl
 have Vq:SlotAt (bsO C'.heap env) D.G 124 _:=g1.g.at.below (gL lw.g) lw.g
 refine wA (b:=false) ws wk (fJ sH (Bp JG (wk.is ws 1 rfl) (λh z9=>Vq.up (FxH.bs z9))) ?_) λDs DL u2=>?_
 ·intro s' Q' E' g' t' hq
  exact cC Pl g' (hq _ _ _ (Gr.refl _) (ag _) rfl)
 refine aH ?_
 have g2:=g1.up u2.up
 have Fw:=G0.up u2.up
 have Jt:x≠D.G:=Fw.ne g2.g (by decide)
 refine ek (λv=>#[none,some v]) (P:=(·=.ref D.G)) 0 ws DL (λ_=>rfl) (DL.is ws 1 rfl) rfl Fw D9 (.head _) hx (by decide +kernel) (C:=169) (pp:=171) (i:=1) (by decide +kernel) (by decide) rfl λv s3 hv DS Gk k3=>?_
 subst hv
 have HW:∀{vs EB L8 it} {h h':Heap},Gbw D fr vs it h->SlotF fr h x 169 EB->(∀(b:Nat) o,¬b=x->h.get? b=some o->h'.get? b=some o)->SlotF fr h' x 169 L8->Gbw D fr vs it h':=by
  intro vs EB L8 it h h' g gx k _
  have ne:∀{a:Nat} {o:Obj},h.get? a=some o->o.cls≠.ref 169->¬a=x:=fun{a o} e hc q=>by
   rw [q,gx.2.2.1] at e;cases e;exact hc rfl
  have tp:∀{a:Nat} {xs:Array Value},h.IsTuple a xs->h'.IsTuple a xs:=fun{a xs} z=>by
   refine kF (z) λo e hc r=>?_
   exact⟨o,k a o (ne e (by rw [hc];decide)) e,hc,r⟩
  refine⟨⟨g.g.1,g.g.2.1,k _ _ (ne g.g.2.2.1 (by simp [slO])) g.g.2.2.1,k _ _ (ne g.g.2.2.2 (by decide)) g.g.2.2.2⟩,⟨g.ig.1,g.ig.2.1,k _ _ (ne g.ig.2.2.1 (by simp [slO])) g.ig.2.2.1,k _ _ (ne g.ig.2.2.2 (by decide)) g.ig.2.2.2⟩,tp g.t0,g.itr.at λo e=>?_,?_,λi hi=>tp (g.tup i hi),λi hi=>tp (g.key i hi)⟩
  ·refine lF (g.itr.obj) λo' fs e' d'=>?_
   refine k _ o (λq=>?_) e
   rw [q,gx.2.2.1] at e';cases e';cases d'
  ·refine kF (g.lst) λo e hc r=>?_
   exact⟨o,k _ o (ne e (by rw [hc];decide)) e,hc,r⟩
 have g3:=HW g2 Fw k3 Gk
 refine ek (λv=>#[none,some (.ref D.G),some v]) (P:=(·=.ref (D.Kx b))) 0 ws DS (λ_=>rfl) (DS.is ws 2 rfl) rfl Gk D9 (.head _) hx (by decide +kernel) (C:=169) (pp:=172) (i:=2) (by decide +kernel) (by decide) rfl λv s4 hv DR JD k4=>?_
 subst hv
 have g4:=HW g3 Gk k4 JD
 refine Ct (c:=1) (gb cg ck cv El Eo D2 (.ref D.I) (.ref D.IG) · tk) 1 ws DR gb8 (λ_ _=>br) rfl g4.g lw.g (.tail _ (.head _)) ok.bG (by decide +kernel) (C:=124) (pp:=133) (i:=8) (by decide +kernel) (by decide) rfl λk s5 FL DT Lc k5=>?_
 have g5:=g4.set Lc k5
 have Gj:=JD.but g4.g Jt k5
 refine ek (λv=>#[some v,some (.ref D.G),some (.ref (D.Kx b))]) (P:=(·=.int (sN+1) k)) 0 ws DT (λ_=>rfl) (DT.attr ws 1 rfl g5.g lw.g (by decide +kernel) (C:=124) (pp:=133) (i:=8) (by decide +kernel) rfl rfl) rfl Gj D9 (.head _) hx (by decide +kernel) (C:=169) (pp:=170) (i:=0) (by decide +kernel) (by decide) rfl λv DI hv D5 Ib k6=>?_
 subst hv
 have g6:=HW g5 Gj k6 Ib
 refine ek _ (P:=(·=.int (sN+1) k)) 1 ws D5 gb0 (D5.attr ws 1 rfl g6.g lw.g (by decide +kernel) (C:=124) (pp:=133) (i:=8) (by decide +kernel) rfl rfl) rfl g6.g lw.g (.tail _ (.head _)) ok.bG (by decide +kernel) (C:=124) (pp:=125) (i:=0) (by decide +kernel) (by decide) rfl λv G7 hv D8 N2 k7=>?_
 subst hv
 have EF:=g6.set N2 k7
 have JC:=Ib.but g6.g Jt k7
 refine aH ?_
 rw [D8.same]
 exact hQ _ _ k FL EF JC D8.sl D8.tk
noncomputable abbrev AftK(Gz:List Env)(hc hx h':Heap):Prop:=∀(b:Nat) o o0,hc.get? b=some o0->b∉d4 Gz->hx.get? b=some o->h'.get? b=some o
theorem xu{Gz:List Env}{e T:Nat}{l:List Env}{cls:Value}(en:hc.get? e=none)(t5:hc.get? T=none)(left:Heap.Left (nX hx (e::T::d4 Gz)) l e cls hx h'):AftK Gz hc hx h':=by
 obtain⟨k1,_⟩:=left
 intro b o o0 q0 hf q
 refine k1 b o ?_
 have FK:b∉(e:Nat)::(T:Nat)::d4 Gz:=λz=>by
  rcases aQ.mp z with z|z
  ·rw [z,en] at q0;cases q0
  ·rcases aQ.mp z with z|z
   ·rw [z,t5] at q0;cases q0
   ·exact hf z
 rw [ip _ _ _ FK];exact q
theorem Gbw.after{G1 Gz:List Env}{NV vs:Array (Option Value)}{Lm:Option Nat}(g0:Gbw D G1 NV Lm hc)(g:Gbw D Gz vs it hx)(stk:StkOk Gz hx)(k:AftK Gz hc hx h'):Gbw D Gz vs it h':=by
 have tp:∀{a:Nat} {xs:Array Value},hc.IsTuple a xs->hx.IsTuple a xs->h'.IsTuple a xs:=fun{a xs} z0 z=>by
  refine ci (z0) λo0 e0 _=>?_
  obtain⟨o,e,c,n,d⟩:=z
  exact⟨o,k a o o0 e0 (dC stk e λ_ _ q=>by rw [d] at q;cases q) e,c,n,d⟩
 refine⟨⟨g.g.1,g.g.2.1,k _ _ _ g0.g.2.2.1 (dC stk g.g.2.2.1 λ_ _ q=>by cases q) g.g.2.2.1,k _ _ _ g0.g.2.2.2 g.g.2.1 g.g.2.2.2⟩,
  ⟨g.ig.1,g.ig.2.1,k _ _ _ g0.ig.2.2.1 (dC stk g.ig.2.2.1 λ_ _ q=>by cases q) g.ig.2.2.1,k _ _ _ g0.ig.2.2.2 g.ig.2.1 g.ig.2.2.2⟩,tp g0.t0 g.t0,g.itr.at λo e=>?_,?_,λi hi=>tp (g0.tup i hi) (g.tup i hi),λi hi=>tp (g0.key i hi) (g.key i hi)⟩
 ·refine lF (g0.itr.obj) λo0 fs0 e0 _=>?_
  refine lF (g.itr.obj) λo' fs e' d'=>?_
  rw [e] at e';cases e'
  exact k _ o o0 e0 (dC stk e λ_ _ q=>by rw [d'] at q;cases q) e
 ·refine ci (g0.lst) λo0 e0 _=>?_
  obtain⟨o,e,c,n,d⟩:=g.lst
  exact⟨o,k _ o o0 e0 (dC stk e λ_ _ q=>by rw [d] at q;cases q) e,c,n,d⟩
theorem SlotF.after{G1 Gz:List Env}{x C0:Nat}{NV vs:Array (Option Value)}(g0:SlotF G1 hc x C0 NV)(g:SlotF Gz hx x C vs)(stk:StkOk Gz hx)(k:AftK Gz hc hx h'):SlotF Gz h' x C vs :=
 ⟨g.1,g.2.1,k _ _ _ g0.2.2.1 (dC stk g.2.2.1 λ_ _ q=>by cases q) g.2.2.1,k _ _ _ g0.2.2.2 g.2.1 g.2.2.2⟩
theorem Wk.flyPrep(ws:Ws A B s fr env)(wk:Wk K B s fr env Γ ch C'){e T:Nat}(Gg:Sl ch' (env::fr) C'.heap hx)(en:C'.heap.get? e=none)(t5:C'.heap.get? T=none)(hc:∀b∈ch',b∈ch)
  (left:Heap.Left (nX hx (e::T::d4 (env::fr))) (env::fr) e (.type "StopIteration") hx h'):Fly ch fr s.heap h' e/\AftK (env::fr) C'.heap hx h':=by
 have DX:=ws.ge
 have los:@iC Nat _ (env.locals+1) C'.heap.objs.size:=wk.los
 have f:=zx (h:=vW C'.heap env.locals) (ch':=[]) ws.frame (Sl.low fr _ _ (aJ ‹_›)) Gg en t5 wk.stk (nG _ _ _) (mf _ _ _) left
 have sz:s.heap.objs.size<=h'.objs.size:=by
  have h1:=f.sl.sz
  rw [rU _ _ (aJ ‹_›)] at h1
  exact rm DX h1
 exact⟨Fly.overLow wk.sl ‹_› f (by simpa using hc) sz,xu en t5 left⟩
theorem Wk.fly(ws:Ws A B s fr env)(wk:Wk K B s fr env Γ ch C'){tx e:Nat}(fly:Fly ch' (env::fr) C'.heap hx e)(hc:∀b∈ch',b∈ch)(hn:∀(L:Nat) m,L∈ch'->¬C'.heap.Ns L m){E2:Value->Shared->Prop}
  (hQ:∀h',Fly ch fr s.heap h' e->AftK (env::fr) C'.heap hx h'->R (.error (.ref e)) {C' with heap:=h',toks:=tx}):
  wpAny (model prog w) A (leaving env (.ref e)) (λ_ Ef=>R (.error (.ref e)) Ef) E2 {C' with heap:=hx,toks:=tx}:=by
 obtain⟨Gg,en,oe,vs,T,oT,ts,t1,t2,t3,t4,t5,t6,t7,t8,t9⟩:=fly
 have HG:StkOk (env::fr) hx:=(wk.stkE ws).sl Gg hn
 have Hg:∀(b:Nat) o,(nX hx (e::T::d4 (env::fr))).get? b=some o->hx.get? b=some o:=λb o q=>by
  by_cases FK:(b:Nat)∈(e:Nat)::(T:Nat)::d4 (env::fr)
  ·rw [dP _ _ _ FK] at q;cases q
  ·rw [ip _ _ _ FK] at q;exact q
 have ff:hx.FunFrames (nX hx (e::T::d4 (env::fr))) (env::fr):=HG.fun λL hL=>dP _ _ _ (az _ (az _ hL))
 have tr:hx.Traced (nX hx (e::T::d4 (env::fr))) e (.type "StopIteration"):=⟨oe,vs,T,oT,ts,t1,t2,t3,t4,dP _ _ T (by simp),t6,t7,t8,t9⟩
 refine wpAny_leaving_next (s:={C' with heap:=hx,toks:=tx}) ws.frames ff ws.frame tr (λb o q=>Hg b o q) (dP _ _ e (by simp)) λh' left=>?_
 obtain⟨f,k⟩:=wk.flyPrep ws Gg en t5 hc left
 exact hQ h' f k
theorem Wk.flyLoop(ws:Ws A B s fr env)(wk:Wk K B s fr env Γ ch C'){tx e:Nat}(fly:Fly ch' (env::fr) C'.heap hx e)(hc:∀b∈ch',b∈ch)(hn:∀(L:Nat) m,L∈ch'->¬C'.heap.Ns L m){E2:Value->Shared->Value->Shared->Prop}
  (hQ:∀h',Fly ch fr s.heap h' e->AftK (env::fr) C'.heap hx h'->R (.error (.ref e)) {C' with heap:=h',toks:=tx}):
  notedBy (model prog w) A env (λx s'=>cameBackBy (model prog w) A env (λx Ef=>wpAny (model prog w) A (leaving env x) (λ_ s3=>R (.error x) s3) (E2 x Ef) Ef) x s') (.ref e) {C' with heap:=hx,toks:=tx}:=by
 obtain⟨Gg,en,oe,vs,T,oT,ts,t1,t2,t3,t4,t5,t6,t7,t8,t9⟩:=fly
 have HG:StkOk (env::fr) hx:=(wk.stkE ws).sl Gg hn
 have Hg:∀(b:Nat) o,(nX hx (e::T::d4 (env::fr))).get? b=some o->hx.get? b=some o:=λb o q=>by
  by_cases FK:(b:Nat)∈(e:Nat)::(T:Nat)::d4 (env::fr)
  ·rw [dP _ _ _ FK] at q;cases q
  ·rw [ip _ _ _ FK] at q;exact q
 have ff:hx.FunFrames (nX hx (e::T::d4 (env::fr))) (env::fr):=HG.fun λL hL=>dP _ _ _ (az _ (az _ hL))
 have h1w:1<vs.size:=(bF.mp t4).1
 have tr:hx.TracedW (nX hx (e::T::d4 (env::fr))) e (.type "StopIteration") vs[0]:=⟨oe,vs,T,oT,ts,t1,⟨t2,aY (aJ ‹_›)⟩,t3,t4,dP _ _ T (by simp),t6,t7,t8,t9⟩
 delta notedBy
 refine wpAny_noteFrame_onW (s:={C' with heap:=hx,toks:=tx}) ws.frames ff ws.frame tr (λb o q=>Hg b o q) (dP _ _ e (by simp)) λh2 nt=>?_
 refine a4 (nt) λn1 n2 n3 n4=>?_
 delta cameBackBy
 refine e5a5 (id n3) λoe2 ws2 T2 oT2 ts2 q1 q2 q3 q4 q5=>?_
 refine aa (bS q1 q3 q4 ?_)
 rw [ws.frame]
 refine mi n1 n2 n3 λh3 m1 m2 m3 m4=>?_
 delta leaving
 refine aa (wpAny_noteFrame_againW ws.frame m3 ?_)
 refine gX m1 m2 m3 λh4 p1 p2 p3 p4=>?_
 have left:Heap.Left (nX hx (e::T::d4 (env::fr))) (env::fr) e (.type "StopIteration") hx h4:=by
  refine⟨p1,p2,?_,λb o q nf=>?_⟩
  ·refine e5a3 (p3) λa b c d f g1 g2 g3=>?_
   exact⟨a,b,c,d,f,g1,g2.1,g3⟩
  ·obtain⟨Eu,q2⟩:=n4 b o q nf
   exact⟨Eu,p4 b _ (m4 b _ q2 nf) nf⟩
 obtain⟨f,k⟩:=wk.flyPrep ws Gg en t5 hc left
 exact hQ h4 f k
theorem mu{b:Bool}(he:Ev w A env G e (tV (pB b)))(hf:∀m,isTrue e env m=(do let v <-m;standAt e.pos;holding [v] (truthy v)):=by intro _;rfl):EvT w A env G e b:=by
 intro s Q E g t hQ
 rw [hf]
 refine aa (he s _ _ g t λv h1 t1 u1 l1 Dv=>?_)
 have FI:v=.bool b:=Dv
 subst FI
 exact aa (ez (bp (dq (hQ h1 t1 u1 l1))))
theorem Ev.pB{b:Bool}(he:Ev w A env G e (tV (·=.bool b))):Ev w A env G e (tV (pB b)):=he.mono λ_ _ _ h=>h
section
variable{Q:Flow->Shared->Prop}
theorem Gbw.keyAt{vs:Array (Option Value)}(g:Gbw D fr vs it h)(ok:D.Ok B)(hi:i<D.n):At 0 h (.ref (D.Kx i)) (tI (D.ki i)):=
 At.tup.mpr ⟨_,_,rfl,bY _,g.key i hi,ok.kat i hi h⟩
theorem Gbw.keyC{vs:Array (Option Value)}(g:Gbw D fr vs it h)(ok:D.Ok B)(hi:i<D.n)(hj:j<D.n):KeyC h (D.Kx i) (D.Kx j) (D.ki i) (D.ki j):=
 ⟨_,_,g.key i hi,g.key j hj,ok.ksz i hi,ok.ksz j hj,λq v w a b=>ok.tok i j hi hj q v w a b⟩
theorem xN{e1:Expr}{pos:Pos}{vs:Array (Option Value)}(r:Room A 3)(ok:D.Ok B)(ws:Ws A B s fr env)(wk:Wk K B s fr env Γ ch C')(g:Gbw D fr vs it C'.heap)(lw:GLow D env.locals)(hi:i<D.n)(hj:j<D.n)
  (gl:Gl env (ni env Γ C'.heap) "_same" (.ref 83)) (h1:Ev w A env (ni env Γ C'.heap) e1 (tV (·=.ref (D.Kx i)))) (h2:Ev w A env (ni env Γ C'.heap) e2 (tV (·=.ref (D.Kx j)))) (Eb:starEach [e1,e2] env=[(false,eval e1 env),(false,eval e2 env)]:=by rfl):
  Ev w A env (ni env Γ C'.heap) (.Call (.Name "_same" p) [e1,e2] [] pos) (tV (pB (D.ki i==D.ki j))):=by
 intro s' Q E gp t hQ
 have kr:=wk.kr ws
 have MU:Gbw D fr vs it (bsO C'.heap env):=g.keep lw λb o hb q=>by rw [jj _ _ _ b (mP hb) (mh hb)];exact q
 have base:∀h,(ni env Γ C'.heap).p h->Up (bsO C'.heap env) h:=λh z9=>(FxH.bs z9)
 have Gw:=ws.bsz
 have DX:=ws.ge
 have TH:NoneBooked (bsO C'.heap env):=by
  refine ci (ok.nb) λmc n k=>?_
  have hl:@cA Nat _ cStatics B.objs.size:=wh n
  refine⟨mc,n.at' λo q=>?_,k⟩
  have h2:cStatics<env.locals:=bX 0xba10a910922114b22114 B.objs.size s.heap.objs.size env.locals rfl hl Gw DX
  rw [jj _ _ _ _ (gL h2) (bW h2)]
  exact wk.bt.up _ o q
 refine aK (cC gl gp ?_)
 rw [Eb]
 refine zC ((kr.up (base _ gp)).kn.fn 83 (st 8) "_same" .none .none (co (by kernel_rfl))) λTu pm cd doc ho hd _=>?_
 refine b7 (o:=Tu) (aE (ar (h1 s' _ _ gp t λva Dy t1 u1 l1 Dv=>ar (h2 _ _ _ ((ni env Γ C'.heap).up u1.up gp) (ad t l1) λvb DE t2 u2 l2 DD =>
  aA ⟨⟨u2.up _ _ (u1.up _ _ ho),hd⟩,?_⟩))))
 have FI:va=.ref (D.Kx i):=Dv
 have H0:vb=.ref (D.Kx j):=DD
 subst FI H0
 have ub:=base _ ((ni env Γ C'.heap).up u2.up ((ni env Γ C'.heap).up u1.up gp))
 have g2:=MU.up ub
 refine AY (s:={s' with heap:=DE,toks:=t2}) r (kr.up ub).kn (ad t (ab l1 l2)) (ci TH λmc n k=>⟨mc,n.keeps ub,k⟩) (g2.keyAt ok hi) (g2.keyAt ok hj) (ok.klen i j hi hj) (ok.kpos i hi) (ok.kx i j hi hj) (g2.keyC ok hi hj) λh' t' u' l'=>?_
 exact hQ _ h' t' ((u1.trans u2).trans u') (ab l1 (ab l2 l')) rfl
theorem s9{ap cp ep:Pos}{vs:Array (Option Value)}(j:Nat)(ws:Ws A B s fr env)(wk:Wk K B s fr env Γ ch C')(hj:Γ[j]?=some (sn,.is (.ref D.G)))(g:Gbw D fr vs it C'.heap)
  (Fl:(ap.endLine==cp.line)=true) (hi:interactive env=false) (hs:swapsWith (.Call (.Attribute (.Name sn p) "_step" ap) [] [] cp) none ep.line env=pure false)
  (h:∀Ds,Wk K B s fr env Γ ch Ds->Gr C'.heap Ds.heap->wpAny (model prog w) A (call (.ref 113) [.ref D.G]) (λ_ s'=>wpAny (model prog w) A (execs rest env) Q E s') E Ds) (hd:(sn==("__debug__":Str))=false:=by rfl):
  wpAny (model prog w) A (execs (.Expr (.Call (.Attribute (.Name sn p) "_step" ap) [] [] cp) ep::rest) env) Q E C':=by
 refine au (wpAny_Expr_any (CN Fl rfl (Ev.run (an (cu j hj ws.hk) hd) wk.fx.fx wk.t λva h1 t1 u1 l1 Dv pl=>?_)) hi hs)
 replace Dv:=At_is Dv
 subst Dv
 have EG:=wk.gr ws u1 l1
 have g1:=g.up u1.up
 have kr:=EG.bt.kr.up EG.bt.up
 refine vT (s:={C' with heap:=h1,toks:=t1}) kr.sk kr.X g1.g.at (by decide +kernel) (f:=113) (by decide +kernel) ?_
 refine zC (kr.kn.fn 113 (me 9 3) "groupby._step" .none .none (co (by kernel_rfl))) λo pm cd doc ho U9 _=>?_
 exact b7 (o:=o) (evalArgs_nil3 ⟨⟨ho,U9⟩,h _ EG u1⟩)
end
theorem Room.made{n:Nat}{rest:List Value}{kw:List (Str×Value)}(r:Room A (n+1)):Room (A.under (.builtin "type.__call__" ⟨.ref C::rest,kw⟩)) n:=by
 have hw:Code.weight (.builtin "type.__call__" ⟨.ref C::rest,kw⟩)=1:=by rfl
 have hu:Code.cUnits (.builtin "type.__call__" ⟨.ref C::rest,kw⟩)=1:=by rfl
 refine⟨?_,?_,r.hand⟩
 ·have:=r.depth
  show A.depth+Code.weight _+n<recursionLimit
  rw [hw];exact y_70 this
 ·have:=r.units
  show A.units+Code.cUnits _+10*n<cLine
  rw [hu];exact y_69 this
theorem Wk.call2(ws:Ws A B s fr env)(wk:Wk K B s fr env Γ ch C')(sl:Sl ch' (env::fr) C'.heap h')(t:C'.toks<=t')(hc:∀b∈ch',b∈ch\/s.heap.objs.size<=b)(hb:∀b∈ch',B.objs.size<=b)(hn:∀(L:Nat) m,L∈ch'->¬C'.heap.Ns L m):
  Wk K B s fr env Γ ch {C' with heap:=h',toks:=t'}:=by
 have EA:Wk K B s fr env Γ (ch ++ ch') C':={wk with sl:=wk.sl.mono λn hn=>cM _ hn}
 have r:=EA.call ws sl t (λb hb=>cQ _ hb) hb hn
 refine{r with sl:=⟨λb o h1 h2 q=>r.sl.kept b o (λz=>?_) h2 q,r.sl.slots,r.sl.sz,r.sl.there⟩}
 rcases eh.mp z with z|z
 ·exact h1 z
 ·rcases hc b z with z|z
  ·exact h1 z
  ·have:@cA Nat _ b s.heap.objs.size:=aX q
   exact qj this z
section
variable{Q:Flow->Shared->Prop}
theorem qH{pos:Pos}:EvT w A env G (.Constant (.bool true) k pos) true:=mu gy
theorem rn(I:Nat->Shared->Prop)(P:Shared->Prop)
  (turn:∀n s,I n s->EvT w A env ⟨λh=>h=s.heap\/True,λ_ _=>.inr trivial⟩ test true/\∀(h':Heap) t',Gr s.heap h'->s.toks<=t'->wpAny (model prog w) A (execs body env) (λf s3=>match f with
   |.next|.cont=>∃m,m<n/\I m s3
   |.brk=>P s3
   |.ret _=>False) (notedBy (model prog w) A env λe s'=>R (.error e) s') {s with heap:=h',toks:=t'})
  (ht:∀n s,I n s->0<s.toks) (n:Nat) (h:I n s) (hP:∀s',P s'->R (.ok .next) s'):codeAny (model prog w) A (.whileLoop test body [] env) R s:=by
 refine codeAny_whileLoop I (λn s hI=>?_) n h
 obtain⟨e,tr⟩:=turn n s hI
 refine e s _ _ (.inr trivial) (ht n s hI) λh' t' u l=>?_
 rw [if_pos rfl]
 refine bb (tr h' t' u l) (λf s3 h3=>?_) λ_ _ x=>x
 cases f with
 |next=>exact h3
 |cont=>exact h3
 |brk=>exact hP _ h3
 |ret v=>exact h3.elim
noncomputable abbrev gbP(D:GD)(cg:Value)(a:Nat)(D2 Ew tk:Value):Array (Option Value):=gb cg (.ref (D.Kx a)) (.ref (D.P a)) (.bool true) (.bool true) D2 (.ref D.I) (.ref D.IG) Ew tk
noncomputable def Tgt(D:GD)(a:Nat)(D2 tk:Value):Prop:=D2=.bool false\/(D2=.bool true/\∃b,b<D.n/\tk=.ref (D.Kx b)/\(D.ki b==D.ki a)=false)
theorem zq{a:Nat}{sT:Tok}(r:Room A 8)(bt:Bt K B s.heap)(t0:0<s.toks)(D0:A.frames=some fr)(stk:StkOk fr s.heap)(offB:∀L∈d4 fr,B.get? L=none)
  (ok:D.Ok B) (g:Gbw D fr (gb cg ck cv El Eo D2 (.ref D.I) (.ref D.IG) (.int sN sT) tk) it s.heap) (ha:a<D.n)
  (Ey:(El=.bool false/\D2=.bool false/\it=some a)\/(El=.bool true/\ck=.ref (D.Kx a)/\cv=.ref (D.P a)/\Eo=.bool true/\it=some (a+1)/\Tgt D a D2 tk))
  (hQ:∀(T x:Nat) h' t' k,k≠0->Gbw D fr (gbP D (.int (sN+1) k) a (.bool true) (.int (sN+1) k) (.ref (D.Kx a))) (some (a+1)) h'->h'.IsTuple T #[.ref (D.Kx a),.ref x]->SlotF fr h' x 169 #[some (.int (sN+1) k),some (.ref D.G),some (.ref (D.Kx a))] ->
   s.heap.objs.size<x->Sl [D.G,D.I] fr s.heap h'->s.toks<=t'->R (.ok (.ret (.ref T))) {s with heap:=h',toks:=t'}):
  codeAny (model prog w) A (.call (.ref 120) ⟨[.ref D.G],[]⟩) R s:=by
 refine oZ [(("self":Str),aM D.G)] [D.G,D.I] r bt ((bt.kr.up bt.up).kn.fn 120 (me 9 4) "groupby.__next__" .none .none (co (by kernel_rfl))) t0 D0 stk offB (λ_ _ _=>rfl)
  ⟨(fQ rfl lS),(fQ rfl lS)⟩ rfl ?_
 rintro env C' ws wk ro ⟨pm,cd,doc,he⟩ up1
 refine yM λE'=>?_
 have hk:=ws.hk
 have lw:GLow D env.locals:=g.low.mono ws.ge
 have DX:=ws.ge
 have Gw:=ws.bsz
 have g1:=g.up up1
 refine ek _ (P:=pI 0) 0 ws wk gb0 br rfl g1.g lw.g (.head _) ok.bG (by decide +kernel) (C:=124) (pp:=125) (i:=0) (by decide +kernel) (by decide) rfl λNP Ds U' DL N4 k2=>?_
 have g2:=g1.set N4 k2
 have FD:∀{Γ h},Wk K B s fr env Γ [D.G,D.I] h->Gl env (ni env Γ h.heap) "_same" (.ref 83):=λwk=>by subst he;exact wk.gl ws (.inl (co (by kernel_rfl))) rfl rfl rfl rfl
 have FM:∀{Γ h},Wk K B s fr env Γ [D.G,D.I] h->Gl env (ni env Γ h.heap) "_grouper" (.ref 169):=λwk=>by subst he;exact wk.gl ws (.inl (co (by kernel_rfl))) rfl rfl rfl rfl
 have lgr:env.kindOf "grouper"=some .local:=by subst he;rfl
 let MB:Shared->Prop:=λs'=>Wk K B s fr env (scB [(("self":Str),aM D.G)]) [D.G,D.I] s'/\Gbw D fr (gbP D NP a D2 (.int sN sT) tk) (some (a+1)) s'.heap
 refine au (wpAny_While ?_)
 refine rn (λn s'=>(n=1/\D2=.bool false/\Wk K B s fr env (scB [(("self":Str),aM D.G)]) [D.G,D.I] s'/\Gbw D fr (gb NP ck cv (.bool false) Eo D2 (.ref D.I) (.ref D.IG) (.int sN sT) tk) (some a) s'.heap)\/(Tgt D a D2 tk/\MB s')) MB ?_ ?_ 1 ?_ ?_
 ·rintro n s' (⟨rfl,rfl,EA,g'⟩|⟨tg,EA,g'⟩)
  ·refine⟨qH,λh' t' u l=>yM λE'=>?_⟩
   have Fj:=EA.gr ws u l
   have I7:=g'.up u.up
   refine ot ws Fj (mu (Fj.attr ws 0 rfl I7.g lw.g (by decide +kernel) (C:=124) (pp:=128) (i:=3) (v:=.bool false) (by decide +kernel) rfl rfl).pB) λs3 DS u3=>?_
   have g3:=I7.up u3.up
   refine s9 0 ws DS rfl g3 rfl (by subst he;rfl) (by rfl) λs4 DR u4=>?_
   have g4:=g3.up u4.up
   refine cw (rC (ro.le (by decide)) DR.bt DR.t ws.frames (DR.stkE ws) (λL hL=>((eD ws.frame L).mp hL).elim (λz=>df (qk Gw DX z)) (offB L)) ok (g4.cons ws.frame lw) ha λh5 t5 g5 S1 l5=>?_)
   dsimp only
   have DT:=DR.call ws S1 l5 (λb hb=>hb) (λb hb=>by simp at hb;rcases hb with rfl|rfl;exact ok.bG;exact ok.bI) g4.nns
   exact aH ⟨0,Nat.zero_lt_one,.inr ⟨.inl rfl,DT,g5.uncons ws.frame⟩⟩
  ·refine⟨qH,λh' t' u l=>yM λE'=>?_⟩
   have Fj:=EA.gr ws u l
   have I7:=g'.up u.up
   refine pQ ws Fj (mu (Fj.attr ws 0 rfl I7.g lw.g (by decide +kernel) (C:=124) (pp:=128) (i:=3) (v:=.bool true) (by decide +kernel) rfl rfl).pB) λs3 DS u3=>?_
   have g3:=I7.up u3.up
   rcases tg with rfl|⟨rfl,b,hb,rfl,DY⟩
   ·refine pQ ws DS ((lN (mu (DS.attr ws 0 rfl g3.g lw.g (by decide +kernel) (C:=124) (pp:=130) (i:=5) (v:=.bool false) (by decide +kernel) rfl rfl).pB)).cast rfl) λs4 DR u4=>?_
    exact au (wpAny_Break ⟨DR,g3.up u4.up⟩)
   ·refine ot ws DS ((lN (mu (DS.attr ws 0 rfl g3.g lw.g (by decide +kernel) (C:=124) (pp:=130) (i:=5) (v:=.bool true) (by decide +kernel) rfl rfl).pB)).cast rfl) λs4 DR u4=>?_
    have g4:=g3.up u4.up
    refine pQ ws DR ((lN (mu (xN (i:=b) (j:=a) (ro.le (by decide)) ok ws DR g4 lw hb ha (FD DR) (DR.attr ws 0 rfl g4.g lw.g (by decide +kernel) (C:=124) (pp:=134) (i:=9) (v:=.ref (D.Kx b)) (by decide +kernel) rfl rfl) (DR.attr ws 0 rfl g4.g lw.g (by decide +kernel) (C:=124) (pp:=126) (i:=1) (v:=.ref (D.Kx a)) (by decide +kernel) rfl rfl)))).cast (by rw [DY];rfl)) λs5 DT u5=>?_
    exact au (wpAny_Break ⟨DT,g4.up u5.up⟩)
 ·rintro n s' (⟨_,_,EA,_⟩|⟨_,EA,_⟩)
  ·exact EA.t
  ·exact EA.t
 ·rcases Ey with ⟨rfl,rfl,rfl⟩|⟨rfl,rfl,rfl,rfl,rfl,tg⟩
  ·exact .inl ⟨rfl,rfl,DL,g2⟩
  ·exact .inr ⟨tg,DL,g2⟩
 ·rintro s3 ⟨DS,g3⟩
  dsimp only
  refine ek _ (P:=(·=.ref (D.Kx a))) 0 ws DS gb9 (DS.attr ws 0 rfl g3.g lw.g (by decide +kernel) (C:=124) (pp:=126) (i:=1) (v:=.ref (D.Kx a)) (by decide +kernel) rfl rfl) rfl g3.g lw.g (.head _) ok.bG (by decide +kernel) (C:=124) (pp:=134) (i:=9) (by decide +kernel) (by decide) rfl λv s4 hv DR N3 k4=>?_
  subst hv
  have g4:=g3.set N3 k4
  refine ek _ (P:=pB true) 0 ws DR gb5 gy rfl g4.g lw.g (.head _) ok.bG (by decide +kernel) (C:=124) (pp:=130) (i:=5) (by decide +kernel) (by decide) rfl λv s5 hv DT Lc k5=>?_
  unfold pB at hv
  subst hv
  have g5:=g4.set Lc k5
  have Rw:=DT.bt.kr.up DT.bt.up
  refine au (bu (aK (cC (FM DT) DT.fx.fx ?_)) rfl)
  refine callWith_K (e:=.Name "self" _) Rw.X (Rw.sk.kp 169 (by decide +kernel)) ?_ rfl rfl
  refine ar (Ev.run (an (cu 0 rfl hk)) DT.fx.fx DT.t λva h6 t6 u6 l6 p6=>?_)
  replace p6:=At_is p6
  subst p6
  have D5:=DT.gr ws u6 l6
  have g6:=g5.up u6.up
  refine ar (Ev.run (D5.attr ws 0 rfl g6.g lw.g (by decide +kernel) (C:=124) (pp:=134) (i:=9) (v:=.ref (D.Kx a)) (by decide +kernel) rfl rfl) D5.fx.fx D5.t λva h7 t7 u7 l7 p7=>aA ?_)
  have Td:va=.ref (D.Kx a):=p7
  subst Td
  have D8:=D5.gr ws u7 l7
  have EF:=g6.up u7.up
  have Ky:=D8.bt.kr.up D8.bt.up
  refine⟨Ky.X,?_⟩
  refine cw (mV (C:=169) (fI:=151) Ky.sk Ky.X (by decide +kernel) (by decide +kernel) (D8.stkE ws) λx h8 u8 E5 Lx Ra=>?_)
  dsimp only at u8 E5
  have EP:=D8.gr ws u8 (ag _)
  have FW:=EF.up u8.up
  have hx8:@cA Nat _ h7.objs.size x:=E5
  have K1:@iC Nat _ (env.locals+1) h7.objs.size:=D8.los
  refine rY (b:=a) (Room.made (ro.le (by decide))) EP.bt EP.t ws.frames (EP.stkE ws) (λL hL=>((eD ws.frame L).mp hL).elim (λz=>df (qk Gw DX z)) (offB L)) ok (FW.cons ws.frame lw) Ra (by have h1:B.objs.size<=h7.objs.size:=D8.bt.sz;exact gk 0x17a21b821311b210a914ac10 h7.objs.size x env.locals B.objs.size s.heap.objs.size rfl E5 K1 Gw DX) λh9 t9 k FL Kj M4 Rd GB=>?_
  refine⟨rfl,?_⟩
  dsimp only at Rd GB ⊢
  have FH:=EP.call2 ws Rd GB (λb hb=>by
   rcases aQ.mp hb with rfl|hb
   ·exact .inr (dh 0x17821311b210a914ac10 h7.objs.size b env.locals s.heap.objs.size rfl E5 K1 DX)
   ·exact .inl (by rw [ak.mp hb];simp)) (λb hb=>by
   rcases aQ.mp hb with rfl|hb
   ·have h1:B.objs.size<=h7.objs.size:=D8.bt.sz;exact gk 0x17a21b821311b210a914ac10 h7.objs.size b env.locals B.objs.size s.heap.objs.size rfl E5 K1 Gw DX
   ·rw [ak.mp hb];exact ok.bG) (λL m hL n=>by
   rcases aQ.mp hL with rfl|hL
   ·refine oi (n) λo es ep q d _=>?_
    rw [Ra.2.2.1] at q;cases q;cases d
   ·rw [ak.mp hL] at n
    exact FW.nns D.G m (by simp) n)
  have gA:=Kj.uncons ws.frame
  have Jo:=M4.uncons ws.frame
  refine FH.store ws (d:=.is (.ref x)) At_rfl rfl rfl lgr λsB Fv kB zB=>?_
  have gB:=gA.kpl lw kB
  have M3:SlotF fr sB.heap x 169 _:=⟨Jo.1,Jo.2.1,kB _ _ (bX 0x1311b210a914ba1a h7.objs.size x env.locals rfl E5 K1) Jo.2.2.1,kB _ _ (dh 0x22385421311b210a914bc1a h7.objs.size x env.locals (x-(1:Nat)) rfl E5 K1 (fG x (1:Nat))) Jo.2.2.2⟩
  refine uu (T:=tN (.tup [.is (.ref (D.Kx a)),.is (.ref x)])) ws Fv (eX (ds:=[.is (.ref (D.Kx a)),.is (.ref x)]) (bk (Fv.attr ws 1 rfl gB.g lw.g (by decide +kernel) (C:=124) (pp:=126) (i:=1) (v:=.ref (D.Kx a)) (by decide +kernel) rfl rfl).is (bk (Fv.is ws 0 rfl).is ec)) (show 2<=sizeLine by decide)) λv h' t' u' l' DJ GS=>?_
  refine fL (At.tup.mp DJ) λT items Dz hT DQ Dw=>?_;subst Dz
  have hit:items=#[.ref (D.Kx a),.ref x]:=by
   have:items.toList=[.ref (D.Kx a),.ref x]:=by
    revert Dw
    generalize items.toList=l
    intro Dw
    match l,Dw with
    |[v1,v2],Dw =>
     simp only [aN,aC,aL,aR,q7,rb,q8,q9,qX,qZ,qW,qY] at Dw
     rw [Dw.1,Dw.2.1]
    |[],Dw=>simp [aN,aC,aL,aR] at Dw
    |[_],Dw=>simp [aN,aC,aL,aR] at Dw
    |_::_::_::_,Dw=>simp [aN,aC,aL,aR] at Dw
   exact eR.mp this
  subst hit
  have fin:=hQ T x h' t' k FL (gB.up u'.up) DQ (M3.up u'.up) (dh 0x17821311b210a914ac14 h7.objs.size x env.locals s.heap.objs.size rfl E5 K1 DX) GS.sl GS.tk
  rw [Fv.same]
  exact fin
end
section
variable{Q:Flow->Shared->Prop}
theorem xG(r:Room A 8)(bt:Bt K B s.heap)(t0:0<s.toks)(D0:A.frames=some fr)(stk:StkOk fr s.heap)(offB:∀L∈d4 fr,B.get? L=none)
  (ok:D.Ok B) (g:Gbw D fr (gb cg ck cv (.bool false) Eo D2 (.ref D.I) (.ref D.IG) Ew tk) it s.heap) (hit:it=some D.n\/it=none)
  (hQ:∀h' t' e,Fly [D.G,D.I] fr s.heap h' e->s.toks<=t'->R (.error (.ref e)) {s with heap:=h',toks:=t'}):
  codeAny (model prog w) A (.call (.ref 120) ⟨[.ref D.G],[]⟩) R s:=by
 refine oZ [(("self":Str),aM D.G)] [D.G,D.I] r bt ((bt.kr.up bt.up).kn.fn 120 (me 9 4) "groupby.__next__" .none .none (co (by kernel_rfl))) t0 D0 stk offB (λ_ _ _=>rfl)
  ⟨(fQ rfl lS),(fQ rfl lS)⟩ rfl ?_
 rintro env C' ws wk ro ⟨pm,cd,doc,he⟩ up1
 have hk:=ws.hk
 have lw:GLow D env.locals:=g.low.mono ws.ge
 have DX:=ws.ge
 have Gw:=ws.bsz
 have g1:=g.up up1
 refine ek _ (P:=pI 0) 0 ws wk gb0 br rfl g1.g lw.g (.head _) ok.bG (by decide +kernel) (C:=124) (pp:=125) (i:=0) (by decide +kernel) (by decide) rfl λNP Ds U' DL N4 k2=>?_
 have g2:=g1.set N4 k2
 refine au (wpAny_While ?_)
 refine rn (λ_ s'=>Wk K B s fr env (scB [(("self":Str),aM D.G)]) [D.G,D.I] s'/\Gbw D fr (gb NP ck cv (.bool false) Eo D2 (.ref D.I) (.ref D.IG) Ew tk) it s'.heap) (λ_=>False) ?_ (λ_ s' h=>h.1.t) 1 ⟨DL,g2⟩ (λ_ h=>h.elim)
 rintro n s' ⟨EA,g'⟩
 refine⟨qH,λh' t' u l=>?_⟩
 have Fj:=EA.gr ws u l
 have I7:=g'.up u.up
 refine ot ws Fj (mu (Fj.attr ws 0 rfl I7.g lw.g (by decide +kernel) (C:=124) (pp:=128) (i:=3) (v:=.bool false) (by decide +kernel) rfl rfl).pB) λs3 DS u3=>?_
 have g3:=I7.up u3.up
 refine s9 0 ws DS rfl g3 rfl (by subst he;rfl) (by rfl) λs4 DR u4=>?_
 have g4:=g3.up u4.up
 refine cw (ux (ro.le (by decide)) DR.bt DR.t ws.frames (DR.stkE ws) (λL hL=>((eD ws.frame L).mp hL).elim (λz=>df (qk Gw DX z)) (offB L)) ok (g4.cons ws.frame lw) hit λh5 t5 e g5 fly l5=>?_)
 refine DR.flyLoop ws fly (λb hb=>az _ hb) (λL m hL=>g4.nns L m (az _ hL)) λh6 f6 k6=>?_
 have:=hQ h6 t5 e f6 (ab DR.tk l5)
 rw [DR.same]
 exact this
noncomputable abbrev grS(D:GD)(sN:Int)(k:Tok)(b:Nat):Array (Option Value):=#[some (.int sN k),some (.ref D.G),some (.ref (D.Kx b))]
noncomputable abbrev grΓ(D:GD)(x:Nat):Ctx:=("gbo",.is (.ref D.G))::scB [(("self":Str),aM x)]
theorem Bl{x a b:Nat}{k2:Tok}{E2:Value->Shared->Value->Shared->Prop}(ro:Room A 7)(ok:D.Ok B)(ws:Ws A B s fr env)(wk:Wk K B s fr env (grΓ D x) [D.G,D.I] C')(lw:GLow D env.locals)
  (he:∃pm cd doc,env=ky (me 10 3) "_grouper.__next__" .none .none 165 L0 pm cd doc)
  (g:Gbw D fr (gbP D cg a (.bool true) Ew (.ref (D.Kx b))) (some (a+1)) C'.heap) (gx:SlotF fr C'.heap x 169 (grS D sN k2 b)) (D9:x<env.locals) (ha:a<D.n) (hb:b<D.n)
  (O9:(D.ki b==D.ki a)=true->∀h' t',Gbw D fr (gb cg .none .none (.bool false) (.bool false) (.bool true) (.ref D.I) (.ref D.IG) Ew (.ref (D.Kx b))) (some (a+1)) h'->SlotF fr h' x 169 (grS D sN k2 b)->Sl [D.G,D.I] fr s.heap h'->s.toks<=t'->R (.ok (.ret (.ref (D.P a)))) {s with heap:=h',toks:=t'})
  (O8:(D.ki b==D.ki a)=false->∀h' t' e,Gbw D fr (gbP D cg a (.bool true) Ew (.ref (D.Kx b))) (some (a+1)) h'->SlotF fr h' x 169 (grS D sN k2 b)->Fly [D.G,D.I] fr s.heap h' e->s.toks<=t'->R (.error (.ref e)) {s with heap:=h',toks:=t'}):
  wpAny (model prog w) A (execs ((gR (me 10 3)).drop 3) env) (λf s'=>R (.ok (.ret (match f with|.ret v=>v|_=>.none))) s') (λe s'=>wpAny (model prog w) A (leaving env e) (λ_ Ef=>R (.error e) Ef) (E2 e s') s') C':=by
 refine zD (he) λpm cd doc he=>?_
 have hk:=ws.hk
 have DX:=ws.ge
 have FD:∀{Γ h},Wk K B s fr env Γ [D.G,D.I] h->Gl env (ni env Γ h.heap) "_same" (.ref 83):=λwk=>by subst he;exact wk.gl ws (.inl (co (by kernel_rfl))) rfl rfl rfl rfl
 have LY:∀{Γ h},Wk K B s fr env Γ [D.G,D.I] h->Gl env (ni env Γ h.heap) "StopIteration" (.type "StopIteration"):=λwk=>by subst he;exact wk.gl ws (.inr (co (by kernel_rfl))) rfl rfl rfl rfl
 have lr:env.kindOf "r"=some .local:=by subst he;rfl
 refine wA (b:=!(D.ki b==D.ki a)) ws wk (lN (mu (xN (i:=b) (j:=a) (ro.le (by decide)) ok ws wk g lw hb ha (FD wk) (wk.attr ws 1 rfl gx D9 (by decide +kernel) (C:=169) (pp:=172) (i:=2) (v:=.ref (D.Kx b)) (by decide +kernel) rfl rfl) (wk.attr ws 0 rfl g.g lw.g (by decide +kernel) (C:=124) (pp:=126) (i:=1) (v:=.ref (D.Kx a)) (by decide +kernel) rfl rfl)))) λDs DL u2=>?_
 have g2:=g.up u2.up
 have Fw:=gx.up u2.up
 cases E1:(D.ki b==D.ki a) with
 |false =>
  refine uv ws DL (LY DL) λh' e fly Fo=>?_
  have IY:∀x∈d4 fr,x<env.locals:=λx hx=>ad (ws.frlt x hx) DX
  have g3:=(g2.low' lw).sl0 Fo (DL.stk.low IY)
  have Gk:SlotF fr h' x 169 (grS D sN k2 b):=(Fw.keep D9 λb o hb q=>by rw [mX _ _ b hb];exact q).sl Fo (DL.stk.low IY) (λh=>nomatch h) (λh=>nomatch h)
  have:=O8 E1 h' Ds.toks e g3 Gk fly DL.tk
  rw [DL.same]
  exact this
 |true =>
  refine aH ?_
  have Jt:x≠D.G:=Fw.ne g2.g (by decide)
  refine nJ (d:=.is (.ref (D.P a))) ws DL (DL.attr ws 0 rfl g2.g lw.g (by decide +kernel) (C:=124) (pp:=127) (i:=2) (v:=.ref (D.P a)) (by decide +kernel) rfl rfl).is rfl rfl lr rfl λs3 DS k3=>?_
  have g3:=g2.kpl lw k3
  have Gk:SlotF fr s3.heap x 169 (grS D sN k2 b):=Fw.keep D9 λb o hb q=>k3 b o (mh hb) q
  refine ek _ (P:=(·=.none)) 1 ws DS gb2 mI rfl g3.g lw.g (.head _) ok.bG (by decide +kernel) (C:=124) (pp:=127) (i:=2) (by decide +kernel) (by decide) rfl λv s4 hv DR N3 k4=>?_
  subst hv
  have g4:=g3.set N3 k4
  have JD:=Gk.but g3.g Jt k4
  refine ek _ (P:=pB false) 1 ws DR gb4 gy rfl g4.g lw.g (.head _) ok.bG (by decide +kernel) (C:=124) (pp:=129) (i:=4) (by decide +kernel) (by decide) rfl λv s5 hv DT Lc k5=>?_
  unfold pB at hv
  subst hv
  have g5:=g4.set Lc k5
  have Gj:=JD.but g4.g Jt k5
  refine ek _ (P:=(·=.none)) 1 ws DT gb1 mI rfl g5.g lw.g (.head _) ok.bG (by decide +kernel) (C:=124) (pp:=126) (i:=1) (by decide +kernel) (by decide) rfl λv DI hv D5 S3 k6=>?_
  subst hv
  have g6:=g5.set S3 k6
  have Ib:=Gj.but g5.g Jt k6
  refine ek _ (P:=pB false) 1 ws D5 gb3 gy rfl g6.g lw.g (.head _) ok.bG (by decide +kernel) (C:=124) (pp:=128) (i:=3) (by decide +kernel) (by decide) rfl λv G7 hv D8 N2 k7=>?_
  unfold pB at hv
  subst hv
  have EF:=g6.set N2 k7
  have JC:=Ib.but g6.g Jt k7
  refine uu (T:=tV (·=.ref (D.P a))) ws D8 (D8.is ws 0 rfl) λv h' t' u' l' hv EP=>?_
  have FJ:v=.ref (D.P a):=hv
  subst FJ
  have fin:=O9 E1 h' t' (EF.up u'.up) (JC.up u'.up) EP.sl EP.tk
  rw [D8.same]
  exact fin
theorem xF{x a b:Nat}{k1 k2:Tok}{pend:Bool}(r:Room A 8)(bt:Bt K B s.heap)(t0:0<s.toks)(D0:A.frames=some fr)(stk:StkOk fr s.heap)(offB:∀L∈d4 fr,B.get? L=none)
  (ok:D.Ok B) (g:Gbw D fr (gb (.int sN k1) ck cv El (.bool pend) (.bool true) (.ref D.I) (.ref D.IG) Ew (.ref (D.Kx b))) (some (if pend then a+1 else a)) s.heap) (gx:SlotF fr s.heap x 169 (grS D sN k2 b)) (hb:b<D.n) (KP:k1≠0) (Ff:k2≠0) (R8:a<=D.n)
  (hp:pend=true->a<D.n/\ck=.ref (D.Kx a)/\cv=.ref (D.P a)/\El=.bool true)
  (O9:a<D.n->(D.ki b==D.ki a)=true->∀h' t',Gbw D fr (gb (.int sN k1) .none .none (.bool false) (.bool false) (.bool true) (.ref D.I) (.ref D.IG) Ew (.ref (D.Kx b))) (some (a+1)) h'->SlotF fr h' x 169 (grS D sN k2 b)->Sl [D.G,D.I] fr s.heap h'->s.toks<=t'->R (.ok (.ret (.ref (D.P a)))) {s with heap:=h',toks:=t'})
  (O8:a<D.n->(D.ki b==D.ki a)=false->∀h' t' e,Gbw D fr (gbP D (.int sN k1) a (.bool true) Ew (.ref (D.Kx b))) (some (a+1)) h'->SlotF fr h' x 169 (grS D sN k2 b)->Fly [D.G,D.I] fr s.heap h' e->s.toks<=t'->R (.error (.ref e)) {s with heap:=h',toks:=t'})
  (hQ3:a=D.n->pend=false->∀h' t' e,Gbw D fr (gb (.int sN k1) ck cv El (.bool false) (.bool true) (.ref D.I) (.ref D.IG) Ew (.ref (D.Kx b))) none h'->SlotF fr h' x 169 (grS D sN k2 b)->Fly [D.G,D.I] fr s.heap h' e->s.toks<=t'->R (.error (.ref e)) {s with heap:=h',toks:=t'}):
  codeAny (model prog w) A (.call (.ref 165) ⟨[.ref x],[]⟩) R s:=by
 refine oZ [(("self":Str),aM x)] [D.G,D.I] r bt ((bt.kr.up bt.up).kn.fn 165 (me 10 3) "_grouper.__next__" .none .none (co (by kernel_rfl))) t0 D0 stk offB (λ_ _ _=>rfl)
  ⟨(fQ rfl lS),(fQ rfl lS)⟩ rfl ?_
 rintro env C' ws wk ro IZ up1
 refine zD (id IZ) λpm cd doc he=>?_
 have hk:=ws.hk
 have lw:GLow D env.locals:=g.low.mono ws.ge
 have DX:=ws.ge
 have Gw:=ws.bsz
 have g1:=g.up up1
 have G0:=gx.up up1
 have D9:x<env.locals:=ad gx.lt ws.ge
 have lg:env.kindOf "gbo"=some .local:=by subst he;rfl
 refine nJ (d:=.is (.ref D.G)) ws wk (wk.attr ws 0 rfl G0 D9 (by decide +kernel) (C:=169) (pp:=171) (i:=1) (v:=.ref D.G) (by decide +kernel) rfl rfl).is rfl rfl lg rfl λDs DL k₂=>?_
 have g2:=g1.kpl lw k₂
 have Fw:SlotF fr Ds.heap x 169 (grS D sN k2 b):=G0.keep D9 λb o hb q=>k₂ b o (mh hb) q
 refine ot ws DL ((fJ (BC sN sN) ((DL.attr ws 0 rfl g2.g lw.g (by decide +kernel) (C:=124) (pp:=125) (i:=0) (v:=.int sN k1) (by decide +kernel) rfl rfl).mono λ_ _ _ h=>⟨k1,KP,h⟩) ((DL.attr ws 1 rfl Fw D9 (by decide +kernel) (C:=169) (pp:=170) (i:=0) (v:=.int sN k2) (by decide +kernel) rfl rfl).mono λ_ _ _ h=>⟨k2,Ff,h⟩)).cast (bne_self_eq_false _)) λs3 DS u3=>?_
 have g3:=g2.up u3.up
 have Gk:=Fw.up u3.up
 refine wA (b:=!pend) ws DS (lN (mu (DS.attr ws 0 rfl g3.g lw.g (by decide +kernel) (C:=124) (pp:=129) (i:=4) (v:=.bool pend) (by decide +kernel) rfl rfl).pB)) λs4 DR u4=>?_
 have g4:=g3.up u4.up
 have JD:=Gk.up u4.up
 have tail:∀s5,Wk K B s fr env (grΓ D x) [D.G,D.I] s5->a<D.n->Gbw D fr (gbP D (.int sN k1) a (.bool true) Ew (.ref (D.Kx b))) (some (a+1)) s5.heap->SlotF fr s5.heap x 169 (grS D sN k2 b) ->
   wpAny (model prog w) (A.deeper env) (execs ((gR (me 10 3)).drop 3) env) (λf s'=>R (.ok (.ret (match f with|.ret v=>v|_=>.none))) s') (λe s'=>wpAny (model prog w) (A.deeper env) (leaving env e) (λ_ Ef=>R (.error e) Ef) (λe' Ef=>R (.error e') Ef) s') s5 :=
  λs5 DT ha g5 Gj=>Bl (E2:=λ_ _ e' Ef=>R (.error e') Ef) ro ok ws DT lw IZ g5 Gj D9 ha hb (O9 ha) (O8 ha)
 cases pend with
 |true =>
  refine a4 (hp rfl) λha Vz Dz FP=>?_;subst Vz;subst Dz;subst FP
  refine aH ?_
  exact tail s4 DR ha g4 JD
 |false =>
  refine s9 0 ws DR rfl g4 rfl (by subst he;rfl) (by rfl) λs5 DT u5=>?_
  have g5:=g4.up u5.up
  have Gj:=JD.up u5.up
  have EU:∀L∈d4 (env::fr),B.get? L=none:=λL hL=>((eD ws.frame L).mp hL).elim (λz=>df (qk Gw DX z)) (offB L)
  have nI:∀(L:Nat) m,L∈[D.I]->¬s5.heap.Ns L m:=λL m hL=>g5.nns L m (az _ hL)
  refine lF (g5.itr.obj) λoI fsI eI dI=>?_
  have xI:x≠D.I:=λq=>by
   have e1:=Gj.2.2.1
   rw [q,eI] at e1;cases e1;cases dI
  have xI1:x-1≠D.I:=λq=>by
   have e1:=Gj.2.2.2
   rw [q,eI] at e1;cases e1;cases dI
  by_cases ha:a<D.n
  ·refine cw (rC (ro.le (by decide)) DT.bt DT.t ws.frames (DT.stkE ws) EU ok (g5.cons ws.frame lw) ha λh6 t6 g6 Re l6=>?_)
   have D5:=DT.call ws Re l6 (λb hb=>hb) (λb hb=>by simp at hb;rcases hb with rfl|rfl;exact ok.bG;exact ok.bI) g5.nns
   have LW:SlotF (env::fr) s5.heap x 169 (grS D sN k2 b):=Gj.cons ws.frame (aJ D9)
   have xG1:x-1≠D.G:=λq=>by
    have e1:=Gj.2.2.2
    rw [q,g5.g.2.2.1] at e1;cases e1
   have Ib:=LW.sl Re (DT.stkE ws) (by simp;exact⟨Gj.ne g5.g (by decide),xI⟩) (by simp;exact⟨xG1,xI1⟩)
   refine aH ?_
   exact tail _ D5 ha (g6.uncons ws.frame) (Ib.uncons ws.frame)
  ·have hn:a=D.n:=vC R8 ha
   subst hn
   refine cw (ux (ro.le (by decide)) DT.bt DT.t ws.frames (DT.stkE ws) EU ok (g5.cons ws.frame lw) (.inl rfl) λh6 t6 e g6 fly l6=>?_)
   refine DT.fly ws fly (λb hb=>az _ hb) nI λh7 f7 k7=>?_
   have Mb:StkOk (env::fr) h6:=(DT.stkE ws).sl fly.sl nI
   have EF:=(g5.after g6 Mb k7).uncons ws.frame
   have LW:SlotF (env::fr) s5.heap x 169 (grS D sN k2 b):=Gj.cons ws.frame (aJ D9)
   have Ib:=LW.sl fly.sl (DT.stkE ws) (by simpa using xI) (by simpa using xI1)
   have JC:=(Gj.after Ib Mb k7).uncons ws.frame
   have:=hQ3 rfl rfl h7 t6 e EF JC f7 (ab DT.tk l6)
   rw [DT.same]
   exact this
end
theorem v5:entryFor table "iter"=some Builtin.«iter»:=entryFor_of_tree (by kernel_rfl)
theorem yD(a:Value):argsOk "iter" ⟨[a],[]⟩:=by unfold argsOk;kernel_rfl
section
variable{Q:Flow->Shared->Prop}
theorem pO{l:Nat}{Q:Value->Shared->Prop}(hl:s.heap.IsList l items)
  (hQ:∀(I:Nat) h',Gr s.heap h'->s.heap.objs.size<=I->h'.IsListIter I l 0->Q (.ref I) {s with heap:=h'}):wpAny (model prog w) A (call (.builtin "iter") [.ref l]) Q E s:=by
 refine ef (by decide +kernel) (by decide +kernel) v5 (yD _) ?_
 refine aa (m:=someArgs "iter" 1 2 _) (cD (a:=[aM l]) rfl ?_)
 refine aa (cT hl ?_)
 exact ai ⟨_,rfl,hQ _ _ (Gr.push _ _) (ag _) ⟨_,am _ rfl,rfl,rfl⟩⟩
theorem wz{n:Str}{pos:Pos}{x:Nat}{vs:Array (Option Value)}(j:Nat)(ws:Ws A B s fr env)
  (h:wpAny (model prog w) A (eval e env) (λv Ds=>Wk K B s fr env Γ ch Ds/\SlotF fr Ds.heap x C vs/\∀s3 G8:Shared,Gr Ds.heap s3.heap->Wk K B s fr env Γ ch G8->SlotF fr G8.heap x C (put vs i v)->(∀(b:Nat) o,¬b=x->s3.heap.get? b=some o->G8.heap.get? b=some o)->wpAny (model prog w) A (execs rest env) Q E G8) E C') (hj:Γ[j]?=some (sn,.is (.ref x)))
  (Ih:x∈ch) (E9:B.objs.size<=x) (hC:C∈clsTab) (hp:(C,n,pp,i)∈slotTab) (hi:i<1000)
  (F3:swapsWith e (some (.Attribute (.Name sn p) n pos)) F'.line env=pure false)
  (hd:(sn==("__debug__":Str))=false:=by rfl):
  wpAny (model prog w) A (execs (.Assign [.Attribute (.Name sn p) n pos] e F'::rest) env) Q E C':=by
 refine au (plainObj_wpAny_Assign_Attribute (bb h (λv Ds h2=>?_) λ_ _ x=>x) F3)
 refine a3 (h2) λDL sx hq=>?_
 refine an (cu j hj ws.hk) hd _ _ _ DL.fx.fx DL.t λvx h3 t3 u3 l3 F0=>?_
 replace F0:=At_is F0
 subst F0
 have DS:=DL.gr ws u3 l3
 exact DS.set ws (sx.up u3.up) Ih E9 hC hp hi λG8 DR s4 k4=>hq {Ds with heap:=h3,toks:=t3} G8 u3 DR s4 k4
theorem rZ{x l IG:Nat}(r:Room A 5)(bt:Bt K B s.heap)(t0:0<s.toks)(D0:A.frames=some fr)(stk:StkOk fr s.heap)(offB:∀L∈d4 fr,B.get? L=none)
  (gx:SlotF fr s.heap x 124 #[]) (hl:s.heap.IsList l items) (hx:B.objs.size<=x)
  (hQ:∀h' t' (I:Nat) k k',k'≠0->SlotF fr h' x 124 (gb (.int 0 k) .none .none (.bool false) (.bool false) (.bool false) (.ref I) (.ref IG) (.int 0 k') .none)->h'.IsListIter I l 0->s.heap.objs.size<=I->Sl [x] fr s.heap h'->s.toks<=t'->R (.ok (.ret .none)) {s with heap:=h',toks:=t'}):
  codeAny (model prog w) A (.call (.ref 99) ⟨[.ref x,.ref l],[("key",.ref IG)]⟩) R s:=by
 refine vd [(("self":Str),aM x),(("iterable":Str),aM l),(("key":Str),aM IG)] [x] r bt ((bt.kr.up bt.up).kn.fn 99 (me 9 1) "groupby.__init__" (.ref 92) .none (co (by kernel_rfl))) t0 D0 stk offB (λ_ _ _=>let ⟨_,ho,_,_,hs⟩:=(bt.kr.up bt.up).d92;BindsTo.of_defaults (T:=92) rfl ho hs rfl rfl)
  ⟨(fQ rfl (fQ rfl (fQ rfl lS))),(fQ rfl (fQ rfl (fQ rfl lS)))⟩ rfl ?_
 rintro env C' ws wk ro ⟨pm,cd,doc,he⟩ up1
 refine yM λE'=>?_
 have hk:=ws.hk
 have DX:=ws.ge
 have G0:=gx.up up1
 have D9:x<env.locals:=ad gx.lt ws.ge
 have FB:C'.heap.IsList l items:=hl.at λo e=>up1 _ _ e
 have Hx:l≠x:=λq=>by
  obtain⟨o,e,_,n,d⟩:=hl
  rw [q,gx.2.2.1] at e;cases e;cases d
 refine ek (λv=>#[none,none,none,none,none,none,none,some v]) (P:=(·=.ref IG)) 0 ws wk (λ_=>rfl) (wk.is ws 2 rfl) rfl G0 D9 (.head _) hx (by decide +kernel) (C:=124) (pp:=132) (i:=7) (by decide +kernel) (by decide) rfl λv Ds hv DL Fw k2=>?_
 subst hv
 have Ej:Ds.heap.IsList l items:=FB.at λo e=>k2 _ o Hx e
 have LY:Gl env (ni env (scB [(("self":Str),aM x),(("iterable":Str),aM l),(("key":Str),aM IG)]) Ds.heap) "iter" (.builtin "iter"):=by subst he;exact DL.gl ws (.inr (co (by kernel_rfl))) rfl rfl rfl rfl
 refine wz (K:=K) (x:=x) (Γ:=scB [(("self":Str),aM x),(("iterable":Str),aM l),(("key":Str),aM IG)]) (ch:=[x]) (vs:=#[none,none,none,none,none,none,none,some (.ref IG)]) 0 ws ?_ rfl (.head _) hx (by decide +kernel) (C:=124) (pp:=131) (i:=6) (by decide +kernel) (by decide) rfl
 refine aK (cC LY DL.fx.fx ?_)
 refine bV rfl (aE (ar (Ev.run (an (cu 1 rfl hk)) DL.fx.fx DL.t λva Eh t3 u3 l3 p3=>aA ?_)))
 replace p3:=At_is p3
 subst p3
 have DS:=DL.gr ws u3 l3
 refine pO (s:={Ds with heap:=Eh,toks:=t3}) (Ej.at λo e=>u3.up _ o e) λI h4 u4 hI Ua=>?_
 have DR:=DS.gr ws u4 (ag _)
 refine⟨DR,(Fw.up u3.up).up u4.up,?_⟩
 intro s5 DI u5 D5 Ib k6
 have H':s.heap.objs.size<=I:=by
  have h1:@iC Nat _ Eh.objs.size I:=hI
  have h2:@iC Nat _ (env.locals+1) Ds.heap.objs.size:=DL.los
  have h3:=u3.sz
  exact y_384 DX h2 h3 hI
 have Iy:I≠x:=λq=>by have:=gx.lt;exact rj this H' q
 have T8:DI.heap.IsListIter I l 0:=ci Ua λo e r=>⟨o,k6 _ o Iy (u5.up _ o e),r⟩
 have QP:SlotF fr DI.heap x 124 #[none,none,none,none,none,none,some (.ref I),some (.ref IG)]:=Ib
 refine ek (λv=>#[none,none,none,none,none,some v,some (.ref I),some (.ref IG)]) (P:=pB false) 0 ws D5 (λ_=>rfl) gy rfl QP D9 (.head _) hx (by decide +kernel) (C:=124) (pp:=130) (i:=5) (by decide +kernel) (by decide) rfl λv G7 hv D8 JC k7=>?_
 subst hv
 refine ek (λv=>#[none,none,none,none,none,some (.bool false),some (.ref I),some (.ref IG),none,some v]) (P:=(·=.none)) 0 ws D8 (λ_=>rfl) mI rfl JC D9 (.head _) hx (by decide +kernel) (C:=124) (pp:=134) (i:=9) (by decide +kernel) (by decide) rfl λv s8 hv EP Pi k8=>?_
 subst hv
 refine ek (λv=>#[none,none,none,some v,none,some (.bool false),some (.ref I),some (.ref IG),none,some .none]) (P:=pB false) 0 ws EP (λ_=>rfl) gy rfl Pi D9 (.head _) hx (by decide +kernel) (C:=124) (pp:=128) (i:=3) (by decide +kernel) (by decide) rfl λv F9 hv FH Ph Fz=>?_
 subst hv
 refine ek (λv=>#[none,some v,none,some (.bool false),none,some (.bool false),some (.ref I),some (.ref IG),none,some .none]) (P:=(·=.none)) 0 ws FH (λ_=>rfl) mI rfl Ph D9 (.head _) hx (by decide +kernel) (C:=124) (pp:=126) (i:=1) (by decide +kernel) (by decide) rfl λv sA hv FY Pg kA=>?_
 subst hv
 refine ek (λv=>#[none,some .none,none,some (.bool false),some v,some (.bool false),some (.ref I),some (.ref IG),none,some .none]) (P:=pB false) 0 ws FY (λ_=>rfl) gy rfl Pg D9 (.head _) hx (by decide +kernel) (C:=124) (pp:=129) (i:=4) (by decide +kernel) (by decide) rfl λv sB hv Fv Pf kB=>?_
 subst hv
 refine ek (λv=>#[none,some .none,some v,some (.bool false),some (.bool false),some (.bool false),some (.ref I),some (.ref IG),none,some .none]) (P:=(·=.none)) 0 ws Fv (λ_=>rfl) mI rfl Pf D9 (.head _) hx (by decide +kernel) (C:=124) (pp:=127) (i:=2) (by decide +kernel) (by decide) rfl λv sC hv GS gxC kC=>?_
 subst hv
 refine ek (λv=>#[some v,some .none,some .none,some (.bool false),some (.bool false),some (.bool false),some (.ref I),some (.ref IG),none,some .none]) (P:=pI 0) 0 ws GS (λ_=>rfl) br rfl gxC D9 (.head _) hx (by decide +kernel) (C:=124) (pp:=125) (i:=0) (by decide +kernel) (by decide) rfl λv sD hv Jj gxD kD=>?_
 refine ci (hv) λk _ Dz=>?_;subst Dz
 refine ek (λv=>#[some (.int 0 k),some .none,some .none,some (.bool false),some (.bool false),some (.bool false),some (.ref I),some (.ref IG),some v,some .none]) (P:=pI 0) 0 ws Jj (λ_=>rfl) br rfl gxD D9 (.head _) hx (by decide +kernel) (C:=124) (pp:=133) (i:=8) (by decide +kernel) (by decide) rfl λv sE hv Ji LW kE=>?_
 refine ci (hv) λk' Fr Dz=>?_;subst Dz
 refine aH ?_
 have itE:sE.heap.IsListIter I l 0:=ci T8 λo e r=>⟨o,kE _ o Iy (kD _ o Iy (kC _ o Iy (kB _ o Iy (kA _ o Iy (Fz _ o Iy (k8 _ o Iy (k7 _ o Iy e))))))),r⟩
 have:=hQ sE.heap sE.toks I k k' Fr LW itE H' Ji.sl Ji.tk
 rw [Ji.same]
 exact this
end
section
variable{Q:Flow->Shared->Prop}
theorem C9{a:Nat}{t:Stmt}(PB:List (Str×Value)->Heap->Prop)(ch:List Nat){n:Nat}
  (r:Room A (n+1)) (bt:Bt K B s.heap) (f:FnAt s.heap a t qual EM EK) (t0:0<s.toks) (D0:A.frames=some fr) (stk:StkOk fr s.heap) (offB:∀L∈d4 fr,B.get? L=none)
  (D7:∀pm cd doc (E:Value->Shared->Prop) (Q:List (Str×Value)->Shared->Prop),(∀binds hb tb,PB binds hb->Gr s.heap hb->s.toks<=tb->Q binds {s with heap:=hb,toks:=tb})->wpAny (model prog w) A.in1 (bindArgs (pX t qual EM EK pm cd doc) args) Q E s)
  (Ec:∀binds hb,PB binds hb->(∀x∈binds,(aZ t).names.lookup x.1=some .local)/\∀p∈binds,bindL (λx=>(aZ t).names.lookup x) binds (λ_=>none) p.1=some p.2) (H6:cellsFrom 0 (aZ t).names []=[])
  (h:∀env C' binds hb,PB binds hb->Gr s.heap hb->Up hb C'.heap->@Eq Nat env.locals hb.objs.size->Ws (A.deeper env) B s fr env->Wk K B s fr env (scB binds) ch C'->Room (A.deeper env) n->(∃pm cd doc,env=ky t qual EM EK a hb.objs.size pm cd doc) ->
   wpAny (model prog w) (A.deeper env) (execs (gR t) env) (λf s'=>R (.ok (.ret (match f with|.ret v=>v|_=>.none))) s')
    (λe s'=>wpAny (model prog w) (A.deeper env) (leaving env e) (λ_ Ef=>R (.error e) Ef) (λe' Ef=>R (.error e') Ef) s') C')
  (F5:(aZ t).isCoroutine=false:=by rfl) (EV:(aZ t).isGenerator=false:=by rfl) (hk:(aZ t).kind=.function:=by rfl):
  codeAny (model prog w) A (.call (.ref a) args) R s:=by
 refine Bw (PB:=PB) r bt f t0 D7 Ec H6 ?_ F5 EV hk
 rintro pm cd doc b hb C' env pb FC he DO gr tk Ei ro kr Ho fx
 have hl:@Eq Nat env.locals hb.objs.size:=by rw [he];rfl
 have Et:env.locals=hb.objs.size:=hl
 rw [<-Et] at fx
 have EY:env.frame=some env.locals:=by rw [he];rfl
 have frlt:∀L∈d4 fr,L<s.heap.objs.size:=λL hL=>by
  refine ci (cO.mp hL) λev Ez GY=>?_
  obtain⟨_,L',m,b',n⟩:=stk ev Ez
  rw [GY] at b';cases b'
  exact wh n
 have hz:=FC.sz
 have g2:=FC.trans gr
 exact h env C' b hb pb FC gr.up hl ⟨by rw [he];exact hk,DO,bX 0xab1ca910b910 s.heap.objs.size hb.objs.size env.locals rfl hz hl,EY,r.hand,fA D0,offB,bt.sz,frlt⟩ ⟨fx,ScalΓ.binds b,Sl.of_gr g2,Ho,Ei,tk,stk.up g2.up⟩ ro ⟨pm,cd,doc,he⟩
theorem zR{l b:Nat}{Q:Value->Shared->Prop}(hl:s.heap.IsTuple l items)(hb:s.heap.IsTuple b #[])(DY:¬items.isEmpty=true)(hQ:Q (.ref l) s):wpAny (model prog w) A (binaryOp .Add (.ref l) (.ref b)) Q E s:=by
 obtain⟨⟨cls,dd,data,sl⟩,ho,hc,n,hd⟩:=id hl
 obtain⟨⟨Km,HD,data2,Eu⟩,Fb,Gv,n2,Fs⟩:=id hb
 simp only at hc hd Gv Fs
 subst hc hd Gv Fs
 exact concat_meets ⟨_,ho,rfl⟩ ⟨_,Fb,rfl⟩ noFill_tuple_add seq_tuple_add PySem.F.slot_tuple_add PySem.F.entry_tuple_add (PySem.F.args_tuple_add_2 _ _) (tuple_addW1 l b items #[] n n2 dd HD sl Eu DY rfl) ⟨ho,Fb,hQ⟩
theorem tT{x:Nat}{k:Tok}(r:Room A 5)(bt:Bt K B s.heap)(t0:0<s.toks)(D0:A.frames=some fr)(stk:StkOk fr s.heap)(offB:∀L∈d4 fr,B.get? L=none)
    (gx:SlotF fr s.heap x 267 #[]) (hx:B.objs.size<=x)
    (hQ:∀h' t' (T:Nat),SlotF fr h' x 267 #[some (.ref T)]->h'.IsTuple T #[.int 0 k]->s.heap.objs.size<=T->Sl [x] fr s.heap h'->s.toks<=t'->R (.ok (.ret .none)) {s with heap:=h',toks:=t'}):
    codeAny (model prog w) A (.call (.ref 242) ⟨[.ref x,.int 0 k],[]⟩) R s:=by
  refine C9 (λb hb=>∃T:Nat,b=[(("self":Str),aM x),(("item":Str),dH 0 k),(("items":Str),aM T)]/\hb.IsTuple T #[]/\s.heap.objs.size<=T) [x] r bt ((bt.kr.up bt.up).fn 242 (me 14 1) "itemgetter.__init__" .none .none (co (by kernel_rfl))) t0 D0 stk offB (λpm cd doc E' Q' hq=>?_)
    (by rintro _ _ ⟨T,rfl,_,_⟩;exact⟨(fQ rfl (fQ rfl (fQ rfl lS))),(fQ rfl (fQ rfl (fQ rfl lS)))⟩) rfl ?_
  · have e:bindArgs (pX (me 14 1) "itemgetter.__init__" .none .none pm cd doc) ⟨[.ref x,.int 0 k],[]⟩=(do
        let T <-newTuple []
        pure [(("self":Str),aM x),(("item":Str),dH 0 k),(("items":Str),T)]):=rfl
    rw [e]
    refine aa (cW ?_ (by size_fits))
    exact ai (hq _ _ _ ⟨_,rfl,⟨_,am _ rfl,rfl,_,rfl⟩,ag _⟩ (Gr.push _ _) (ag _))
  rintro env C' b hb ⟨T,rfl,hT,OX⟩ FC up1 hL ws wk ro ⟨pm,cd,doc,he⟩
  refine yM λE'=>?_
  have hk:=ws.hk
  have DX:=ws.ge
  have G0:=(gx.up FC.up).up up1
  have D9:x<env.locals:=ad gx.lt ws.ge
  have OZ:C'.heap.IsTuple T #[]:=hT.at λo e=>up1 _ o e
  refine wz (K:=K) (x:=x) (Γ:=scB [(("self":Str),aM x),(("item":Str),dH 0 k),(("items":Str),aM T)]) (ch:=[x]) (vs:=#[]) 0 ws ?_ rfl (.head _) hx (by decide +kernel) (C:=267) (pp:=268) (i:=0) (by decide +kernel) (by decide) rfl
  refine fz (Ev.run (eX (ds:=[.is (.int 0 k)]) (bk (wk.is ws 1 rfl).is ec) (show 1<=sizeLine by decide)) wk.fx.fx wk.t λva h2 t2 u2 l2 DJ=>?_)
  refine fL (At.tup.mp DJ) λP items Dz hP DQ Dw=>?_;subst Dz
  have hit:items=#[.int 0 k]:=by
    have:items.toList=[.int 0 k]:=by
      revert Dw
      generalize items.toList=l
      intro Dw
      match l,Dw with
      |[v1],Dw=>rw [Dw.1]
      |[],Dw=>simp [aN,aC,aL,aR] at Dw
      |_::_::_,Dw=>simp [aN,aC,aL,aR] at Dw
    exact eR.mp this
  subst hit
  have DL:=wk.gr ws u2 l2
  refine Ev.run (an (cu 2 rfl hk)) DL.fx.fx DL.t λvb h3 t3 u3 l3 p3=>?_
  replace p3:=At_is p3
  subst p3
  have DS:=DL.gr ws u3 l3
  refine zR (s:={C' with heap:=h3,toks:=t3}) (DQ.at λo e=>u3.up _ o e) ((OZ.at λo e=>u2.up _ o e).at λo e=>u3.up _ o e) (by simp) ?_
  refine⟨DS,(G0.up u2.up).up u3.up,?_⟩
  intro s4 s5 u4 DT Gj k5
  have hP':@iC Nat _ C'.heap.objs.size P:=hP
  have FU:@iC Nat _ (env.locals+1) C'.heap.objs.size:=wk.los
  have hPx:¬P=x:=λq=>by have q':@Eq Nat P x:=q;exact dh 0x19621711a210a9149c1a x env.locals C'.heap.objs.size P rfl D9 FU hP q
  refine aH ?_
  have:=hQ s5.heap s5.toks P Gj (DQ.at λo e=>k5 _ o hPx (u4.up _ o (u3.up _ o e))) (dh 0x19621711a210a910c910 s.heap.objs.size env.locals C'.heap.objs.size P rfl DX FU hP) DT.sl DT.tk
  rw [DT.same]
  exact this
end
theorem so{a b:Expr}{rest:List Expr}{pos:Pos}{T:TT}(hl:Lows T)(ha:Ev w A env G a (tV (pB true)))(hb:Ev w A env G (.BoolOp .And (b::rest) pos) T):Ev w A env G (.BoolOp .And (a::b::rest) pos) T:=by
 intro s Q E g t hQ
 refine BoolOp_and (ha s _ _ g t λva h1 t1 u1 l1 Dv=>?_)
 have FI:va=.bool true:=Dv
 subst FI
 refine dq ?_
 exact hb _ _ _ (G.up u1.up g) (ad t l1) λv h2 t2 u2 l2 DD=>hQ v h2 t2 (u1.trans u2) (ab l1 l2) (hl _ _ _ _ u1.sz DD)
theorem uZ{a:Expr}{op:BoolOp}{pos:Pos}{T:TT}(ha:Ev w A env G a T):Ev w A env G (.BoolOp op [a] pos) T:=λs Q E g t hQ=>BoolOp_one (ha s Q E g t hQ)
theorem tZ{a b:Expr}{pos:Pos}{p q:Bool}(ha:EvT w A env G a p)(hb:p=false->EvT w A env G b q):EvT w A env G (.BoolOp .Or [a,b] pos) (p||q):=by
 intro s Q E g t hQ
 refine isTrue_or (ha s _ _ g t λh1 t1 u1 l1=>?_)
 cases p with
 |true=>exact hQ h1 t1 u1 l1
 |false =>
  refine isTrue_or ((hb rfl) _ _ _ (G.up u1.up g) (ad t l1) λh2 t2 u2 l2=>?_)
  cases q with
  |true=>exact hQ h2 t2 (u1.trans u2) (ab l1 l2)
  |false=>exact isTrue_or_nil (hQ h2 t2 (u1.trans u2) (ab l1 l2))
theorem Dl(i j:Int):CmR w A .LtE (pI i) (pI j) (decide (i<=j)):=by
 rintro s _ _ Q E ht ⟨t,_,rfl⟩ ⟨u,_,rfl⟩ hQ
 exact PySem.P.le_int hQ
theorem yj{X:String}:CmR w A .Is (·=.type X) (·=.type X) true:=by
 rintro s _ _ Q E ht rfl rfl hQ
 exact wpAny_is_self rfl hQ
theorem Bu{v:Value}{pos:Pos}(l:Gl env G x v):Ev w A env G (.Name x pos) (tV (·=v)):=λs Q E g t hQ=>cC l g (hQ v s.heap s.toks (Gr.refl _) (ag _) rfl)
theorem zm{i:Int}{k:Tok}(r:Room A 2)(kn:Kn s.heap)(t0:0<s.toks)(hQ:∀v h' t',Gr s.heap h'->s.toks<=t'->pI 0 v->Q v {s with heap:=h',toks:=t'}):
  wpAny (model prog w) A (call (.ref 181) [.int i k]) Q E s:=by
 refine jO (n:=1) r (kn.fn 181 (st 11) "_count_kind" .none .none (co (by kernel_rfl))) kn.nl (binds:=[("x",.int i k)]) (λ_ _ _=>rfl)
  (fQ (.inl rfl) lS) (by decide) λpm cd doc C' env he gr tk Ei ro fm top E=>?_
 have fx:Fx s env (s.heap.objs.size+1+nC (aZ (st 11)).names) [] [("x",.is (.int i k))] C':=by
  subst he
  exact il Ei t0 tk top fm (sO _ rfl rfl (.inl At_rfl) mr)
 generalize DZ:s.heap.objs.size+1+nC (aZ (st 11)).names=lo at fx
 have hk:env.scope.kind=.function:=by subst he;rfl
 have lt:env.kindOf "t"=some .local:=by subst he;rfl
 have gl:∀{x v ex Γ lo},(x=("type":Str)/\v=d6 "type")\/(x=("int":Str)/\v=d6 "int")\/(x=("bool":Str)/\v=d6 "bool")->Gl env (hO s.heap env lo ex Γ) x v:=by
  rintro x v ex Γ lo (⟨rfl,rfl⟩|⟨rfl,rfl⟩|⟨rfl,rfl⟩)<;>subst he<;>exact glF kn (.inr (co (by kernel_rfl)))
 refine nV (d:=.is (.type "int")) fx (Ev.is (v:=.type "int") ?_) rfl hk lt rfl λDs ES k2=>?_
 ·intro s' Q' E' g t hq
  refine aK (cC (gl (.inl ⟨rfl,rfl⟩)) g ?_)
  refine cE rfl (aE (ar (an (cu 0 rfl hk) rfl s' _ _ g t λnv h1 t1 u1 l1 Dv=>aA ?_)))
  replace Dv:=At_is Dv
  subst Dv
  exact call_type_of (jm _ _ _) (by decide) (hq _ h1 t1 u1 l1 rfl)
 refine z8 ES ((tZ (p:=true) (q:=true) (fJ yj (Ev.eq (an (cu 0 rfl hk))) (Bu (gl (.inr (.inl ⟨rfl,rfl⟩))))) (λh=>nomatch h)).cast rfl) λh3 t3 u3 l3 Fi=>?_
 refine mn (T:=tV (pI 0)) Fi br (Lows.v _) λv h' t' u' l' hv=>hQ v h' t' u' l' hv
section
variable{Q:Flow->Shared->Prop}
theorem xO{pos:Pos}{i:Int}{k:Tok}(r:Room A 2)(l:Gl env G "_count_kind" (.ref 181))(hG:∀h,G.p h->Kn h)(he:Ev w A env G e (tV (·=.int i k)))(Eb:starEach [e] env=[(false,eval e env)]:=by rfl):
  Ev w A env G (.Call (.Name "_count_kind" p) [e] [] pos) (tV (pI 0)):=by
 intro s Q E g t hQ
 refine aK (cC l g ?_)
 rw [Eb]
 refine zC ((hG _ g).fn 181 (st 11) "_count_kind" .none .none (co (by kernel_rfl))) λo pm cd doc ho hd _=>?_
 refine b7 (o:=o) (aE (ar (he s _ _ g t λva h1 t1 u1 l1 Dv=>aA ⟨⟨u1.up _ _ ho,hd⟩,?_⟩)))
 have FI:va=.int i k:=Dv
 subst FI
 exact zm (s:={s with heap:=h1,toks:=t1}) r (hG _ (G.up u1.up g)) (ad t l1) λv h' t' u' l' hv=>hQ v h' t' (u1.trans u') (ab l1 l') hv
theorem v7{x:Nat}(r:Room A 5)(bt:Bt K B s.heap)(t0:0<s.toks)(D0:A.frames=some fr)(stk:StkOk fr s.heap)(offB:∀L∈d4 fr,B.get? L=none)
  (gx:SlotF fr s.heap x 222 #[]) (hx:B.objs.size<=x)
  (hQ:∀h' t' k k2 fst,k≠0->k2≠0->SlotF fr h' x 222 #[some (.int 0 k),some fst,some (.int 1 k2)]->Sl [x] fr s.heap h'->s.toks<=t'->R (.ok (.ret .none)) {s with heap:=h',toks:=t'}):
  codeAny (model prog w) A (.call (.ref 197) ⟨[.ref x],[]⟩) R s:=by
 refine uh ((bt.kr.up bt.up).d190) λd1 d2 Iw Fs hd=>?_
 refine ci (bt.kr.mx) λmt RP OJ=>?_
 refine vd [(("self":Str),aM x),(("start":Str),dH 0 d1),(("step":Str),dH 1 d2)] [x] r bt ((bt.kr.up bt.up).fn 197 (me 12 1) "count.__init__" (.ref 190) .none (co (by kernel_rfl))) t0 D0 stk offB (λ_ _ _=>let ⟨_,ho,_,_,hs⟩:=hd;BindsTo.of_defaults (T:=190) rfl ho hs rfl rfl)
  ⟨(fQ rfl (fQ rfl (fQ rfl lS))),(fQ rfl (fQ rfl (fQ rfl lS)))⟩ rfl ?_
 rintro env C' ws wk ro ⟨pm,cd,doc,he⟩ up1
 refine yM λE'=>?_
 have hk:=ws.hk
 have DX:=ws.ge
 have G0:=gx.up up1
 have D9:x<env.locals:=ad gx.lt ws.ge
 have glK:∀{Γ h},Wk K B s fr env Γ [x] h->Gl env (ni env Γ h.heap) "_count_kind" (.ref 181):=λwk=>by subst he;exact wk.gl ws (.inl (co (by kernel_rfl))) rfl rfl rfl rfl
 have knW:∀{Γ h},Wk K B s fr env Γ [x] h->∀h',(ni env Γ h.heap).p h'->Kn h':=λwk h' z9=>(wk.kr ws).kn.up (FxH.bs z9)
 have NK:∀{Γ h},Wk K B s fr env Γ [x] h->Gl env (ni env Γ h.heap) "_MAXSIZE" (.int 0x7fffffffffffffff mt):=fun{Γ h} wk=>by
  have Gw:=ws.bsz
  have Vh:GV (bsO h.heap env) "_MAXSIZE" (.int 0x7fffffffffffffff mt):=OJ.up λb o q=>by
   have hb:=iF q
   rw [jj _ _ _ b (by exact dh 0x174219629522911c2914 b B.objs.size x env.locals rfl hb D9 hx) (λz=>by have z':@Eq Nat b env.locals:=z;exact dh 0xbc149b10a914ac1e x env.locals B.objs.size b rfl D9 hx hb z)]
   exact wk.bt.up b o q
  subst he
  exact⟨rfl,rfl,rfl,rfl,λh' z9=>Vh.up (FxH.bs z9),rfl⟩
 have lc:∀y,y=("k_start":Str)\/y=("k_step":Str)\/y=("fast":Str)\/y=("start":Str)->env.kindOf y=some .local:=by subst he;rintro y (rfl|rfl|rfl|rfl)<;>rfl
 refine nJ (d:=.int 0) ws wk (Ev.nint (xO (ro.le (by decide)) (glK wk) (knW wk) (wk.is ws 1 rfl))) rfl rfl (lc _ (.inl rfl)) rfl λDs DL k₂=>?_
 refine nJ (d:=.int 0) ws DL (Ev.nint (xO (ro.le (by decide)) (glK DL) (knW DL) (DL.is ws 3 rfl))) rfl rfl (lc _ (.inr (.inl rfl))) rfl λs3 DS k3=>?_
 refine ot ws DS ((tZ (p:=false) (q:=false) ((fJ (uq 0 2) (Ev.int (an (cu 1 rfl hk))) br).cast rfl) (λ_=>(fJ (uq 0 2) (Ev.int (an (cu 0 rfl hk))) br).cast rfl)).cast rfl) λs4 DR u4=>?_
 refine nJ (d:=.bool true) ws DR (Ev.nbool (so (Lows.v _) ((mB (uq 0 0) (Ev.int (an (cu 1 rfl hk))) br).mono λ_ _ _ h=>h) (so (Lows.v _) ((mB (uq 0 0) (Ev.int (an (cu 0 rfl hk))) br).mono λ_ _ _ h=>h)
  (so (Lows.v _) ((mB (uq 1 1) ((DR.is ws 4 rfl).mono λ_ _ _ h=>⟨d2,Fs,h⟩) br).mono λ_ _ _ h=>h)
  (so (Lows.v _) ((mB (Dl (-0x7fffffffffffffff-1) 0) (bH (gV _ _) (nW ((Bu (NK DR)).mono λ_ _ _ h=>⟨mt,RP,h⟩)) br) ((DR.is ws 3 rfl).mono λ_ _ _ h=>⟨d1,Iw,h⟩)).mono λ_ _ _ h=>h)
  (uZ ((mB (Dl 0 0x7fffffffffffffff) ((DR.is ws 3 rfl).mono λ_ _ _ h=>⟨d1,Iw,h⟩) ((Bu (NK DR)).mono λ_ _ _ h=>⟨mt,RP,h⟩)).mono λ_ _ _ h=>h))))))) rfl rfl (lc _ (.inr (.inr (.inl rfl)))) rfl λs5 DT k5=>?_
 refine pQ ws DT (qJ (cu 0 rfl hk)) λDI D5 u6=>?_
 have pk:=D5.pick [0,3,5]
 refine au (bu (Ev.run (bH (je 0 0) ((D5.is ws 4 rfl).mono λ_ _ _ h=>⟨d1,Iw,h⟩) br) D5.fx.fx D5.t λv h7 t7 u7 l7 hv=>?_) rfl)
 have D8:=pk.gr ws u7 l7
 refine D8.store ws (d:=.int 0) (At_int.mpr hv) rfl rfl (lc _ (.inr (.inr (.inr rfl)))) λs8 EP k8 _=>?_
 refine aH ?_
 have ss:∀{h h':Heap},KpL env h h'->SlotF fr h x 222 #[]->SlotF fr h' x 222 #[]:=λk s=>s.keep D9 λb o hb q=>k b o (mh hb) q
 have Pi:SlotF fr s8.heap x 222 #[]:=ss k8 ((((ss k5 ((ss k3 (ss k₂ G0)).up u4.up)).up u6.up)).up u7.up)
 refine ek (λv=>#[none,some v]) (P:=pB true) 2 ws EP (λ_=>rfl) (Ev.bool (an (cu 1 rfl hk))) rfl Pi D9 (.head _) hx (by decide +kernel) (C:=222) (pp:=224) (i:=1) (by decide +kernel) (by decide) rfl λv F9 hv FH Ph Fz=>?_
 subst hv
 refine ek (λv=>#[some v,some (.bool true)]) (P:=pI 0) 2 ws FH (λ_=>rfl) (Ev.int (an (cu 0 rfl hk))) rfl Ph D9 (.head _) hx (by decide +kernel) (C:=222) (pp:=223) (i:=0) (by decide +kernel) (by decide) rfl λv sA hv FY Pg kA=>?_
 refine ci (hv) λk FL Dz=>?_;subst Dz
 refine ek (λv=>#[some (.int 0 k),some (.bool true),some v]) (P:=(·=.int 1 d2)) 2 ws FY (λ_=>rfl) (FY.is ws 3 rfl) rfl Pg D9 (.head _) hx (by decide +kernel) (C:=222) (pp:=225) (i:=2) (by decide +kernel) (by decide) rfl λv sB hv Fv Pf kB=>?_
 subst hv
 refine aH ?_
 have:=hQ sB.heap sB.toks k d2 (.bool true) FL Fs Pf Fv.sl Fv.tk
 rw [Fv.same]
 exact this
end
theorem slot_map_next:Slot "map" "__next__" "map.__next__" :=
 .of (owner:="map") (n:="__next__") (by rw [typeLookup_type,builtinLookup_eq_fast];kernel_rfl) (by decide +kernel) (by decide +kernel) (by decide +kernel) (by first|exact .inl (by decide +kernel)|exact .inr (by decide +kernel)) (by rw [isSubtype_type];kernel_rfl)
theorem mS:Slot "map" "__iter__" "map.__iter__" :=
 .of (owner:="map") (n:="__iter__") (by rw [typeLookup_type,builtinLookup_eq_fast];kernel_rfl) (by decide +kernel) (by decide +kernel) (by decide +kernel) (by first|exact .inl (by decide +kernel)|exact .inr (by decide +kernel)) (by rw [isSubtype_type];kernel_rfl)
theorem qx:Slot "map" "__init__" "object.__init__" :=
 .of (owner:="object") (n:="__init__") (by rw [typeLookup_type,builtinLookup_eq_fast];kernel_rfl) (by decide +kernel) (by decide +kernel) (by decide +kernel) (by first|exact .inl (by decide +kernel)|exact .inr (by decide +kernel)) (by rw [isSubtype_type];kernel_rfl)
theorem mE:entryFor table "map.__next__"=some Builtin.«map.__next__»:=entryFor_of_tree (by kernel_rfl)
theorem qN:entryFor table "map.__new__"=some Builtin.«map.__new__»:=entryFor_of_tree (by kernel_rfl)
theorem pJ:entryFor table "map.__iter__"=some Builtin.«dict_keyiterator.__iter__» :=
 entryFor_alias (id':="dict_keyiterator.__iter__") (by kernel_rfl) (by first|rfl|decide +kernel|(unfold String.splitOn;simp +decide [String.splitOnAux])) (by decide +kernel) (by kernel_rfl)
theorem nh(a:Value):argsOk "map.__next__" ⟨[a],[]⟩:=by unfold argsOk;kernel_rfl
theorem rg(a:Value):argsOk "map.__iter__" ⟨[a],[]⟩:=by unfold argsOk;kernel_rfl
theorem xl:mroOf (.type "map")=pure [.type "map",.type "object"]:=by rw [mroOf_type];kernel_rfl
theorem pG:typeLookup (.type "map") "__new__"=pure (some (.builtin "map.__new__")):=by rw [typeLookup_type,builtinLookup_eq_fast];kernel_rfl
theorem wK:isSubtype (.type "map") (.type "map")=pure true:=by rw [isSubtype_type];kernel_rfl
theorem v9:TypeCalled "map" "map.__new__" "object.__init__" :=
 ⟨by decide +kernel,by decide +kernel,⟨_,_,xl⟩,madeBy_type xl pG (by decide +kernel),by decide +kernel,wK,qx⟩
theorem ru(a b:Value):checkTypeCall "map" ⟨[a,b],[]⟩=pure ():=by kernel_rfl
theorem tK(a b:Value):checkBuiltinCall "map.__new__" ⟨[.type "map",a,b],[]⟩=pure ():=by kernel_rfl
noncomputable def IsMap(h:Heap)(M LI F:Nat):Prop:=∃(TI:Nat) (n:Nat),TI<M/\h.get? M=some {cls:=.type "map",data:=.fields #[.ref TI,.ref F]}/\h.get? TI=some {cls:=.type "tuple",data:=.seq #[.ref LI] n}
theorem zn{M F:Nat}(hm:IsMap s.heap M LI F)(h:Q (.ref M) s):wpAny (model prog w) A (pyIter (.ref M)) Q E s:=by
 refine uh (hm) λTI n _ hz _=>?_
 have hT:s.TypeIs (.ref M) "map":=⟨_,hz,rfl⟩
 refine wpAny_pyIter_slot hT mS (c8 mS hT pJ ?_ (rg _))
 exact ai ⟨_,rfl,"map",_,hT,slot_map_next.lookup,h⟩
theorem qC(f l:Nat)(xs:Array Value):
  Meets (Builtin.«map.__new__» ⟨[.type "map",.ref f,.ref l],[]⟩) (λ_ R s=>s.heap.IsList l xs /\
   R (.ok (.ret (.ref (s.heap.objs.size+2)))) {s with heap:=((s.heap.push {cls:=.type "list_iterator",data:=.fields #[.ref l,.int 0 0]}).push {cls:=.type "tuple",data:=.seq #[.ref s.heap.objs.size]}).push {cls:=.type "map",data:=.fields #[.ref (s.heap.objs.size+1),.ref f]}}):=
 .of_wp λprog w A R s h=>by
  obtain⟨hp,g,d,tk,os⟩:=s;obtain⟨FB,h⟩:=h
  have HL:=wK
  have hL1:Heap.IsList (Shared.heap ⟨hp,g,d,tk,os⟩) l xs:=FB
  have z1:(hp.push {cls:=.type "list_iterator",data:=.fields #[.ref l,.int 0 0]}).objs.size=hp.objs.size+1:=ao ..
  have z2:((hp.push {cls:=.type "list_iterator",data:=.fields #[.ref l,.int 0 0]}).push {cls:=.type "tuple",data:=.seq #[.ref hp.objs.size]}).objs.size=hp.objs.size+2:=by rw [ao,z1]
  wp_walk using cT hL1
  refine⟨_,rfl,?_⟩
  dsimp only at h
  simp only [z1,z2] at h ⊢
  first|exact h|(rw [<-z2] at h;exact h)
theorem Room.in1{n:Nat}(r:Room A (n+1)):Room A.in1 n:=⟨by have:=r.depth;show A.depth+n<recursionLimit;exact y_86 this,by have:=r.units;show A.units+1+10*n<cLine;exact y_69 this,r.hand⟩
theorem oJ{M F l:Nat}(hm:IsMap s.heap M LI F)(hit:s.heap.IsListIter LI l i)(hl:s.heap.IsList l items)(hx:items[i]?=some row)(DY:M≠LI)
  (hF:∀h',h'.IsListIter LI l (i+1)->Heap.SameBut LI s.heap h'->wpAny (model prog w) A.in1 (call (.ref F) [row]) Q E {s with heap:=h'}):
  wpAny (model prog w) A (dc (.ref M)) Q E s:=by
 refine uh (hm) λTI n LR hz KZ=>?_
 have hT:s.TypeIs (.ref M) "map":=⟨_,hz,rfl⟩
 refine aa (cq (name:=cF "__next__") hT slot_map_next
  (c8 slot_map_next hT mE ?_ (nh _)))
 show wpAny _ _ (field (.ref M) 0 >>= _) _ _ s
 refine aa (bS hz rfl (x:=.ref TI) rfl ?_)
 refine aa (bN KZ rfl ?_)
 refine aa (aa (aa (bp (wpAny_nextOf_list_item hit hl hx λh1 Ll IQ=>ai (ai ?_)))))
 refine aa (bS (IQ.extBut M _ DY hz) rfl (x:=.ref F) rfl ?_)
 refine aa (bp (bb (hF h1 Ll IQ) (λv Ds hq=>?_) λ_ _ x=>x))
 exact aa (lU (ai ⟨v,rfl,ai hq⟩))
theorem nZ{it l:Nat}(hh:A.handled=none)(hit:s.heap.IsListIter it l i)(hl:s.heap.IsList l items)(hx:items[i]?=none)
  (hE:∀h' e,(∀(b:Nat) o,¬b=it->s.heap.get? b=some o->h'.get? b=some o)->(∃o,h'.get? e=some o/\o.cls=.type "StopIteration")->s.heap.objs.size<=h'.objs.size->(∃o,h'.get? it=some o)->E (.ref e) {s with heap:=h'}):
  wpAny (model prog w) A (dc (.ref it)) Q E s:=by
 refine kF (id hit) λo ho hc hd=>?_
 obtain⟨ol,Jv,_,nl,JA⟩:=hl
 refine aa (cq (name:=cF "__next__") hit.typeIs slot_listiter_next
  (c8 slot_listiter_next hit.typeIs eE ?_ (args_listiter_next _)))
 show wpAny _ _ (field (.ref it) 0 >>= _) _ _ s
 refine aa (bS ho hd (x:=.ref l) rfl ?_)
 refine aa (bS ho hd (x:=.int i 0) rfl ?_)
 refine aa (bN Jv JA ?_)
 simp only [er,hx]
 refine aa (dB (aa (gF ho hd (by simp) ?_)))
 refine aa ?_
 refine aa (ce ?_ (by size_fits))
 refine aa (m:=firstArgMember _ _) (cD (a:=eB) (by first|rfl|(simp only [firstArgMember];rfl)) ?_)
 refine ce ?_ (by size_fits)
 refine aa (jP ?_)
 have Jx:A.in1.handled=none:=hh
 rw [Jx]
 refine aa (ai (jH ?_))
 refine hE _ _ (λb o' hb e=>af _ (af _ ((bJ _ _ (λq=>hb q.symm)).trans e))) ⟨_,am _ rfl,rfl⟩ ?_ ⟨_,af _ (af _ (bv _ ho (d9 (dm hd _))))⟩
 rw [ao,ao,bQ];exact wv
theorem pE{M F l:Nat}(hh:A.handled=none)(hm:IsMap s.heap M LI F)(hit:s.heap.IsListIter LI l i)(hl:s.heap.IsList l items)(hx:items[i]?=none)
  (hE:∀h' e,(∀(b:Nat) o,¬b=LI->s.heap.get? b=some o->h'.get? b=some o)->(∃o,h'.get? e=some o/\o.cls=.type "StopIteration")->s.heap.objs.size<=h'.objs.size->(∃o,h'.get? LI=some o)->E (.ref e) {s with heap:=h'}):
  wpAny (model prog w) A (dc (.ref M)) Q E s:=by
 refine uh (hm) λTI n LR hz KZ=>?_
 have hT:s.TypeIs (.ref M) "map":=⟨_,hz,rfl⟩
 refine aa (cq (name:=cF "__next__") hT slot_map_next
  (c8 slot_map_next hT mE ?_ (nh _)))
 show wpAny _ _ (field (.ref M) 0 >>= _) _ _ s
 refine aa (bS hz rfl (x:=.ref TI) rfl ?_)
 refine aa (bN KZ rfl ?_)
 exact aa (aa (aa (bp (nZ hh hit hl hx λh1 e IQ he sz th=>hE h1 e IQ he sz th))))
theorem vV{x f:Nat}{vs:Array (Option Value)}(sk:SK K)(X:K.In s.heap)(hx:SlotAt s.heap x C vs)(hm:(C,("__next__":Str),f)∈metTab)
  (h:wpAny (model prog w) A (call (.ref f) [.ref x]) Q E s):wpAny (model prog w) A (dc (.ref x)) Q E s:=by
 obtain⟨ox,I⟩:=hx.inst
 obtain⟨m1,m2⟩:=sk.me C _ f hm
 exact aa (special_fn (name:="__next__") (args:=[]) X I m1 m2 (bb h (λv s' hq=>ai hq) λ_ _ x=>x))
theorem uk{x:Nat}{n:Int}{k k2:Tok}{fst:Value}(r:Room A 4)(bt:Bt K B s.heap)(t0:0<s.toks)(D0:A.frames=some fr)(stk:StkOk fr s.heap)(offB:∀L∈d4 fr,B.get? L=none)
  (gx:SlotF fr s.heap x 222 #[some (.int n k),some fst,some (.int 1 k2)]) (hx:B.objs.size<=x) (hk:k≠0) (Ff:k2≠0)
  (hQ:∀h' t' k',k'≠0->SlotF fr h' x 222 #[some (.int (n+1) k'),some fst,some (.int 1 k2)]->Sl [x] fr s.heap h'->s.toks<=t'->Q (.int n k) {s with heap:=h',toks:=t'}):
  wpAny (model prog w) A (call (.ref 211) [.ref x]) Q E s:=by
 refine cw (oZ [(("self":Str),aM x)] [x] r bt ((bt.kr.up bt.up).fn 211 (me 12 3) "count.__next__" .none .none (co (by kernel_rfl))) t0 D0 stk offB (λ_ _ _=>rfl)
  ⟨(fQ rfl lS),(fQ rfl lS)⟩ rfl ?_)
 rintro env C' ws wk ro ⟨pm,cd,doc,he⟩ up1
 refine yM λE'=>?_
 have DX:=ws.ge
 have G0:=gx.up up1
 have D9:x<env.locals:=ad gx.lt ws.ge
 have lv:env.kindOf "value"=some .local:=by subst he;rfl
 refine nJ (d:=.is (.int n k)) ws wk (wk.attr ws 0 rfl G0 D9 (by decide +kernel) (C:=222) (pp:=223) (i:=0) (v:=.int n k) (by decide +kernel) rfl rfl).is rfl rfl lv rfl λDs DL k₂=>?_
 have Fw:SlotF fr Ds.heap x 222 _:=G0.keep D9 λb o hb q=>k₂ b o (mh hb) q
 refine ek (λv=>#[some v,some fst,some (.int 1 k2)]) (P:=pI (n+1)) 1 ws DL (λ_=>rfl) (bH (je n 1) ((DL.is ws 0 rfl).mono λ_ _ _ h=>⟨k,hk,h⟩) ((DL.attr ws 1 rfl Fw D9 (by decide +kernel) (C:=222) (pp:=225) (i:=2) (v:=.int 1 k2) (by decide +kernel) rfl rfl).mono λ_ _ _ h=>⟨k2,Ff,h⟩)) rfl Fw D9 (.head _) hx (by decide +kernel) (C:=222) (pp:=223) (i:=0) (by decide +kernel) (by decide) rfl λv s3 hv DS Gk k3=>?_
 refine ci (hv) λk' Fr Dz=>?_;subst Dz
 refine uu (T:=tV (·=.int n k)) ws DS (DS.is ws 0 rfl) λv h' t' u' l' hv DR=>?_
 have FJ:v=.int n k:=hv
 subst FJ
 have:=hQ h' t' k' Fr (Gk.up u'.up) DR.sl DR.tk
 rw [DS.same]
 exact this
noncomputable abbrev BN(h:Heap)(M C:Nat):Heap:=((h.push {cls:=.type "tuple",data:=.seq #[.ref M,.ref C]}).push {cls:=.type "tuple",data:=.seq #[.none,.none]}).push {cls:=.type "zip",data:=.fields #[.none,.bool false,.bool false,.ref h.objs.size,.ref (h.objs.size+1)]}
theorem tL(M LI F C:Nat):
  MeetsIn prog w (Builtin.«zip.__new__» ⟨[.type "zip",.ref M,.ref C],[]⟩) (λA R s=>IsMap s.heap M LI F /\
   wpAny (model prog w) A.in1 (pyIter (.ref C)) (λv C'=>v=.ref C/\R (.ok (.ret (.ref (C'.heap.objs.size+2)))) {C' with heap:=BN C'.heap M C}) (λe s'=>R (.error e) s') s):=
 .of_wp λA R s h=>by
  obtain⟨hm,hc⟩:=h
  have HL:=sub_zip
  have step:wpAny (model prog w) A.in1 (do
    let DB <-Builtin.SmallTypes.iterAll [.ref M,.ref C]
    ret (<-Builtin.SmallTypes.newRecord (.type "zip") (Builtin.SmallTypes.ownedTupleFields ++ [.bool false,<-newTuple DB,<-newTuple (DB.map λ_=>.none)])))
    (λfin s'=>∃v,fin=.done (.ret v)/\R (.ok (.ret v)) s') (λe s'=>R (.error e) s') s:=by
   refine aa ?_
   refine aa (aa (aa (bp (zn hm (ai ?_)))))
   refine aa (aa (bp (bb hc (λv C' hv=>?_) λ_ _ x=>x)))
   obtain⟨rfl,hv⟩:=hv
   refine ai (ai (ai ?_))
   refine aa (cW ?_ (show 2<=sizeLine by decide))
   refine aa (cW ?_ (show 2<=sizeLine by decide))
   refine aa ?_
   show wpAny (model prog w) A.in1 (newObj (.type "zip") (.fields ([.none,.bool false,.bool false,.ref C'.heap.objs.size,.ref (C'.heap.push {cls:=.type "tuple",data:=.seq #[.ref M,.ref C]}).objs.size]:List Value).toArray)) _ _ _
   refine ce ?_ (by size_fits)
   refine ai ⟨_,rfl,?_⟩
   have z1:(C'.heap.push {cls:=.type "tuple",data:=.seq #[.ref M,.ref C]}).objs.size=C'.heap.objs.size+1:=ao ..
   have z2:((C'.heap.push {cls:=.type "tuple",data:=.seq #[.ref M,.ref C]}).push {cls:=.type "tuple",data:=.seq #[.none,.none]}).objs.size=C'.heap.objs.size+2:=by rw [ao,z1]
   have FJ:=hv
   unfold BN at FJ
   rw [<-z1,<-z2] at FJ
   exact FJ
  refine aa ?_
  refine aa (cD (a:=true) rfl ?_)
  refine aa (cD (a:=true) HL ?_)
  refine ai ?_
  exact step
theorem vY{vs:Array (Option Value)}(r:Room A 2)(bt:Bt K B s.heap)(t0:0<s.toks)(gx:SlotF fr s.heap C 222 vs)
  (hQ:∀h' t',Gr s.heap h'->s.toks<=t'->Q (.ref C) {s with heap:=h',toks:=t'}):wpAny (model prog w) A (pyIter (.ref C)) Q E s:=by
 have kr:=bt.kr.up bt.up
 refine qA (f:=204) (fn:=211) kr.sk kr.X gx.at (by decide +kernel) (by decide +kernel) ?_
 refine oV r bt (kr.fn 204 (me 12 2) "count.__iter__" .none .none (co (by kernel_rfl))) t0 rfl rfl (λ_ _ _=>rfl) λh' t' u l=>?_
 exact⟨rfl,gx.at.up u.up,kr.X.keeps u.up,hQ h' t' u l⟩
theorem wa{M F:Nat}{vs:Array (Option Value)}(r:Room A 4)(bt:Bt K B s.heap)(t0:0<s.toks)(hm:IsMap s.heap M LI F)(gx:SlotF fr s.heap C 222 vs)
  (hQ:∀(z TI TO:Nat) h' t',IsZip h' z TI TO .none->IsPair h' TI (.ref M) (.ref C)->IsPair h' TO .none .none->Gr s.heap h'->s.heap.objs.size<=TI->TI<TO->TO<z->z<h'.objs.size->s.toks<=t'->Q (.ref z) {s with heap:=h',toks:=t'}):
  wpAny (model prog w) A (call (.type "zip") [.ref M,.ref C]) Q E s:=by
 refine callType_newIn PySem.F.called_zip (by decide) (PySem.F.typeCall_zip_2 _ _) (PySem.F.newCall_zip_2 _ _) (λobj=>PySem.F.args_object_init_3 obj _ _) PySem.F.entry_zip_new (tL (w:=w) M LI F C) ⟨hm,?_⟩
 refine vY (r.in1.in1) bt t0 gx λh1 t1 u l=>?_
 refine⟨rfl,?_⟩
 have z1:(h1.push {cls:=.type "tuple",data:=.seq #[.ref M,.ref C]}).objs.size=h1.objs.size+1:=ao ..
 have z2:((h1.push {cls:=.type "tuple",data:=.seq #[.ref M,.ref C]}).push {cls:=.type "tuple",data:=.seq #[.none,.none]}).objs.size=h1.objs.size+2:=by rw [ao,z1]
 have g1:=am h1 (o:={cls:=.type "tuple",data:=.seq #[.ref M,.ref C]}) rfl
 have g2:=am (h1.push {cls:=.type "tuple",data:=.seq #[.ref M,.ref C]}) (o:={cls:=.type "tuple",data:=.seq #[.none,.none]}) rfl
 have g3:=am ((h1.push {cls:=.type "tuple",data:=.seq #[.ref M,.ref C]}).push {cls:=.type "tuple",data:=.seq #[.none,.none]}) (o:={cls:=.type "zip",data:=.fields #[.none,.bool false,.bool false,.ref h1.objs.size,.ref (h1.objs.size+1)]}) rfl
 rw [z1] at g2
 rw [z2] at g3
 have SH:=u.sz
 refine⟨⟨_,g3,rfl⟩,hQ (h1.objs.size+2) h1.objs.size (h1.objs.size+1) _ t1 g3 (af _ (af _ g1)) (af _ g2) ⟨λb o e=>af _ (af _ (af _ (u.up b o e))),by rw [ao,z2];exact b6 0x1522111221a22910 s.heap.objs.size h1.objs.size rfl SH⟩ ‹_› (ag _) (ag _) (by rw [ao,z2];exact vF) l⟩
structure ZD where
 l:Nat
 LI:Nat
 TM:Nat
 M:Nat
 C:Nat
 TI:Nat
 TO:Nat
 z:Nat
 F:Nat
 nM:Nat
 items:Array Value
 fst:Value
 k2:Tok
structure ZLt(D:ZD):Prop where
 a:D.l<D.LI
 b:D.LI<D.TM
 c:D.TM<D.M
 d:D.M+1<D.C
 e:D.C<D.TI
 f:D.TI<D.TO
 g:D.TO<D.z
noncomputable def oo(D:ZD)(f0 f1:Value):Obj:={cls:=.type "zip",data:=.fields #[f0,f1,.bool false,.ref D.TI,.ref D.TO]}
noncomputable def yH(a b:Value):Obj:={cls:=.type "tuple",data:=.seq #[a,b]}
structure ZH(D:ZD)(fr:List Env)(i:Nat)(c:Int)(k:Tok)(oz DW:Obj)(h:Heap):Prop where
 z:h.get? D.z=some oz
 TI:IsPair h D.TI (.ref D.M) (.ref D.C)
 TO:h.get? D.TO=some DW
 M:h.get? D.M=some {cls:=.type "map",data:=.fields #[.ref D.TM,.ref D.F]}
 TM:h.get? D.TM=some {cls:=.type "tuple",data:=.seq #[.ref D.LI] D.nM}
 LI:h.IsListIter D.LI D.l i
 l:h.IsList D.l D.items
 C:SlotF fr h D.C 222 #[some (.int c k),some D.fst,some (.int 1 D.k2)]
section
variable{D:ZD}{i':Nat}{c':Int}{k k':Tok}{Le HJ:Obj}
theorem ZH.up(x:ZH D fr i c k oz DW h)(u:Up h h'):ZH D fr i c k oz DW h' :=
 ⟨u _ _ x.z,u _ _ x.TI,u _ _ x.TO,u _ _ x.M,u _ _ x.TM,ci x.LI λo e r=>⟨o,u _ _ e,r⟩,cU x.l λo=>u _ o,x.C.up u⟩
theorem ZH.isMap(lt:ZLt D)(x:ZH D fr i c k oz DW h):IsMap h D.M D.LI D.F:=⟨D.TM,D.nM,lt.c,x.M,x.TM⟩
theorem ZH.setz(lt:ZLt D)(x:ZH D fr i c k oz DW h)(z:h'.get? D.z=some Le)(u:∀(b:Nat) o,¬b=D.z->h.get? b=some o->h'.get? b=some o):ZH D fr i c k Le DW h':=by
 obtain⟨a,b,c,d,e,f,g⟩:=lt
 exact⟨z,u _ _ (bX 0xba14a914b91e D.TI D.TO D.z rfl f g) x.TI,u _ _ (mh g) x.TO,u _ _ (gk 0x1b829962974295119214d91e D.M D.C D.TI D.TO D.z rfl d e f g) x.M,u _ _ (mm 0x1da29b8299629711a214a914e91e D.TM D.M D.C D.TI D.TO D.z rfl c d e f g) x.TM,ci x.LI λo e r=>⟨o,u _ _ (y_660 b c d ‹_› f g) e,r⟩,cU x.l λo=>u _ o (y_664 a b c d e f g),⟨x.C.1,x.C.2.1,u _ _ (dh 0xcb14ba14a914c91e D.C D.TI D.TO D.z rfl e f g) x.C.2.2.1,u _ _ (gk 0x9d10cb14ba14a914cd1e D.C D.TI D.TO D.z (D.C-(1:Nat)) rfl e f g (cZ D.C (1:Nat))) x.C.2.2.2⟩⟩
theorem ZH.setTO(lt:ZLt D)(x:ZH D fr i c k oz DW h)(z:h'.get? D.TO=some HJ)(u:∀(b:Nat) o,¬b=D.TO->h.get? b=some o->h'.get? b=some o):ZH D fr i c k oz HJ h':=by
 obtain⟨a,b,c,d,e,f,g⟩:=lt
 exact⟨u _ _ (aB ‹_›) x.z,u _ _ (mh f) x.TI,z,u _ _ (dh 0x1962974295119214c91e D.M D.C D.TI D.TO rfl d e f) x.M,u _ _ (gk 0x1b8299629711a214a914d91e D.TM D.M D.C D.TI D.TO rfl c d e f) x.TM,ci x.LI λo e r=>⟨o,u _ _ (mm 0x1da29b829911b214ba14a914e91e D.LI D.TM D.M D.C D.TI D.TO rfl b c d ‹_› f) e,r⟩,cU x.l λo=>u _ o (oP 0x1fc29da29b11c214cb14ba14a914f91e D.l D.LI D.TM D.M D.C D.TI D.TO rfl a b c d e f),⟨x.C.1,x.C.2.1,u _ _ (bX 0xba14a914b91e D.C D.TI D.TO rfl e f) x.C.2.2.1,u _ _ (dh 0x9c10ba14a914bc1e D.C D.TI D.TO (D.C-(1:Nat)) rfl e f (cZ D.C (1:Nat))) x.C.2.2.2⟩⟩
theorem ZH.setLI(lt:ZLt D)(x:ZH D fr i c k oz DW h)(z:h'.IsListIter D.LI D.l i')(u:∀(b:Nat) o,¬b=D.LI->h.get? b=some o->h'.get? b=some o):ZH D fr i' c k oz DW h':=by
 obtain⟨a,b,c,d,e,f,g⟩:=lt
 exact⟨u _ _ (oP 0x1fc29da29b829911b214ba14a9149f1a D.LI D.TM D.M D.C D.TI D.TO D.z rfl b c d e f g) x.z,u _ _ (gk 0x1b829911b214ba14a9149d1a D.LI D.TM D.M D.C D.TI rfl b c d e) x.TI,u _ _ (mm 0x1da29b829911b214ba14a9149e1a D.LI D.TM D.M D.C D.TI D.TO rfl b c d e f) x.TO,u _ _ (bX 0xba14a9149b1a D.LI D.TM D.M rfl b c) x.M,u _ _ (aB ‹_›) x.TM,z,cU x.l λo=>u _ o (mh a),⟨x.C.1,x.C.2.1,u _ _ (dh 0x1382996295119214ba1a D.M D.C D.LI D.TM rfl d b c) x.C.2.2.1,u _ _ (gk 0x223a5421382996295119214bd1a D.M D.C D.LI D.TM (D.C-(1:Nat)) rfl d b c (fG D.C (1:Nat))) x.C.2.2.2⟩⟩
theorem ZH.setC(lt:ZLt D)(x:ZH D fr i c k oz DW h)(z:SlotF fr h' D.C 222 #[some (.int c' k'),some D.fst,some (.int 1 D.k2)])(sl:Sl [D.C] fr h h')(stk:StkOk fr h)(Lg:∀es ep,oz.data≠.dict es ep)(ndT:∀es ep,DW.data≠.dict es ep):ZH D fr i c' k' oz DW h':=by
 obtain⟨a,b,c,d,e,f,g⟩:=lt
 have u:∀(b:Nat) o,¬b=D.C->(∀es ep,o.data≠.dict es ep)->h.get? b=some o->h'.get? b=some o:=λb o hb hd q=>sl.kept b o (by simpa using hb) (dC stk q hd) q
 refine⟨u _ _ (dh 0xcb14ba14a9149c1a D.C D.TI D.TO D.z rfl e f g) Lg x.z,u _ _ (aB ‹_›) (λ_ _ q=>by cases q) x.TI,u _ _ (bX 0xba14a9149b1a D.C D.TI D.TO rfl e f) ndT x.TO,u _ _ (b6 23165209454878 D.M D.C rfl d) (λ_ _ q=>by cases q) x.M,u _ _ (bX 0x136295119214ab1e D.M D.C D.TM rfl d c) (λ_ _ q=>by cases q) x.TM,?_,cU x.l λo q=>u _ o (gk 0x13a29b82996295119214ab1e D.M D.C D.l D.LI D.TM rfl d a b c) ?_ q,z⟩
 ·refine kF (x.LI) λo e c d=>?_
  exact⟨o,u _ o (dh 0x1382996295119214ab1e D.M D.C D.LI D.TM rfl ‹_› b ‹_›) (λ_ _ q=>by rw [d] at q;cases q) e,c,d⟩
 ·obtain⟨o',e',_,n,d⟩:=x.l
  rw [q] at e';cases e'
  intro _ _ z;rw [d] at z;cases z
end
theorem StkOk.one{x:Nat}{o:Obj}(stk:StkOk fr h)(q:h.get? x=some o)(hd:∀es ep,o.data≠.dict es ep)(k:∀(b:Nat) o,¬b=x->h.get? b=some o->h'.get? b=some o):StkOk fr h':=λev Ez=>by
 obtain⟨a,L,m,b,n⟩:=stk ev Ez
 have hL:L∈d4 fr:=cO.mpr ⟨ev,Ez,b⟩
 refine⟨a,L,m,b,n.at' λo' q'=>k L o' (λz=>?_) q'⟩
 rw [z] at hL
 exact dC stk q hd hL
theorem Bt.sl(bt:Bt K B h)(sl:Sl ch fr h h')(hc:∀b∈ch,B.objs.size<=b)(offB:∀L∈d4 fr,B.get? L=none):Bt K B h' :=
 ⟨bt.kr,λb o q=>sl.kept b o (λz=>by have h1:=iF q;have h2:=hc b z;exact qj h1 h2) (λz=>by rw [offB b z] at q;cases q) (bt.up b o q),ab bt.sz sl.sz⟩
theorem Bt.but(x:Bt K B h)(hI:B.objs.size<=I)(k:∀b o,¬@Eq Nat b I->h.get? b=some o->h'.get? b=some o)(z:h.objs.size<=h'.objs.size):Bt K B h' :=
 ⟨x.kr,λb o e=>k b o (λq=>by have:=iF e;exact sU this hI q) (x.up b o e),ab x.sz z⟩
noncomputable abbrev zch(D:ZD):List Nat:=[D.z,D.TO,D.LI,D.C]
structure ZB(K:Frag)(B:Heap)(D:ZD)(fr:List Env)(i:Nat)(c:Int)(k:Tok)(oz DW:Obj)(s0 h:Heap):Prop where
 zh:ZH D fr i c k oz DW h
 bt:Bt K B h
 stk:StkOk fr h
 sl:Sl (zch D) fr s0 h
section
variable{D:ZD}{i':Nat}{c':Int}{k k':Tok}{Le HJ:Obj}
theorem ZB.up(x:ZB K B D fr i c k oz DW s0 h)(g:Gr h h'):ZB K B D fr i c k oz DW s0 h':=⟨x.zh.up g.up,x.bt.gr g,x.stk.up g.up,x.sl.trans (Sl.of_gr g)⟩
theorem ZB.setz(lt:ZLt D)(hB:B.objs.size<=D.LI)(x:ZB K B D fr i c k oz DW s0 h)(nd:∀es ep,oz.data≠.dict es ep)(z:h'.get? D.z=some Le)(u:∀(b:Nat) o,¬b=D.z->h.get? b=some o->h'.get? b=some o)(sz:h.objs.size<=h'.objs.size):ZB K B D fr i c k Le DW s0 h':=by
 refine⟨x.zh.setz lt z u,x.bt.but (I:=D.z) (by have:=lt.b;have:=lt.c;have:=lt.d;have:=lt.e;have:=lt.f;have:=lt.g;exact y_357 this ‹_› ‹_› ‹_› ‹_› ‹_› hB) (λb o hb q=>u b o hb q) sz,x.stk.one x.zh.z nd u,x.sl.trans ((Sl.one x.zh.z nd z x.stk u sz).mono λn hn=>?_)⟩
 rw [ak.mp hn];simp
theorem ZB.setTO(lt:ZLt D)(hB:B.objs.size<=D.LI)(x:ZB K B D fr i c k oz DW s0 h)(nd:∀es ep,DW.data≠.dict es ep)(z:h'.get? D.TO=some HJ)(u:∀(b:Nat) o,¬b=D.TO->h.get? b=some o->h'.get? b=some o)(sz:h.objs.size<=h'.objs.size):ZB K B D fr i c k oz HJ s0 h':=by
 refine⟨x.zh.setTO lt z u,x.bt.but (I:=D.TO) (by have:=lt.b;have:=lt.c;have:=lt.d;have:=lt.e;have:=lt.f;have:=lt.g;exact y_356 ‹_› ‹_› ‹_› ‹_› ‹_› hB) (λb o hb q=>u b o hb q) sz,x.stk.one x.zh.TO nd u,x.sl.trans ((Sl.one x.zh.TO nd z x.stk u sz).mono λn hn=>?_)⟩
 rw [ak.mp hn];simp
theorem ZB.setLI(lt:ZLt D)(hB:B.objs.size<=D.LI)(x:ZB K B D fr i c k oz DW s0 h)(z:h'.IsListIter D.LI D.l i')(u:∀(b:Nat) o,¬b=D.LI->h.get? b=some o->h'.get? b=some o)(sz:h.objs.size<=h'.objs.size):ZB K B D fr i' c k oz DW s0 h':=by
 refine kF (id x.zh.LI) λo e _ d=>?_
 refine kF (id z) λo' e' _ d'=>?_
 have nd:∀es ep,o.data≠.dict es ep:=λ_ _ q=>by rw [d] at q;cases q
 refine⟨x.zh.setLI lt z u,x.bt.but (I:=D.LI) hB (λb o hb q=>u b o hb q) sz,x.stk.one e nd u,x.sl.trans ((Sl.one e nd e' x.stk u sz).mono λn hn=>?_)⟩
 rw [ak.mp hn];simp
theorem ZB.setC(lt:ZLt D)(hB:B.objs.size<=D.LI)(offB:∀L∈d4 fr,B.get? L=none)(x:ZB K B D fr i c k oz DW s0 h)(z:SlotF fr h' D.C 222 #[some (.int c' k'),some D.fst,some (.int 1 D.k2)])(sl:Sl [D.C] fr h h')(Lg:∀es ep,oz.data≠.dict es ep)(ndT:∀es ep,DW.data≠.dict es ep):ZB K B D fr i c' k' oz DW s0 h':=by
 refine⟨x.zh.setC lt z sl x.stk Lg ndT,x.bt.sl sl (λb hb=>by rw [ak.mp hb];have:=lt.b;have:=lt.c;have:=lt.d;exact gk 0x19a21782936295119214ad10 D.M D.C D.TM D.LI B.objs.size rfl this ‹_› ‹_› hB) offB,x.stk.sl sl λL m hL n=>?_,x.sl.trans (sl.mono λn hn=>by rw [ak.mp hn];simp)⟩
 rw [ak.mp hL] at n
 refine oi (n) λo es ep q d _=>?_
 rw [x.zh.C.2.2.1] at q;cases q;cases d
end
noncomputable def KeyCall(w:World)(K:Frag)(B:Heap)(F:Nat)(row:Value)(P:Tok->Tok->Array Value->Prop):Prop :=
 ∀(A:Around) (s:Shared) (Q:Value->Shared->Prop) (E:Value->Shared->Prop),Room A 4->Bt K B s.heap->0<s.toks ->
  (∀(Kx:Nat) kv h' t',Gr s.heap h'->s.toks<=t'->h'.IsTuple Kx kv->s.heap.objs.size<=Kx->P s.toks t' kv->Q (.ref Kx) {s with heap:=h',toks:=t'})->wpAny (model prog w) A (call (.ref F) [row]) Q E s
section
variable{D:ZD}{k:Tok}
theorem ndO(D:ZD)(a b:Value):∀es ep,(oo D a b).data≠.dict es ep:=λ_ _ q=>by cases q
theorem ndT(a b:Value):∀es ep,(yH a b).data≠.dict es ep:=λ_ _ q=>by cases q
theorem ri{P:Tok->Tok->Array Value->Prop}(lt:ZLt D)(hB:B.objs.size<=D.LI)(r:Room A 8)(t0:0<s.toks)(x:ZB K B D fr i c k oz DW s0 s.heap)(hx:D.items[i]?=some row)(key:KeyCall w K B D.F row P)
  (hQ:∀(Kx:Nat) kv h' t',ZB K B D fr (i+1) c k oz DW s0 h'->h'.IsTuple Kx kv->s.heap.objs.size<=Kx->P s.toks t' kv->s.toks<=t'->Q (.ref Kx) {s with heap:=h',toks:=t'}):
  wpAny (model prog w) A (dc (.ref D.M)) Q E s:=by
 refine oJ (x.zh.isMap lt) x.zh.LI x.zh.l hx (by have:=lt.b;have:=lt.c;exact bX 0xba14a9149b1a D.LI D.TM D.M rfl ‹_› this) λDy Ll IQ=>?_
 have x1:=x.setLI lt hB Ll (λb o hb q=>IQ.extBut b o hb q) (dj IQ.1.symm)
 refine key A.in1 {s with heap:=Dy} _ _ (r.le (by decide):Room A 5).in1 x1.bt t0 λKx kv h' t' g l hk hs hp=>?_
 have h1:Dy.objs.size=s.heap.objs.size:=IQ.1
 exact hQ Kx kv h' t' (x1.up g) hk (by dsimp only at hs;exact bX 0xb91ca910ab10 Dy.objs.size Kx s.heap.objs.size rfl hs h1) hp l
theorem pP(lt:ZLt D)(hB:B.objs.size<=D.LI)(r:Room A 5)(t0:0<s.toks)(D0:A.frames=some fr)(offB:∀L∈d4 fr,B.get? L=none)(x:ZB K B D fr i c k oz DW s0 s.heap)(hk:k≠0)(Ff:D.k2≠0)
  (nz:∀es ep,oz.data≠.dict es ep) (nT:∀es ep,DW.data≠.dict es ep)
  (hQ:∀h' t' k',k'≠0->ZB K B D fr i (c+1) k' oz DW s0 h'->Sl [D.C] fr s.heap h'->s.toks<=t'->Q (.int c k) {s with heap:=h',toks:=t'}):
  wpAny (model prog w) A (dc (.ref D.C)) Q E s:=by
 have kr:=x.bt.kr.up x.bt.up
 have hBC:B.objs.size<=D.C:=by have:=lt.b;have:=lt.c;have:=lt.d;exact gk 0x19a21782936295119214ad10 D.M D.C D.TM D.LI B.objs.size rfl this ‹_› ‹_› hB
 refine vV (f:=211) kr.sk kr.X x.zh.C.at (by decide +kernel) ?_
 exact uk (r.le (by decide)) x.bt t0 D0 x.stk offB x.zh.C hBC hk Ff λh' t' k' Fr g sl l=>hQ h' t' k' Fr (x.setC lt hB offB g sl nz nT) sl l
end
section
variable{D:ZD}{k:Tok}
noncomputable abbrev ZGot(K:Frag)(B:Heap)(D:ZD)(fr:List Env)(i:Nat)(c:Int)(k:Tok)(P:Tok->Tok->Array Value->Prop)(s0:Heap)(s:Shared)(v:Value)(s':Shared):Prop :=
 ∃(Kx T a:Nat) (o:Obj) (kv:Array Value) (k' ta tb:Tok) (f1:Value) (DW:Obj),v=.ref T/\k'≠0/\s'={s with heap:=s'.heap,toks:=s'.toks}/\ZB K B D fr (i+1) (c+1) k' (oo D (rawInt a) f1) DW s0 s'.heap/\s'.heap.get? a=some o/\(∀es ep,DW.data≠.dict es ep) /\
  s'.heap.IsTuple T #[.ref Kx,.int c k]/\s'.heap.IsTuple Kx kv/\s.heap.objs.size<=Kx/\s.heap.objs.size<=T/\P ta tb kv/\s.toks<=ta/\ta<=tb/\tb<=s'.toks
theorem yQ{P:Tok->Tok->Array Value->Prop}{a b:Value}(lt:ZLt D)(hB:B.objs.size<=D.LI)(r:Room A 8)(t0:0<s.toks)(D0:A.frames=some fr)(offB:∀L∈d4 fr,B.get? L=none)(x:ZB K B D fr i c k (oo D .none f1) (yH a b) s0 s.heap)(hk:k≠0)(Ff:D.k2≠0)(hx:D.items[i]?=some row)(key:KeyCall w K B D.F row P):
  wpAny (model prog w) A (Builtin.«zip.__next__» ⟨[.ref D.z],[]⟩) (λfin s'=>∃v,fin=.done (.ret v)/\ZGot K B D fr i c k P s0 s v s') E s:=by
 have hz:=x.zh.z
 show wpAny _ _ (field (.ref D.z) 2 >>= _) _ _ _
 refine aa (bS hz rfl (x:=.bool false) rfl ?_)
 refine aa (bS hz rfl (x:=.ref D.TI) rfl ?_)
 refine aa (bN x.zh.TI rfl ?_)
 refine aa ?_
 delta dX;dsimp only
 refine aa (bS hz rfl (x:=.none) rfl (ai ?_))
 refine aa (dB ?_)
 refine aa (bS hz rfl (x:=.ref D.TO) rfl ?_)
 refine aa (f9 hz (by simp) λh1 Gq Hj=>?_)
 replace Gq:h1.get? D.z=some (oo D .ellipsis f1):=Gq
 have x1:=x.setz lt hB (ndO D _ _) Gq (λb o hb q=>Hj.extBut b o hb q) (dj Hj.1.symm)
 refine aa ?_
 refine aa (aa (wpAny_onRaise ?_))
 refine aa (ri (s:={s with heap:=h1}) lt hB r t0 x1 hx key λKx kv h2 t2 x2 FG GI hp l2=>ai ?_)
 dsimp only at GI hp l2
 refine aa (bN x2.zh.TO rfl ?_)
 refine aa (wpAny_updateSeq_pair x2.zh.TO λh3 Kg GH=>?_)
 replace Kg:h3.get? D.TO=some (yH (.ref Kx) b):=Kg
 have x3:=x2.setTO lt hB (ndT _ _) Kg (λb o hb q=>GH.extBut b o hb q) (dj GH.1.symm)
 refine aa (lU (ai ?_))
 refine aa (aa (wpAny_onRaise ?_))
 refine aa (pP (s:={s with heap:=h3,toks:=t2}) lt hB (r.le (by decide)) (ad t0 l2) D0 offB x3 hk Ff (ndO D _ _) (ndT _ _) λh4 t4 k' Fr x4 Ie l4=>ai ?_)
 dsimp only at Ie l4
 refine aa (bN x4.zh.TO rfl ?_)
 refine aa (wpAny_updateSeq_pair x4.zh.TO λh5 Kf Nj=>?_)
 replace Kf:h5.get? D.TO=some (yH (.ref Kx) (.int c k)):=Kf
 have JJ:=x4.setTO lt hB (ndT _ _) Kf (λb o hb q=>Nj.extBut b o hb q) (dj Nj.1.symm)
 refine aa (lU (ai (ai ?_)))
 refine aa (bN JJ.zh.TO rfl ?_)
 refine aa (cW ?_ (show 2<=sizeLine by decide))
 have G4:=JJ.up (Gr.push h5 {cls:=.type "tuple",data:=.seq ([.ref Kx,.int c k]:List Value).toArray})
 refine aa ?_
 delta Builtin.SmallTypes.ownedTupleHandOut;dsimp only
 refine aa (f9 G4.zh.z (by simp) λh7 Oq Ni=>?_)
 replace Oq:h7.get? D.z=some (oo D (rawInt h5.objs.size) f1):=Oq
 have L7:=G4.setz lt hB (ndO D _ _) Oq (λb o hb q=>Ni.extBut b o hb q) (dj Ni.1.symm)
 refine f9 L7.zh.z (by simp) λh8 Oo Lx=>?_
 replace Oo:h8.get? D.z=some (oo D (rawInt h5.objs.size) (.bool false)):=Oo
 have PH:=L7.setz lt hB (ndO D _ _) Oo (λb o hb q=>Lx.extBut b o hb q) (dj Lx.1.symm)
 have QY:D.z<h5.objs.size:=aX JJ.zh.z
 have eT:h8.get? h5.objs.size=some {cls:=.type "tuple",data:=.seq #[.ref Kx,.int c k]} :=
  Lx.extBut _ _ (aB QY) (Ni.extBut _ _ (aB QY) (am _ rfl))
 have e1:h1.objs.size=s.heap.objs.size:=Hj.1
 have e3:h3.objs.size=h2.objs.size:=GH.1
 have e5:h5.objs.size=h4.objs.size:=Nj.1
 have Pw:=Ie.sz
 have Ki:Kx<h2.objs.size:=nN FG
 have hKz:¬Kx=D.z:=λq=>by
  have:=lt.g
  have h9:D.z<h1.objs.size:=aX x1.zh.z
  exact rj h9 GI q
 have hKTO:¬Kx=D.TO:=λq=>by
  have:=lt.g
  have h9:D.z<h1.objs.size:=aX x1.zh.z
  exact dh 0xcb10ba14a9149c1a D.TO D.z h1.objs.size Kx rfl this h9 GI q
 have Pb:¬Kx=D.C:=λq=>by
  have h9:D.z<h1.objs.size:=aX x1.zh.z
  have:=lt.e;have:=lt.f;have:=lt.g
  exact y_735 h9 this ‹_› ‹_› GI q
 obtain⟨oK,eK,cK,nK,dK⟩:=FG
 have eK3:h3.get? Kx=some oK:=GH.extBut Kx _ hKTO eK
 have Pv:h4.get? Kx=some oK:=Ie.kept Kx _ (by simpa using Pb) (dC x3.stk eK3 λ_ _ q=>by rw [dK] at q;cases q) eK3
 have eK8:h8.get? Kx=some oK:=Lx.extBut Kx _ hKz (Ni.extBut Kx _ hKz (af _ (Nj.extBut Kx _ hKTO Pv)))
 refine ai ⟨_,rfl,Kx,h5.objs.size,h5.objs.size,_,kv,k',s.toks,t2,.bool false,_,rfl,Fr,rfl,PH,eT,ndT _ _,⟨_,eT,rfl,_,rfl⟩,⟨oK,eK8,cK,nK,dK⟩,bX 0xb91ca910ab10 h1.objs.size Kx s.heap.objs.size rfl GI e1,y_414 e5 Pw e3 Ki GI e1,hp,ag _,l2,l4⟩
end
section
variable{D:ZD}{k:Tok}
theorem wm{oa:Obj}{al:Nat}{E2:Value->Shared->Prop}{Q:i9->Shared->Prop}(lt:ZLt D)(hB:B.objs.size<=D.LI)(x:ZB K B D fr i c k (oo D (rawInt al) f1) DW s0 s.heap)(ha:s.heap.get? al=some oa)
  {rest:Sem i9} (Jb:∀h1 I8,ZB K B D fr i c k (oo D (rawInt al) I8) DW s0 h1->h1.objs.size=s.heap.objs.size->(∀(b:Nat) o,¬b=D.z->s.heap.get? b=some o->h1.get? b=some o)->wpAny (model prog w) A rest Q E2 {s with heap:=h1})
  {MX:Sem i9}:wpAny (model prog w) A (do if <-dX (.ref D.z) then MX else rest) Q E2 s:=by
 have hz:=x.zh.z
 refine aa ?_
 delta dX
 refine aa (bS hz rfl (x:=rawInt al) rfl ?_)
 refine aa (kdx_alive ha ?_)
 refine aa (bS hz rfl (x:=f1) rfl ?_)
 by_cases hf:(f1 != .bool true)=true
 ·rw [if_pos hf]
  refine aa (f9 hz (by simp) λh1 Gq Hj=>?_)
  replace Gq:h1.get? D.z=some (oo D (rawInt al) (.bool true)):=Gq
  refine ai ?_
  exact Jb h1 _ (x.setz lt hB (ndO D _ _) Gq (λb o hb q=>Hj.extBut b o hb q) (dj Hj.1.symm)) Hj.1 λb o hb q=>Hj.extBut b o hb q
 ·rw [if_neg hf]
  refine ai ?_
  exact Jb s.heap f1 x rfl λb o _ q=>q
theorem yP{P:Tok->Tok->Array Value->Prop}{oa:Obj}{al:Nat}(lt:ZLt D)(hB:B.objs.size<=D.LI)(r:Room A 8)(t0:0<s.toks)(D0:A.frames=some fr)(offB:∀L∈d4 fr,B.get? L=none)(x:ZB K B D fr i c k (oo D (rawInt al) f1) DW s0 s.heap)(ha:s.heap.get? al=some oa)(nT:∀es ep,DW.data≠.dict es ep)(hk:k≠0)(Ff:D.k2≠0)(hx:D.items[i]?=some row)(key:KeyCall w K B D.F row P):
  wpAny (model prog w) A (Builtin.«zip.__next__» ⟨[.ref D.z],[]⟩) (λfin s'=>∃v,fin=.done (.ret v)/\ZGot K B D fr i c k P s0 s v s') E s:=by
 have hz:=x.zh.z
 show wpAny _ _ (field (.ref D.z) 2 >>= _) _ _ _
 refine aa (bS hz rfl (x:=.bool false) rfl ?_)
 refine aa (bS hz rfl (x:=.ref D.TI) rfl ?_)
 refine aa (bN x.zh.TI rfl ?_)
 have x0:ZB K B D fr i c k (oo D (rawInt al) f1) DW s.heap s.heap:={x with sl:=Sl.refl _ _ _}
 refine wm lt hB x0 ha (λh1 I8 x1 e1 k1=>?_)
 refine aa (aa (aa (bp ?_)))
 refine aa (ri (s:={s with heap:=h1}) lt hB r t0 x1 hx key λKx kv h2 t2 x2 FG GI hp l2=>ai ?_)
 refine ai ?_
 refine aa (aa (bp ?_))
 refine aa (pP (s:={s with heap:=h2,toks:=t2}) lt hB (r.le (by decide)) (ad t0 l2) D0 offB x2 hk Ff (ndO D _ _) nT λh4 t4 k' Fr x4 Ie l4=>ai ?_)
 refine ai (ai ?_)
 refine aa (cW ?_ (show 2<=sizeLine by decide))
 have G4:=x4.up (Gr.push h4 {cls:=.type "tuple",data:=.seq ([.ref Kx,.int c k]:List Value).toArray})
 have eT:=am h4 (o:={cls:=.type "tuple",data:=.seq ([.ref Kx,.int c k]:List Value).toArray}) rfl
 have Pw:=Ie.sz
 have Gq:D.z<s.heap.objs.size:=aX hz
 have Pb:¬Kx=D.C:=λq=>by
  have:=lt.e;have:=lt.f;have:=lt.g
  exact y_736 Gq this ‹_› ‹_› e1 GI q
 obtain⟨oK,eK,cK,nK,dK⟩:=FG
 have Pv:h4.get? Kx=some oK:=Ie.kept Kx _ (by simpa using Pb) (dC x2.stk eK λ_ _ q=>by rw [dK] at q;cases q) eK
 have Ki:Kx<h2.objs.size:=aX eK
 obtain⟨o',Nq⟩:=G4.sl.there al _ ha
 have xf:ZB K B D fr (i+1) (c+1) k' (oo D (rawInt al) I8) DW s0 (h4.push {cls:=.type "tuple",data:=.seq ([.ref Kx,.int c k]:List Value).toArray}):={G4 with sl:=x.sl.trans G4.sl}
 exact ai ⟨_,rfl,Kx,h4.objs.size,al,_,kv,k',s.toks,t2,I8,DW,rfl,Fr,rfl,xf,Nq,nT,⟨_,eT,rfl,_,rfl⟩,⟨oK,af _ Pv,cK,nK,dK⟩,bX 0xb91ca910ab10 h1.objs.size Kx s.heap.objs.size rfl GI e1,gk 0xdc1cbc109b14a910ad10 h2.objs.size h4.objs.size Kx h1.objs.size s.heap.objs.size rfl Pw Ki GI e1,hp,ag _,l2,l4⟩
theorem yO{oa:Obj}{al:Nat}{Q:i9->Shared->Prop}(lt:ZLt D)(hB:B.objs.size<=D.LI)(hh:A.handled=none)(x:ZB K B D fr i c k (oo D (rawInt al) f1) DW s.heap s.heap)(ha:s.heap.get? al=some oa)(hx:D.items[i]?=none)
  (hE:∀h' e,(∀(b:Nat) o,¬b=D.z->¬b=D.LI->s.heap.get? b=some o->h'.get? b=some o)->(∃o,h'.get? e=some o/\o.cls=.type "StopIteration")->s.heap.objs.size<=h'.objs.size->(∃o,h'.get? D.LI=some o)->(∃o,h'.get? D.z=some o)->E (.ref e) {s with heap:=h'}):
  wpAny (model prog w) A (Builtin.«zip.__next__» ⟨[.ref D.z],[]⟩) Q E s:=by
 have hz:=x.zh.z
 show wpAny _ _ (field (.ref D.z) 2 >>= _) _ _ _
 refine aa (bS hz rfl (x:=.bool false) rfl ?_)
 refine aa (bS hz rfl (x:=.ref D.TI) rfl ?_)
 refine aa (bN x.zh.TI rfl ?_)
 refine wm lt hB x ha (λh1 I8 x1 e1 k1=>?_)
 refine aa (aa (aa (bp ?_)))
 exact aa (pE (s:={s with heap:=h1}) hh (x1.zh.isMap lt) x1.zh.LI x1.zh.l hx λh' e eb he sz th=>hE h' e (λb o hb GL q=>eb b o GL (k1 b o hb q)) he (ab (dj e1.symm) sz) th ⟨_,eb D.z _ (by have:=lt.b;have:=lt.c;have:=lt.d;have:=lt.e;have:=lt.f;have:=lt.g;exact y_678 ‹_› ‹_› ‹_› ‹_› ‹_› this) x1.zh.z⟩)
theorem sQ{P:Tok->Tok->Array Value->Prop}{f0:Value}{Q:Option Value->Shared->Prop}(lt:ZLt D)(hB:B.objs.size<=D.LI)(r:Room A 9)(t0:0<s.toks)(D0:A.frames=some fr)(offB:∀L∈d4 fr,B.get? L=none)(x:ZB K B D fr i c k (oo D f0 f1) DW s0 s.heap)
  (Ey:(f0=.none/\∃a b,DW=yH a b)\/((∃(al:Nat) (oa:Obj),f0=rawInt al/\s.heap.get? al=some oa)/\∀es ep,DW.data≠.dict es ep)) (hk:k≠0) (Ff:D.k2≠0) (hx:D.items[i]?=some row) (key:KeyCall w K B D.F row P)
  (hQ:∀v s',ZGot K B D fr i c k P s0 s v s'->Q (some v) s'):
  wpAny (model prog w) A (pyNext (.ref D.z)) Q E s:=by
 have hT:s.TypeIs (.ref D.z) "zip":=⟨_,x.zh.z,rfl⟩
 refine aa (jQ (cq (name:=cF "__next__") hT fj
  (c8 fj hT kO ?_ (ka _))))
 have fin:∀(fin:i9) (s':Shared),(∃v,fin=.done (.ret v)/\ZGot K B D fr i c k P s0 s v s')->∃v,fin=.done (.ret v)/\wpAny (model prog w) A (pure (some v):Sem (Option Value)) Q E s':=by
  rintro fin s' ⟨v,rfl,h⟩
  exact⟨v,rfl,ai (hQ v s' h)⟩
 rcases Ey with ⟨rfl,a,b,rfl⟩|⟨⟨al,oa,rfl,ha⟩,nT⟩
 ·exact bb (yQ lt hB (r.le (by decide):Room A 9).in1 t0 D0 offB x hk Ff hx key) (λf s' h=>fin f s' h) λ_ _ e=>e
 ·exact bb (yP lt hB (r.le (by decide):Room A 9).in1 t0 D0 offB x ha nT hk Ff hx key) (λf s' h=>fin f s' h) λ_ _ e=>e
theorem vA{oa:Obj}{al:Nat}{Q:Option Value->Shared->Prop}(lt:ZLt D)(hB:B.objs.size<=D.LI)(hh:A.handled=none)(x:ZB K B D fr i c k (oo D (rawInt al) f1) DW s0 s.heap)(ha:s.heap.get? al=some oa)(hx:D.items[i]?=none)
  (hQ:∀h',(∀(b:Nat) o,¬b=D.z->¬b=D.LI->s.heap.get? b=some o->h'.get? b=some o)->s.heap.objs.size<=h'.objs.size->(∃o,h'.get? D.LI=some o)->(∃o,h'.get? D.z=some o)->Q none {s with heap:=h'}):
  wpAny (model prog w) A (pyNext (.ref D.z)) Q E s:=by
 have hT:s.TypeIs (.ref D.z) "zip":=⟨_,x.zh.z,rfl⟩
 have x0:ZB K B D fr i c k (oo D (rawInt al) f1) DW s.heap s.heap:={x with sl:=Sl.refl _ _ _}
 refine aa (jQ (cq (name:=cF "__next__") hT fj
  (c8 fj hT kO (yO lt hB hh x0 ha hx λh' e hk he sz NY NX=>?_) (ka _))))
 refine ci (he) λo ho hc=>?_
 refine aa (eL (T:="StopIteration") (b:=true) ⟨o,ho,hc⟩ isSubtype_stop ?_)
 exact ai (hQ _ hk sz NY NX)
end
noncomputable abbrev wi(DC:Array Value)(c:Nat):Obj:={cls:=.type "list",dict:=none,data:=.seq DC c,slots:=#[]}
section
variable{S n:Nat}{res:Value}
theorem uX(St:Nat->Array Value->Shared->Prop)(hn:n<=1000)(hsz:∀i DC s,St i DC s->DC.size=i)
  (item:∀i DC s,i<n->St i DC s->wpAny (model prog w) A.in1 (pyNext (.ref I)) (λr s'=>∃v c,r=some v/\s'.heap.get? S=some (wi DC c)/\∀h' c',h'.get? S=some (wi (DC.push v) c')->(∀(b:Nat) o,¬b=S->s'.heap.get? b=some o->h'.get? b=some o)->h'.objs.size=s'.heap.objs.size->St (i+1) (DC.push v) {s' with heap:=h'}) (λe s'=>R (.error e) s') s)
  (done:∀DC s,St n DC s->wpAny (model prog w) A.in1 (pyNext (.ref I)) (λr s'=>r=none/\R (.ok (.ret res)) s') (λe s'=>R (.error e) s') s):
  ∀(k i:Nat) (DC:Array Value) (s:Shared),n-i=k->i<=n->St i DC s->codeAny (model prog w) A (.builtin "list.extend.loop" ⟨[.ref S,.ref I,res],[]⟩) R s:=by
 intro k
 have Ii:sizeLine=16777216:=by decide
 induction k with
 |zero =>
  intro i DC s hk hi Ey
  have Eg:i=n:=yS hi hk
  subst Eg
  refine c7 jA ?_
  rw [dG dA _]
  refine aa (bb (done DC s Ey) (λr s' h=>?_) λ_ _ e=>e)
  obtain⟨rfl,h⟩:=h
  exact ai h
 |succ k ih =>
  intro i DC s hk hi Ey
  have DH:i<n:=yV hk
  have hz:=hsz i DC s Ey
  refine c7 jA ?_
  rw [dG dA _]
  refine aa (bb (item i DC s DH Ey) (λr s' h=>?_) λ_ _ e=>e)
  obtain⟨v,c,rfl,hS,Tx⟩:=h
  refine aa ?_
  refine eg hS rfl (ai ⟨dE dA _,ih (i+1) (DC.push v) _ (wq hk) DH (Tx _ _ (bv _ hS rfl) (λb o hb e=>(bJ _ _ (λq:S=b=>hb q.symm)).trans e) (bQ ..))⟩) (bX 0x15631342807d08322100000051b10 n i DC.size rfl hn DH hz) (by show (DC.push v).size<=sizeLine+1;rw [dk];exact bX 0x558c4d0a01f420c88446000000a2511b210 n i DC.size rfl hn DH hz)
end
theorem rG:typeLookup (.type "zip") "__len__"=pure none:=by rw [typeLookup_type,builtinLookup_eq_fast];kernel_rfl
theorem qw:typeLookup (.type "zip") "__length_hint__"=pure none:=by rw [typeLookup_type,builtinLookup_eq_fast];kernel_rfl
section
variable{D:ZD}
theorem ul{Q:List Value->Shared->Prop}{f0:Value}{TI TO:Nat}(hz:IsZip s.heap D.z TI TO f0)
  (h:∀(S:Nat) Dy c,Gr s.heap Dy->s.heap.objs.size<=S->S<Dy.objs.size->Dy.get? S=some (wi #[] c)->codeAny (model prog w) A (.builtin "list.extend.loop" ⟨[.ref S,.ref D.z,.ref S],[]⟩) (λr s'=>match r with|.ok (.ret v)=>∃DC c,v=.ref S/\s'.heap.get? S=some (wi DC c)/\Q DC.toList s'|.ok _=>False|.error e=>E e s') {s with heap:=Dy}):
  wpAny (model prog w) A (collect (.ref D.z)) Q E s:=by
 have O1:s.heap.objs.size≠D.z:=aB (aX hz)
 unfold collect
 refine aa (wpAny_runValue (c7 PySem.F.entry_proto_collect ?_))
 rw [dG PySem.F.plain_proto_collect _]
 refine aa (ce ?_)
 refine ai ⟨dE j9 _,c7 PySem.F.entry_list_iadd ?_⟩
 rw [dG j9 _]
 have Gq:IsZip (s.heap.push {cls:=.type "list",data:=.seq ([]:List Value).toArray}) D.z TI TO f0:=af _ hz
 have hT:({s with heap:=s.heap.push {cls:=.type "list",data:=.seq ([]:List Value).toArray}}:Shared).TypeIs (.ref D.z) "zip":=⟨_,Gq,rfl⟩
 show wpAny _ A.in1 (iY (.ref s.heap.objs.size) (.ref D.z) (.ref s.heap.objs.size)) _ _ _
 unfold iY
 refine aa (wpAny_typeOf hT ?_)
 have h1:eC (.ref s.heap.objs.size) (.ref D.z)=false:=by simp [eC,O1]
 have h2:(d6 "zip"==d6 "list")=false:=by decide
 have h3:(d6 "zip"==d6 "tuple")=false:=by decide
 simp only [h1,h2,h3,Bool.or_false,cB,if_false]
 refine aa (wpAny_pyIter_zip Gq ?_)
 refine aa (bp ?_)
 unfold Builtin.List.listLengthHint
 refine aa (fR hT rG ?_)
 refine aa (fR hT qw ?_)
 refine ai ?_
 show wpAny _ A.in1 (rule "list.extend.makes-room" >>= λ_=>kQ (.ref s.heap.objs.size) >>= λ_ =>
  again (.builtin "list.extend.loop" ⟨[.ref s.heap.objs.size,.ref D.z,.ref s.heap.objs.size],[]⟩)) _ _ _
 refine aa (dB ?_)
 have Ft:(s.heap.push {cls:=.type "list",data:=.seq ([]:List Value).toArray}).get? s.heap.objs.size=some {cls:=.type "list",data:=.seq ([]:List Value).toArray}:=am _ rfl
 refine aa ?_
 refine aa (eg Ft rfl ?_)
 have HB:=bv (cX (·.push eB)) Ft rfl
 refine eg HB rfl ?_
 have I4:=bv (cX (·.pop)) HB rfl
 have IS:∀b o,b≠s.heap.objs.size->(s.heap.push {cls:=.type "list",data:=.seq ([]:List Value).toArray}).get? b=some o ->
   (((s.heap.push {cls:=.type "list",data:=.seq ([]:List Value).toArray}).update s.heap.objs.size (cX (·.push eB))).update s.heap.objs.size (cX (·.pop))).get? b=some o :=
  λb o hb e=>(bJ _ _ (iZ hb)).trans ((bJ _ _ (iZ hb)).trans e)
 have sz:(((s.heap.push {cls:=.type "list",data:=.seq ([]:List Value).toArray}).update s.heap.objs.size (cX (·.push eB))).update s.heap.objs.size (cX (·.pop))).objs.size=s.heap.objs.size+1:=by
  rw [bQ,bQ,ao]
 refine ai ⟨dE dA _,?_⟩
 refine kM (h s.heap.objs.size _ _ ⟨λb o e=>IS b o (bW (aX e)) (af _ e),by rw [sz];exact cV 286861584 s.heap.objs.size rfl⟩ (ag _) (by rw [sz];exact vF) I4) λr s' hr=>?_
 cases r with
 |error e=>exact hr
 |ok f =>
  cases f with
  |ret v =>
   obtain⟨DC,c,rfl,hS,hq⟩:=hr
   exact aa (wpAny_load hS (ai hq))
  |_=>exact hr
noncomputable def ZPair(B:Heap)(P:Nat->Tok->Tok->Array Value->Prop)(lo:Nat)(h:Heap)(i:Nat)(ta tb:Tok)(v:Value):Prop :=
 ∃(T Kx:Nat) (kv:Array Value) (k:Tok),v=.ref T/\lo<=T/\lo<=Kx/\k≠0/\h.IsTuple T #[.ref Kx,.int i k]/\h.IsTuple Kx kv/\P i ta tb kv
structure ZAcc(B:Heap)(P:Nat->Tok->Tok->Array Value->Prop)(lo:Nat)(h:Heap)(DC:Array Value)(PJ:Tok):Prop where
 pr:∃t:Nat->Tok,(∀i v,DC[i]?=some v->∃ta tb:Tok,t i<=ta/\ta<=tb/\tb<=t (i+1)/\ZPair B P lo h i ta tb v)/\(∀i j,i<=j->t i<=t j)/\t DC.size<=PJ
theorem ZAcc.nil{P:Nat->Tok->Tok->Array Value->Prop}{t:Tok}:ZAcc B P lo h #[] t:=⟨λ_=>t,λi v e=>by simp at e,λ_ _ _=>ag _,ag _⟩
theorem ZPair.keep{P:Nat->Tok->Tok->Array Value->Prop}{ta tb:Tok}{v:Value}(x:ZPair B P lo h i ta tb v)(k:∀(b:Nat) o,lo<=b->(∀es ep,o.data≠.dict es ep)->(∃xs n,o.data=.seq xs n/\o.cls=.type "tuple")->h.get? b=some o->h'.get? b=some o):ZPair B P lo h' i ta tb v:=by
 obtain⟨T,Kx,kv,kk,rfl,h1,h2,h3,⟨o,e,c,n,d⟩,⟨o',e',c',n',d'⟩,hp⟩:=x
 exact⟨T,Kx,kv,kk,rfl,h1,h2,h3,⟨o,k T o h1 (λ_ _ q=>by rw [d] at q;cases q) ⟨_,_,d,c⟩ e,c,n,d⟩,⟨o',k Kx o' h2 (λ_ _ q=>by rw [d'] at q;cases q) ⟨_,_,d',c'⟩ e',c',n',d'⟩,hp⟩
theorem ZAcc.keep{P:Nat->Tok->Tok->Array Value->Prop}{DC:Array Value}{t t':Tok}(x:ZAcc B P lo h DC t)(ht:t<=t')(k:∀(b:Nat) o,lo<=b->(∀es ep,o.data≠.dict es ep)->(∃xs n,o.data=.seq xs n/\o.cls=.type "tuple")->h.get? b=some o->h'.get? b=some o):ZAcc B P lo h' DC t':=by
 obtain⟨f,a,b,c⟩:=x.pr
 exact⟨f,λi v e=>fL (a i v e) λta tb l1 l2 l3 z=>⟨ta,tb,l1,l2,l3,z.keep k⟩,b,ab c ht⟩
theorem ZAcc.push{P:Nat->Tok->Tok->Array Value->Prop}{DC:Array Value}{t t' ta tb:Tok}{v:Value}(x:ZAcc B P lo h DC t)(z:ZPair B P lo h DC.size ta tb v)(l1:t<=ta)(l2:ta<=tb)(l3:tb<=t'):ZAcc B P lo h (DC.push v) t':=by
 obtain⟨f,a,b,c⟩:=x.pr
 refine⟨λi=>if i<=DC.size then f i else t',λi u e=>?_,λi j DV=>?_,?_⟩
 ·rw [eG] at e
  split at e
  ·rename_i hi
   cases e
   subst hi
   refine⟨ta,tb,?_,l2,?_,z⟩
   ·dsimp only;rw [if_pos (ag _)];exact ab c l1
   ·dsimp only;rw [if_neg (by exact cV 319918610 DC.size rfl)];exact l3
  ·rename_i hi
   have DH:i<DC.size:=(bF.mp e).1
   obtain⟨La,K',m1,m2,m3,z'⟩:=a i u e
   refine⟨La,K',?_,m2,?_,z'⟩
   ·dsimp only;rw [if_pos (aJ ‹_›)];exact m1
   ·dsimp only;rw [if_pos ‹_›];exact m3
 ·dsimp only
  by_cases h1:i<=DC.size
  ·by_cases h2:j<=DC.size
   ·rw [if_pos h1,if_pos h2];exact b i j DV
   ·rw [if_pos h1,if_neg h2]
    exact ab (ab (b i DC.size h1) c) (ab l1 (ab l2 l3))
  ·rw [if_neg h1,if_neg (by exact bX 0xb912a910ba12 i j DC.size rfl DV h1)];exact ag _
 ·dsimp only
  rw [dk,if_neg (by exact cV 319918610 DC.size rfl)];exact ag _
end
section
variable{D:ZD}{k:Tok}
theorem ZLt.le(lt:ZLt D){b:Nat}(h:b∈zch D):b<=D.z:=by
 have:=lt.b;have:=lt.c;have:=lt.d;have:=lt.e;have:=lt.f;have:=lt.g
 simp at h
 rcases h with rfl|rfl|rfl|rfl<;>lia
theorem ZB.over{S:Nat}{o o':Obj}(lt:ZLt D)(hB:B.objs.size<=D.LI)(x:ZB K B D fr i c k oz DW s0 h)(hS:D.z<S)(h0:s0.objs.size<=S)(q:h.get? S=some o)(hd:∀es ep,o.data≠.dict es ep)(q':h'.get? S=some o')(u:∀(b:Nat) o,¬b=S->h.get? b=some o->h'.get? b=some o)(sz:h.objs.size<=h'.objs.size):ZB K B D fr i c k oz DW s0 h':=by
 have ltz:=lt
 obtain⟨l1,l2,l3,l4,l5,l6,l7⟩:=lt
 have y:=x.zh
 refine⟨⟨u _ _ (mh hS) y.z,u _ _ (dh 0xcb14ba14a914c91e D.TI D.TO D.z S rfl l6 l7 hS) y.TI,u _ _ (bX 0xba14a914b91e D.TO D.z S rfl l7 hS) y.TO,u _ _ (mm 0x1da29b829962974295119214e91e D.M D.C D.TI D.TO D.z S rfl l4 l5 l6 l7 hS) y.M,u _ _ (oP 0x1fc29da29b8299629711a214a914f91e D.TM D.M D.C D.TI D.TO D.z S rfl l3 l4 l5 l6 l7 hS) y.TM,ci y.LI λo e r=>⟨o,u _ _ (y_661 l2 l3 l4 l5 l6 l7 hS) e,r⟩,cU y.l λo=>u _ o (y_665 l1 l2 l3 l4 l5 l6 l7 hS),⟨y.C.1,y.C.2.1,u _ _ (gk 0xdc14cb14ba14a914d91e D.C D.TI D.TO D.z S rfl l5 l6 l7 hS) y.C.2.2.1,u _ _ (y_640 l5 l6 l7 hS) y.C.2.2.2⟩⟩,
  x.bt.but (I:=S) (y_358 hS l7 l6 l5 l4 l3 l2 hB) (λb o hb e=>u b o hb e) sz,x.stk.one q hd u,?_⟩
 refine⟨λb o h1 h2 e=>u b o (λz=>by have:@cA Nat _ b s0.objs.size:=iF e;exact sU this h0 z) (x.sl.kept b o h1 h2 e),λb o h1 e=>?_,ab x.sl.sz sz,λb o e=>?_⟩
 ·obtain⟨s1,e1⟩:=x.sl.slots b o h1 e
  exact⟨s1,u b _ (λz=>by have:@cA Nat _ b s0.objs.size:=iF e;exact sU this h0 z) e1⟩
 ·obtain⟨o1,e1⟩:=x.sl.there b o e
  exact⟨o1,u b o1 (λz=>by have:@cA Nat _ b s0.objs.size:=iF e;exact sU this h0 z) e1⟩
end
section
variable{D:ZD}
theorem ZB.nns{k:Tok}(x:ZB K B D fr i c k oz DW s0 h)(Lg:∀es ep,oz.data≠.dict es ep)(ndT:∀es ep,DW.data≠.dict es ep):∀(L:Nat) m,L∈zch D->¬h.Ns L m:=λL m hL n=>by
 refine oi (n) λo es ep q d _=>?_
 refine kF (x.zh.LI) λoI eI _ dI=>?_
 simp at hL
 rcases hL with rfl|rfl|rfl|rfl
 ·rw [x.zh.z] at q;cases q;exact Lg _ _ d
 ·rw [x.zh.TO] at q;cases q;exact ndT _ _ d
 ·rw [eI] at q;cases q;rw [dI] at d;cases d
 ·rw [x.zh.C.2.2.1] at q;cases q;cases d
theorem ZAcc.low{P:Nat->Tok->Tok->Array Value->Prop}{DC:Array Value}{t:Tok}(x:ZAcc B P lo h DC t)(hl:Es<=lo):ZAcc B P Es h DC t:=by
 refine kF (x.pr) λf a b c=>?_
 refine⟨f,λi v e=>?_,b,c⟩
 obtain⟨ta,tb,l1,l2,l3,T,Kx,kv,kk,rfl,h1,h2,r⟩:=a i v e
 exact⟨ta,tb,l1,l2,l3,T,Kx,kv,kk,rfl,ab hl h1,ab hl h2,r⟩
structure ZSt(K:Frag)(B:Heap)(D:ZD)(fr:List Env)(P:Nat->Tok->Tok->Array Value->Prop)(s0:Shared)(S:Nat)(i:Nat)(DC:Array Value)(s:Shared):Prop where
 zb:∃k f0 f1 DW,ZB K B D fr i i k (oo D f0 f1) DW s0.heap s.heap/\k≠0/\((f0=.none/\(∃a b,DW=yH a b)/\i=0)\/((∃(al:Nat) (oa:Obj),f0=rawInt al/\s.heap.get? al=some oa)/\∀es ep,DW.data≠.dict es ep))
 ac:ZAcc B P (S+1) s.heap DC s.toks
 sz:DC.size=i
 lst:∃c,s.heap.get? S=some (wi DC c)
 same:s={s0 with heap:=s.heap,toks:=s.toks}
 tk:s0.toks<=s.toks
 ss:S<s.heap.objs.size
theorem um{P:Nat->Tok->Tok->Array Value->Prop}{k:Tok}{n:Nat}{Q:List Value->Shared->Prop}(lt:ZLt D)(hB:B.objs.size<=D.LI)(r:Room A 10)(t0:0<s.toks)(D0:A.frames=some fr)(offB:∀L∈d4 fr,B.get? L=none)
  (x:ZB K B D fr 0 0 k (oo D .none (.bool false)) (yH .none .none) s.heap s.heap) (hk:k≠0) (Ff:D.k2≠0) (hn:D.items.size=n) (Gi:0<n) (Ex:n<=1000) (key:∀i row,D.items[i]?=some row->KeyCall w K B D.F row (P i))
  (hQ:∀DC h' t',ZAcc B P (s.heap.objs.size+1) h' DC t'->DC.size=n->Sl (zch D) fr s.heap h'->Bt K B h'->StkOk fr h'->s.toks<=t'->Q DC.toList {s with heap:=h',toks:=t'}):
  wpAny (model prog w) A (collect (.ref D.z)) Q E s:=by
 have hz:=x.zh.z
 have HK:D.z<s.heap.objs.size:=aX hz
 refine ul hz λS Dy c g1 Ft HB I4=>?_
 refine uX (n:=n) (λi DC s'=>ZSt K B D fr P s S i DC s'/\S=S) Ex (λi DC s' h=>h.1.sz) ?_ ?_ n 0 #[] _ yT (bY _) ?_
 ·rintro i DC s' hi ⟨⟨⟨k',f0,I8,DW,zb,Fr,Ey⟩,ac,sz,⟨c',lst⟩,same,tk,ss⟩,_⟩
  obtain⟨row,Ga⟩:∃row,D.items[i]?=some row:=⟨_,aY (fv hi hn)⟩
  have SD:ZB K B D fr i i k' (oo D f0 I8) DW s'.heap s'.heap:={zb with sl:=Sl.refl _ _ _}
  have t':0<s'.toks:=ad t0 tk
  refine sQ lt hB r.in1 t' D0 offB SD (Ey.imp (λh=>⟨h.1,h.2.1⟩) id) Fr Ff Ga (key i row Ga) λv Ds Vm=>?_
  obtain⟨Kx,T,al,oa,kv,k₂,ta,tb,Pq,JT,rfl,FG,MD,NU,LP,nT2,hT,hK,hKs,OX,hp,l1,l2,l3⟩:=Vm
  have Eu:=NU.sl
  have O1:S∉zch D:=λh=>by have:=lt.le h;exact bX 0xba10a9149b12 D.z s.heap.objs.size S rfl HK Ft this
  have Mi:Ds.heap.get? S=some (wi DC c'):=Eu.kept S _ O1 (dC zb.stk lst λ_ _ q=>by cases q) lst
  refine⟨.ref T,c',rfl,Mi,λh' VH e1 u e2=>⟨?_,rfl⟩⟩
  have keepAcc:∀(b:Nat) o,S+1<=b->(∀es ep,o.data≠.dict es ep)->(∃xs n,o.data=.seq xs n/\o.cls=.type "tuple")->s'.heap.get? b=some o->h'.get? b=some o:=λb o hb nd _ q =>
   u b o (aB ‹_›) (Eu.kept b o (λh=>by have:=lt.le h;exact dh 0x1911b210ba10a9149c12 D.z s.heap.objs.size S b rfl HK Ft hb this) (dC zb.stk q nd) q)
  have SB:ZB K B D fr (i+1) (i+1) k₂ (oo D (rawInt al) Pq) JT s.heap Ds.heap:={NU with sl:=zb.sl.trans NU.sl}
  have SC:ZB K B D fr (i+1) (i+1) k₂ (oo D (rawInt al) Pq) JT s.heap h':=SB.over lt hB (ad ‹_› ‹_›) Ft Mi (λ_ _ q=>by cases q) e1 u (dj e2.symm)
  have Ke:∃N9,h'.get? al=some N9:=by
   by_cases q:al=S
   ·rw [q];exact⟨_,e1⟩
   ·exact⟨oa,u al oa q LP⟩
  obtain⟨N9,Ke⟩:=Ke
  have pr:ZPair B P (S+1) h' DC.size ta tb (.ref T):=⟨T,Kx,kv,k',rfl,bX 0x1742152297119210 S s'.heap.objs.size T rfl ss OX,bX 0x1742152297119210 S s'.heap.objs.size Kx rfl ss hKs,Fr,by rw [sz];exact gq hT λo=>u T o (sV ss OX),gq hK λo=>u Kx o (sV ss hKs),by rw [sz];exact hp⟩
  have Ku:s.toks<=Ds.toks:=ab tk (ab l1 (ab l2 l3))
  have Rc:=Eu.sz
  refine⟨⟨k₂,rawInt al,Pq,JT,SC,FG,.inr ⟨⟨al,N9,rfl,Ke⟩,nT2⟩⟩,ZAcc.push (ac.keep (ag _) keepAcc) pr l1 l2 l3,by rw [dk,sz],⟨VH,e1⟩,?_,Ku,?_⟩
  ·rw [MD,same]
  ·show S<h'.objs.size
   exact dh 0xbc1cba10a914c914 S s'.heap.objs.size Ds.heap.objs.size h'.objs.size rfl ss Rc e2
 ·rintro DC s' ⟨⟨⟨k',f0,I8,DW,zb,Fr,Ey⟩,ac,sz,⟨c',lst⟩,same,tk,ss⟩,_⟩
  rcases Ey with ⟨_,_,h0⟩|⟨⟨al,oa,rfl,LP⟩,nT⟩
  ·exact AE Gi h0
  ·have MM:D.items[n]?=none:=du (wu hn)
   refine vA lt hB r.hand zb LP MM λh' kk Jn NY NX=>⟨rfl,DC,c',rfl,?_,?_⟩
   ·refine kk S _ (sV HK Ft) (λq=>?_) lst
    have:=lt.b;have:=lt.c;have:=lt.d;have:=lt.e;have:=lt.f;have:=lt.g
    exact y_719 ‹_› ‹_› ‹_› this HK ‹_› ‹_› Ft q
   ·have nd:∀(b:Nat) o,b∉zch D->s'.heap.get? b=some o->h'.get? b=some o:=λb o hb q=>kk b o (λz=>hb (by rw [z];simp)) (λz=>hb (by rw [z];simp)) q
    obtain⟨oI,eI,_,dI⟩:=id zb.zh.LI
    have Fo:Sl (zch D) fr s'.heap h':=by
     refine⟨λb o h1 _ q=>nd b o h1 q,λb o h1 q=>⟨o.slots,kk b o (λz=>?_) (λz=>?_) q⟩,Jn,λb o q=>?_⟩
     ·rw [z] at h1;exact dC zb.stk zb.zh.z (ndO D _ _) h1
     ·rw [z] at h1;exact dC zb.stk eI (λ_ _ q=>by rw [dI] at q;cases q) h1
     ·by_cases Gq:b=D.z
      ·rw [Gq];exact NX
      ·by_cases RG:b=D.LI
       ·rw [RG];exact NY
       ·exact⟨o,kk b o Gq RG q⟩
    have:=hQ DC h' s'.toks ((ac.keep (ag _) λb o hb nd' _ q=>nd b o (λh=>by have:=lt.le h;exact dh 0x1911b210ba10a9149c12 D.z s.heap.objs.size S b rfl HK Ft hb this) q).low (b6 0x2a4422345119210 s.heap.objs.size S rfl Ft)) ‹_› (zb.sl.trans Fo) (zb.bt.sl Fo (λb hb=>by
      have:=lt.b;have:=lt.c;have:=lt.d;have:=lt.e;have:=lt.f;have:=lt.g
      simp at hb;rcases hb with rfl|rfl|rfl|rfl<;>lia) offB) (zb.stk.sl Fo (zb.nns (ndO D _ _) nT)) tk
    rw [same]
    exact this
 ·refine⟨⟨⟨k,.none,.bool false,yH .none .none,?_,hk,.inl ⟨rfl,⟨.none,.none,rfl⟩,rfl⟩⟩,ZAcc.nil,rfl,⟨c,I4⟩,rfl,ag _,HB⟩,rfl⟩
  exact x.up g1
end
structure Lin(n:Nat)(lt:Nat->Nat->Bool):Prop where
 tri:∀i j,i<n->j<n->i≠j->lt i j=!lt j i
 trans:∀i j k,i<n->j<n->k<n->lt i j=true->lt j k=true->lt i k=true
noncomputable def ye(n:Nat)(lt:Nat->Nat->Bool)(i j:Nat)(C:Bool->Shared->Prop)(s:Shared):Prop:=i<n/\j<n/\C (lt i j) s
noncomputable abbrev jY(p:Array Nat)(i:Nat):Nat:=p.getD i 0
noncomputable def PermN(n:Nat)(p:Array Nat):Prop:=p.Perm (i5 (aG n))
theorem PermN.size{n:Nat}{p:Array Nat}(h:PermN n p):p.size=n:=by have:=h.size_eq;simpa using this
theorem PermN.lt{n:Nat}{p:Array Nat}(h:PermN n p)(hi:i<n):jY p i<n:=by
 have hs:=h.size
 have e:jY p i=p[i]:=by simp [jY,Array.getD,hs,hi]
 rw [e]
 have:p[i]∈(aG n):=by
  have h2:=jx.mp h
  exact h2.mem_iff.mp (by rw [<-Array.mem_def];exact Array.getElem_mem _)
 simpa using this
theorem PermN.ne{n:Nat}{p:Array Nat}(h:PermN n p)(hi:i<n)(hj:j<n)(DV:i≠j):jY p i≠jY p j:=by
 have hs:=h.size
 have ei:jY p i=p[i]:=by simp [jY,Array.getD,hs,hi]
 have ej:jY p j=p[j]:=by simp [jY,Array.getD,hs,hj]
 rw [ei,ej]
 have h2:=jx.mp h
 have hn:p.toList.Nodup:=h2.nodup_iff.mpr List.nodup_range
 intro e
 have:=(@List.getElem_inj _ _ _ _ (by simpa [hs] using hi) (by simpa [hs] using hj) hn).mp (by simpa using e)
 exact DV this
theorem uS{p q:Array Nat}(h:p[i]?=q[j]?):jY p i=jY q j:=by
 simp only [jY,Array.getD_eq_getD_getElem?,h]
noncomputable def AscN(lt:Nat->Nat->Bool)(p:Array Nat)(m:Nat):Prop:=∀i j,i<j->j<m->lt (jY p i) (jY p j)=true
noncomputable def DescN(lt:Nat->Nat->Bool)(p:Array Nat)(m:Nat):Prop:=∀i j,i<j->j<m->lt (jY p j) (jY p i)=true
section
variable{n:Nat}{lt:Nat->Nat->Bool}
theorem AscN.succ{p:Array Nat}{m:Nat}(L:Lin n lt)(hp:PermN n p)(hm:m<n)(h1:1<=m)(a:AscN lt p m)(h:lt (jY p (m-1)) (jY p m)=true):AscN lt p (m+1):=λi j DV hj=>by
 by_cases LJ:j=m
 ·subst LJ
  by_cases hi:i=j-1
  ·subst hi;exact h
  ·exact L.trans _ _ _ (hp.lt (gm DV hm)) (hp.lt (vH hm)) (hp.lt hm) (a i (j-1) (Cq DV hi) (vI h1)) h
 ·exact a i j DV (s6 hj LJ)
theorem DescN.succ{p:Array Nat}{m:Nat}(L:Lin n lt)(hp:PermN n p)(hm:m<n)(h1:1<=m)(a:DescN lt p m)(h:lt (jY p m) (jY p (m-1))=true):DescN lt p (m+1):=λi j DV hj=>by
 by_cases LJ:j=m
 ·subst LJ
  by_cases hi:i=j-1
  ·subst hi;exact h
  ·exact L.trans _ _ _ (hp.lt hm) (hp.lt (vH hm)) (hp.lt (gm DV hm)) h (a i (j-1) (Cq DV hi) (vI h1))
 ·exact a i j DV (s6 hj LJ)
theorem yC{p:Array Nat}(L:Lin n lt)(hp:PermN n p){Q:Nat->Shared->Prop}:∀(f m:Nat),1<=m->m+f<=n->AscN lt p m->(∀m',m<=m'->m'<=m+f->AscN lt p m'->(m'=m+f\/(m'<n/\lt (jY p m') (jY p (m'-1))=true))->Q m' s)->(kas_asc p f m).kasWp (ye n lt) Q s
 |0,m,h1,h2,a,hq=>hq m (ag _) (ag _) a (.inl rfl)
 |f+1,m,h1,h2,a,hq=>by
  refine⟨hp.lt (pq h2),hp.lt (s7 h2),?_⟩
  cases hc:lt (jY p m) (jY p (m-1)) with
  |true =>
   exact hq m (ag _) sX a (.inr ⟨by exact pq h2,hc⟩)
  |false =>
   have h3:=L.tri _ _ (hp.lt (show m<n by exact pq h2)) (hp.lt (show m-1<n by exact s7 h2)) (hp.ne (pq h2) (s7 h2) (y_23 h1))
   rw [hc] at h3
   have h4:lt (jY p (m-1)) (jY p m)=true:=by simpa using h3.symm
   exact yC L hp f (m+1) (cV 9179566352 m rfl) (bX 0x2e23452421751192210 m f n rfl h2) (a.succ L hp (pq h2) h1 h4) λm' g1 g2 g3 g4=>hq m' (aJ ‹_›) (bX 0x2e2344522111b2a2910 m' m f rfl g2) g3 (g4.imp (λq=>by exact y_510 q) id)
theorem xT{p:Array Nat}(L:Lin n lt)(hp:PermN n p){Q:Array Nat×Nat×Nat->Shared->Prop}:∀(f m:Nat),1<=m->m+f<=n->DescN lt p m->(∀m',m<=m'->m'<=m+f->DescN lt p m'->Q (p,m',0) s)->(kas_desc f p m 0).kasWp (ye n lt) Q s
 |0,m,h1,h2,a,hq=>hq m (ag _) (ag _) a
 |f+1,m,h1,h2,a,hq=>by
  refine⟨hp.lt (pq h2),hp.lt (s7 h2),?_⟩
  cases hc:lt (jY p m) (jY p (m-1)) with
  |true =>
   exact xT L hp f (m+1) (cV 9179566352 m rfl) (bX 0x2e23452421751192210 m f n rfl h2) (a.succ L hp (pq h2) h1 hc) λm' g1 g2 g3=>hq m' (aJ ‹_›) (bX 0x2e2344522111b2a2910 m' m f rfl g2) g3
  |false =>
   have h3:=L.tri _ _ (hp.lt (show m<n by exact pq h2)) (hp.lt (show m-1<n by exact s7 h2)) (hp.ne (pq h2) (s7 h2) (y_23 h1))
   rw [hc] at h3
   have h4:lt (jY p (m-1)) (jY p m)=true:=by simpa using h3.symm
   refine⟨hp.lt (s7 h2),hp.lt (pq h2),?_⟩
   show (if lt (p.getD (m-1) 0) (p.getD m 0)=true then KasT.ret (p,m,0) else kas_desc f p (m+1) (0+1)).kasWp (ye n lt) Q s
   rw [if_pos h4]
   exact hq m (ag _) sX a
theorem uI{p:Array Nat}(hp:PermN n p)(i j:Nat):PermN n (kas_rev p i j):=(mirror_perm _ _ _ _).trans hp
theorem A1{p:Array Nat}{m:Nat}(hp:PermN n p)(hm:m<=n)(a:DescN lt p m):AscN lt (kas_rev p 0 m) m:=λi j DV hj=>by
 have g:∀k,k<m->jY (kas_rev p 0 m) k=jY p (m-1-k):=λk hk=>uS (by
  show (mirror p 0 m ((m-0)/2))[k]?=_
  rw [getElem?_mirror_all (by rw [hp.size];exact hm),if_pos ⟨by exact cV 590096 k rfl,hk⟩]
  congr 1;exact y_475)
 rw [g i (gm DV hj),g j hj]
 exact a (m-1-j) (m-1-i) (y_94 hj DV) (y_96 hj)
theorem AV{p:Array Nat}{m:Nat}(L:Lin n lt)(hp:PermN n p)(h1:1<=m)(hm:m<=n)(a:DescN lt p m){Q:Nat×Array Nat->Shared->Prop}(hq:∀m' p',1<=m'->m'<=n->PermN n p'->AscN lt p' m'->Q (m',p') s):(kas_tail3 m n p).kasWp (ye n lt) Q s:=by
 unfold kas_tail3
 rw [fS]
 exact yC L (uI hp 0 m) (n-m) m h1 (Ck hm) (A1 hp hm a) λm' g1 g2 g3 _=>hq m' _ (ad ‹_› ‹_›) (y_403 hm ‹_›) (uI hp 0 m) g3
theorem ui{p:Array Nat}{m:Nat}(L:Lin n lt)(hp:PermN n p)(h1:1<=m)(hm:m+1<=n)(a:DescN lt p (m+1)){Q:Nat×Array Nat->Shared->Prop}(hq:∀m' p',1<=m'->m'<=n->PermN n p'->AscN lt p' m'->Q (m',p') s):(kas_descPart m n p).kasWp (ye n lt) Q s:=by
 unfold kas_descPart
 rw [fS]
 refine xT L hp (n-(m+1)) (m+1) (cV 9179566352 m rfl) (Ck hm) a λm' g1 g2 g3=>?_
 exact AV L hp (b6 741286694162704 m m' rfl g1) (y_380 g2 hm) g3 hq
theorem zI{p:Array Nat}(L:Lin n lt)(hp:PermN n p)(hn:1<=n){Q:Nat×Array Nat->Shared->Prop}(hq:∀m' p',1<=m'->m'<=n->PermN n p'->AscN lt p' m'->Q (m',p') s):(kas_count n p).kasWp (ye n lt) Q s:=by
 unfold kas_count
 rw [fS]
 refine yC L hp (n-1) 1 (ag _) (y_251 hn) (λi j DV hj=>by exact y_771 hj DV) λm g1 g2 g3 g4=>?_
 by_cases Nu:m=n
 ·rw [if_pos (by simpa using Nu)]
  exact hq m p g1 (wu Nu) hp g3
 ·rw [if_neg (by simpa using Nu)]
  obtain⟨QA,hl⟩:=g4.resolve_left (y_644 hn Nu)
  by_cases Gs:m>1
  ·rw [if_pos Gs]
   refine⟨hp.lt ‹_›,hp.lt (vH QA),?_⟩
   show (if lt (p.getD 0 0) (p.getD (m-1) 0)=true then KasT.ret (m,p) else kas_descPart m n (kas_rev p 0 m)).kasWp (ye n lt) Q s
   rw [if_pos (g3 0 (m-1) (b6 0x2234522131114a0114 m (m-(1:Nat)) rfl Gs (fG m (1:Nat))) (vI g1))]
   exact hq m p g1 (aJ ‹_›) hp g3
  ·rw [if_neg Gs]
   have:m=1:=by exact y_508 g1 Gs
   subst this
   refine ui L hp (ag _) ‹_› (λi j DV hj=>?_) hq
   have LK:i=0:=by exact y_503 hj DV
   have UX:j=1:=by exact y_506 hj DV
   subst LK UX
   exact hl
theorem qz{p:Array Nat}(L:Lin n lt)(hp:PermN n p)(hk:k<n)(a:AscN lt p k){Q:Nat->Shared->Prop}:∀(f l r:Nat),l<=r->r<=k->r-l<=f->(∀i,i<l->lt (jY p i) (jY p k)=true)->(∀i,r<=i->i<k->lt (jY p k) (jY p i)=true) ->
  (∀m,m<=k->(∀i,i<m->lt (jY p i) (jY p k)=true)->(∀i,m<=i->i<k->lt (jY p k) (jY p i)=true)->Q m s)->(kas_place p k f l r).kasWp (ye n lt) Q s
 |0,l,r,h1,h2,h3,h4,h5,hq=>hq l (ab ‹_› ‹_›) h4 λi hi hk=>h5 i (dh 0xa92c10ba1001910bc10 (r-l) l i r rfl h3 hi (fG r l)) hk
 |f+1,l,r,h1,h2,h3,h4,h5,hq=>by
  unfold kas_place
  by_cases Nx:l≥r
  ·rw [if_pos Nx]
   exact hq l (ab ‹_› ‹_›) h4 λi hi hk=>h5 i (ab ‹_› ‹_›) hk
  ·rw [if_neg Nx]
   have Gs:(l+r)/2<r:=by exact bX 0x9a2b22410a9129b24 r l ((l+r)/(2:Nat)) rfl Nx (divC 2 (by decide) (l+r)).1
   have LH:l<=(l+r)/2:=by exact bX 0x221b22429a214a912ba20 r l ((l+r)/(2:Nat)) rfl Nx (divC 2 (by decide) (l+r)).2
   refine⟨hp.lt hk,hp.lt (wy Gs hk h2),?_⟩
   have R':=L.tri _ _ (hp.lt hk) (hp.lt (show (l+r)/2<n by exact wy Gs hk h2)) (hp.ne hk (wy Gs hk h2) (bX 0xba10a9149b1a ((l+r)/(2:Nat)) r k rfl Gs h2))
   cases hc:lt (jY p k) (jY p ((l+r)/2)) with
   |true =>
    refine qz L hp hk a f l ((l+r)/2) LH (bX 0xba10a914b910 ((l+r)/(2:Nat)) r k rfl Gs h2) (y_269 h3) h4 (λi hi Fr=>?_) hq
    by_cases he:i=(l+r)/2
    ·subst he;exact hc
    ·exact L.trans _ _ _ (hp.lt hk) (hp.lt (wy Gs hk h2)) (hp.lt (gm Fr hk)) hc (a _ i (Cn hi he) Fr)
   |false =>
    rw [hc] at R'
    have h6:lt (jY p ((l+r)/2)) (jY p k)=true:=by simpa using R'.symm
    refine qz L hp hk a f ((l+r)/2+1) r ‹_› h2 (y_270 h3) (λi hi=>?_) h5 hq
    by_cases he:i=(l+r)/2
    ·subst he;exact h6
    ·exact L.trans _ _ _ (hp.lt (gk 0x19621b829742911a2914d914 i ((l+r)/(2:Nat)) r k n rfl hi Gs hk h2)) (hp.lt (wy Gs hk h2)) (hp.lt hk) (a i _ (s6 hi he) (ad ‹_› ‹_›)) h6
theorem wb{p:Array Nat}{m:Nat}(hp:PermN n p)(hk:k<n)(hm:m<=k)(a:AscN lt p k)(h4:∀i,i<m->lt (jY p i) (jY p k)=true)(h5:∀i,m<=i->i<k->lt (jY p k) (jY p i)=true):AscN lt (bubble p k (k-m)) (k+1):=λi j DV hj=>by
 have g:∀q,jY (bubble p k (k-m)) q=if q=m then jY p k else if m<q/\q<=k then jY p (q-1) else jY p q:=λq=>by
  have e:=getElem?_bubble (xs:=p) (src:=k) (by rw [hp.size];exact hk) (k-m) (b6 2836441360 (k-m) k rfl (cZ k m)) q
  rw [show k-(k-m)=m by exact y_480 hm] at e
  split
  ·rename_i h;rw [if_pos h] at e;exact uS e
  ·rename_i h
   rw [if_neg h] at e
   split
   ·rename_i h';rw [if_pos h'] at e;exact uS e
   ·rename_i h';rw [if_neg h'] at e;exact uS e
 rw [g i,g j]
 by_cases hi:i=m
 ·rw [if_pos hi,if_neg (by exact bX 0xb91ca914ba1a i j m rfl DV hi),if_pos (by exact y_572 hj DV hi)]
  exact h5 (j-1) (dh 0x111c2a10b91ca914cb10 i j m (j-(1:Nat)) rfl DV hi (fG j (1:Nat))) (AN hj DV)
 ·rw [if_neg hi]
  by_cases GX:j=m
  ·rw [if_pos GX,if_neg (λu1=>bX 0xba18a9149b16 i j m rfl DV GX u1.1)]
   exact h4 i (fq DV GX)
  ·rw [if_neg GX]
   by_cases Ir:m<i
   ·rw [if_pos (y_569 Ir hj DV),if_pos (y_571 hj Ir DV)]
    exact a (i-1) (j-1) (y_99 DV Ir) (AN hj DV)
   ·rw [if_neg (λu1=>b6 2836834582 m i rfl Ir u1.1)]
    by_cases Hy:m<j
    ·rw [if_pos (y_570 hj Hy)]
     by_cases he:j-1=i
     ·exact y_774 Hy he Ir hi
     ·exact a i (j-1) (y_171 Hy Ir hi) (AN hj Hy)
    ·rw [if_neg (λu1=>b6 2836834582 m j rfl Hy u1.1)]
     exact a i j DV (y_203 hm Hy GX)
theorem AB(L:Lin n lt){Q:Array Nat->Shared->Prop}:∀(f:Nat) (p:Array Nat) (k:Nat),PermN n p->k+f=n->AscN lt p k->(∀p',PermN n p'->AscN lt p' n->Q p' s)->(kas_bin f p k).kasWp (ye n lt) Q s
 |0,p,k,hp,hk,a,hq=>hq p hp (by rw [<-hk];exact a)
 |f+1,p,k,hp,hk,a,hq=>by
  unfold kas_bin
  rw [fS]
  refine qz L hp (bX 6493314397813012 k f n rfl hk) a k 0 k (bY _) (ag _) (ag _) (λi hi=>BS hi) (λi h1 h2=>y_772 h2 h1) λm hm h4 h5=>?_
  exact AB L f (bubble p k (k-m)) (k+1) ((bubble_perm _ _ _).trans hp) (y_435 hk) (wb hp (bX 6493314397813012 k f n rfl hk) hm a h4 h5) hq
theorem AW(L:Lin n lt)(hn:1<=n){Q:Array Nat->Shared->Prop}(hq:∀p,PermN n p->AscN lt p n->Q p s):(kas_sort n).kasWp (ye n lt) Q s:=by
 unfold kas_sort
 rw [fS]
 refine zI L (Array.Perm.refl _) hn λm p h1 h2 hp a=>?_
 by_cases hm:m<n
 ·rw [if_pos hm]
  have e:max m 1=m:=y_494 h1
  rw [e]
  exact AB L (n-m) p m hp (AH hm) a hq
 ·rw [if_neg hm]
  have:m=n:=vC h2 hm
  exact hq p hp (by rw [<-this];exact a)
end
section
open SeqAt
theorem oQ:∀(a b:List Int),a.length=b.length->a≠b->fg a b=!fg b a
 |[],[],_,h=>absurd rfl h
 |x::a,y::b,hl,h=>by
  simp only [lxc,lxl,lxn,lxr]
  by_cases Fe:x=y
  ·subst Fe
   simp only [if_true]
   exact oQ a b (by simpa using hl) (λe=>h (by rw [e]))
  ·rw [if_neg Fe,if_neg (λe=>Fe e.symm)]
   by_cases DH:x<y
   ·simp [DH,show ¬y<x by exact wo DH]
   ·simp [DH,show y<x by exact y_222 DH Fe]
 |[],_::_,hl,_=>by simp at hl
 |_::_,[],hl,_=>by simp at hl
theorem ku:∀(a b c:List Int),a.length=b.length->b.length=c.length->fg a b=true->fg b c=true->fg a c=true
 |[],[],_,_,_,h,_=>by simp [lxc,lxl,lxn,lxr] at h
 |x::a,y::b,z::c,h1,h2,h3,h4=>by
  simp only [lxc,lxl,lxn,lxr] at h3 h4 ⊢
  by_cases Fe:x=y
  ·subst Fe
   simp only [if_true] at h3
   by_cases RI:x=z
   ·subst RI
    simp only [if_true] at h4 ⊢
    exact ku a b c (by simpa using h1) (by simpa using h2) h3 h4
   ·rw [if_neg RI] at h4 ⊢
    exact h4
  ·rw [if_neg Fe] at h3
   have h5:x<y:=by simpa using h3
   by_cases RH:y=z
   ·subst RH
    rw [if_neg Fe];exact h3
   ·rw [if_neg RH] at h4
    have h6:y<z:=by simpa using h4
    rw [if_neg (by lia)]
    simp;lia
 |[],_::_,_,h,_,_,_=>by simp at h
 |_::_,[],_,h,_,_,_=>by simp at h
 |_::_,_::_,[],_,h,_,_=>by simp at h
noncomputable def kLt(ki:Nat->List Int)(c:Nat->Int)(i j:Nat):Bool:=if ki i=ki j then decide (c i<c j) else fg (ki i) (ki j)
theorem Bi{c:Nat->Int}{n:Nat}(hl:∀i j,i<n->j<n->(ki i).length=(ki j).length)(hc:∀i j,i<n->j<n->i≠j->c i≠c j):Lin n (kLt ki c):=by
 refine⟨λi j hi hj DV=>?_,λi j k hi hj hk h1 h2=>?_⟩
 ·unfold kLt
  by_cases e:ki i=ki j
  ·rw [if_pos e,if_pos e.symm]
   have:=hc i j hi hj DV
   by_cases DH:c i<c j
   ·simp [DH,show ¬c j<c i by exact wo DH]
   ·simp [DH,show c j<c i by exact y_218 this DH]
  ·rw [if_neg e,if_neg (λq=>e q.symm)]
   exact oQ _ _ (hl i j hi hj) e
 ·unfold kLt at h1 h2 ⊢
  by_cases e1:ki i=ki j
  ·rw [if_pos e1] at h1
   by_cases e2:ki j=ki k
   ·rw [if_pos e2] at h2
    rw [if_pos (e1.trans e2)]
    simp at h1 h2 ⊢
    exact pj 0xba15a915b915 (c i) (c j) (c k) rfl h1 h2
   ·rw [if_neg e2] at h2
    rw [if_neg (by rw [e1];exact e2),e1]
    exact h2
  ·rw [if_neg e1] at h1
   by_cases e2:ki j=ki k
   ·rw [if_neg (by rw [<-e2];exact e1),<-e2]
    exact h1
   ·rw [if_neg e2] at h2
    have h3:=ku _ _ _ (hl i j hi hj) (hl j k hj hk) h1 h2
    by_cases e3:ki i=ki k
    ·exfalso
     have h4:=oQ (ki i) (ki j) (hl i j hi hj) e1
     rw [e3] at h1 h4
     rw [h1,h2] at h4
     cases h4
    ·rw [if_neg e3];exact h3
theorem C8{v w:Value}(hu:A.units<cLine)(Du:r.length=r'.length)(hv:At 0 s.heap v (tI r))(hw:At 0 s.heap w (tI r')):EqAt A s v w (r==r'):=by
 have OD:=CI hu Du hv hw
 refine fL (At.tup.mp hv) λa items Dz _ hl Dw=>?_;subst Dz
 refine fL (At.tup.mp hw) λb Dx Dz _ Ej DG=>?_;subst Dz
 by_cases E1:a=b
 ·subst E1
  have e:items=Dx:=by
   obtain⟨o,e1,_,n1,d1⟩:=hl
   obtain⟨o2,e2,_,n2,d2⟩:=Ej
   rw [e1] at e2;cases e2;rw [d1] at d2;cases d2;rfl
  subst e
  have:r=r':=IA.inj (IA.of Dw) (IA.of DG)
  subst this
  rw [beq_self_eq_true]
  exact EqAt.same _
 ·exact EqAt.of_refs E1 OD
theorem A7{x y a b:Nat}{i j:Int}{t u:Tok}{Q:Bool->Shared->Prop}(hu:A.units<cLine)(hx:s.heap.IsTuple x #[.ref a,.int i t])(hy:s.heap.IsTuple y #[.ref b,.int j u])(ha:At 0 s.heap (.ref a) (tI r))(hb:At 0 s.heap (.ref b) (tI r'))(Du:r.length=r'.length)
  (DV:r=r'->i≠j) (hQ:Q (if r=r' then decide (i<j) else fg r r') s):wpAny (model prog w) A (keyLt' (tuples' false) (.ref x) (.ref y)) Q (λ_ _=>False) s:=by
 obtain⟨ox,ex,_,n,dx⟩:=hx
 obtain⟨oy,ey,_,k,dy⟩:=hy
 refine kat_lt ex dx ey dy ?_
 refine kat_cons (C8 hu Du ha hb prog w _ _ ?_)
 by_cases e:r=r'
 ·rw [if_pos e] at hQ
  subst e
  rw [beq_self_eq_true]
  refine kat_yes (kat_cons (hZ ?_))
  have:(i==j)=false:=beq_eq_false_iff_ne.mpr (DV rfl)
  rw [this]
  exact kat_no (kat_one _ _ (lV hQ))
 ·rw [if_neg e] at hQ
  have:(r==r')=false:=beq_eq_false_iff_ne.mpr e
  rw [this]
  refine fL (At.tup.mp ha) λa' items e1 _ hl Dw=>?_
  refine fL (At.tup.mp hb) λb' Dx e2 _ Ej DG=>?_
  cases e1;cases e2
  exact kat_no (kat_one _ _ (rT hl Ej (IA.of Dw) (IA.of DG) Du hu hQ))
end
section
open SeqAt
structure SortIn(h:Heap)(vs:List Value)(T Kx:Nat->Nat)(ki:Nat->List Int)(c:Nat->Int)(ct:Nat->Tok):Prop where
 at_:∀i,i<vs.length->vs[i]?=some (.ref (T i))/\h.IsTuple (T i) #[.ref (Kx i),.int (c i) (ct i)]/\At 0 h (.ref (Kx i)) (tI (ki i))
structure Sig(n:Nat)(b:Bool)(lt:Nat->Nat->Bool)(σ:Nat->Nat):Prop where
 bd:∀q,q<n->σ q<n
 inj:∀q q',q<n->q'<n->q≠q'->σ q≠σ q'
 ord:∀q q',q<q'->q'<n->(if b then lt (σ q') (σ q) else lt (σ q) (σ q'))=true
noncomputable def wg(b:Bool)(n i:Nat):Nat:=if b then n-1-i else i
theorem gc{b:Bool}{n:Nat}(h:i<n):wg b n i<n:=by unfold wg;split<;>lia
theorem uH{b:Bool}{n:Nat}(hi:i<n)(hj:j<n)(h:i≠j):wg b n i≠wg b n j:=by unfold wg;split<;>lia
theorem qd:∀(vs fs:List Value),vs.length=fs.length->(∀(i:Nat) v,vs[i]?=some v->∃a o xs n f,v=.ref a/\h.get? a=some o/\o.cls=.type "tuple"/\o.data=.seq xs n/\xs[0]?=some f/\fs[i]?=some f)->KatTups h vs fs
 |[],[],_,_=>trivial
 |v::vs,f::fs,hl,hp=>by
  refine⟨?_,qd vs fs (by simpa using hl) λi v hv=>hp (i+1) v (by simpa using hv)⟩
  obtain⟨a,o,xs,n,f',e1,e2,e3,e4,e5,e6⟩:=hp 0 v rfl
  simp at e6
  subst e6
  exact⟨a,o,xs,n,e1,e2,e3,e4,e5⟩
 |[],_::_,hl,_=>by simp at hl
 |_::_,[],hl,_=>by simp at hl
theorem tG(vs:List Value):(vs.toArray.zip vs.toArray).reverse=pairsOf vs.reverse:=by
 apply eR.mp
 rw [Array.toList_reverse,pairsOf_toList,Array.toList_zip]
 have h:∀l:List Value,l.zip l=l.map λx=>(x,x):=by
  intro l;induction l with
  |nil=>rfl
  |cons a l ih=>simp [ih]
 rw [h,h,List.map_reverse]
theorem xy{n:Nat}{lt:Nat->Nat->Bool}{cmp:Nat->Nat->(Bool->Shared->Prop)->Shared->Prop}{Q:α->Shared->Prop}(h:∀i j C,i<n->j<n->i≠j->C (lt i j) s->cmp i j C s)(J5:∀i C,i<n->C (lt i i) s->cmp i i C s):∀(t:KasT α),t.kasWp (ye n lt) Q s->t.kasWp cmp Q s
 |.ret a,x=>x
 |.ask i j k,x=>by
  obtain⟨hi,hj,x⟩:=x
  by_cases DV:i=j
  ·subst DV;exact J5 i _ hi (xy h J5 (k (lt i i)) x)
  ·exact h i j _ hi hj DV (xy h J5 (k (lt i j)) x)
theorem xd{x a:Nat}{i:Int}{t:Tok}{Q:Bool->Shared->Prop}(hu:A.units<cLine)(hx:s.heap.IsTuple x #[.ref a,.int i t])(ha:At 0 s.heap (.ref a) (tI r))(hQ:Q false s):wpAny (model prog w) A (keyLt' (tuples' false) (.ref x) (.ref x)) Q (λ_ _=>False) s:=by
 obtain⟨ox,ex,_,n,dx⟩:=hx
 refine kat_lt ex dx ex dx ?_
 refine kat_cons (C8 hu rfl ha ha prog w _ _ ?_)
 rw [beq_self_eq_true]
 refine kat_yes (kat_cons (hZ ?_))
 rw [beq_self_eq_true]
 exact kat_yes (kat_nil hQ)
theorem AZ{vs:List Value}{c:Nat->Int}(b:Bool)(hu:A.units<cLine)(sd:SortIn s.heap vs T Kx ki c ct)(h2:2<=vs.length)(K2:vs.length<64)
  (hl:∀i j,i<vs.length->j<vs.length->(ki i).length=(ki j).length) (hc:∀i j,i<vs.length->j<vs.length->i≠j->c i≠c j):
  wpAny (model prog w) A (sortRuns'.run (SortSt.mk' (tuples' false) (if b then(vs.toArray.zip vs.toArray).reverse else vs.toArray.zip vs.toArray) #[] 7 none))
   (λr s'=>s'=s/\failedOf r.2=none/\∃σ,Sig vs.length b (kLt ki c) σ/\∀out,out=(if b then((arrOf r.2).map (·.2)).reverse else(arrOf r.2).map (·.2))->out.size=vs.length/\∀q,q<vs.length->out[q]?=vs[σ q]?) E s:=by
 generalize hn:vs.length=n at *
 have FJ:∃EB:List Value,EB.length=n/\(if b then(vs.toArray.zip vs.toArray).reverse else vs.toArray.zip vs.toArray)=pairsOf EB/\∀i,i<n->EB[i]?=vs[wg b n i]?:=by
  cases b with
  |false=>exact⟨vs,hn,rfl,λi hi=>rfl⟩
  |true =>
   refine⟨vs.reverse,by rw [List.length_reverse];exact hn,by rw [if_pos rfl];exact tG vs,λi hi=>?_⟩
   rw [List.getElem?_reverse (fv hi hn)]
   unfold wg
   rw [if_pos rfl,hn]
 obtain⟨EB,Et,Ey,UY⟩:=FJ
 rw [Ey]
 have Vy:SortSt.mk' (tuples' false) (pairsOf EB) #[] 7 none=kas_st (tuples' false) (pairsOf EB) (i5 (aG n)):=by
  have e:=kas_range (pairsOf EB)
  rw [pairsOf_size,Et] at e
  show SortSt.mk' (tuples' false) (pairsOf EB) #[] 7 none=SortSt.mk' (tuples' false) ((i5 (aG n)).map (kas_item (pairsOf EB))) #[] 7 none
  rw [e]
 rw [Vy]
 have L0:Lin n (kLt ki c):=Bi hl hc
 have L:Lin n (λi j=>kLt ki c (wg b n i) (wg b n j)):=⟨λi j hi hj DV=>L0.tri _ _ (gc hi) (gc hj) (uH hi hj DV),λi j k hi hj hk=>L0.trans _ _ _ (gc hi) (gc hj) (gc hk)⟩
 have GO:∀i,i<n->(kas_item (pairsOf EB) i)=(.ref (T (wg b n i)),.ref (T (wg b n i))):=λi hi=>by
  rw [kas_item_eq]
  have e1:=UY i hi
  rw [(sd.at_ (wg b n i) (by rw [hn];exact gc hi)).1] at e1
  have:EB.getD i eB=.ref (T (wg b n i)):=by rw [aw,e1];rfl
  rw [this]
 have ask:(kas_sort n).kasWp (kas_cmp prog w A (tuples' false) (pairsOf EB)) (λp s'=>s'=s/\PermN n p/\AscN (λi j=>kLt ki c (wg b n i) (wg b n j)) p n) s:=by
  refine xy (n:=n) (lt:=λi j=>kLt ki c (wg b n i) (wg b n j)) (λi j C hi hj DV hC=>?_) (λi C hi hC=>?_) _ (AW L (aJ ‹_›) λp hp ha=>⟨rfl,hp,ha⟩)
  ·unfold kas_cmp
   rw [GO i hi,GO j hj]
   obtain⟨_,t1,a1⟩:=sd.at_ (wg b n i) (by rw [hn];exact gc hi)
   obtain⟨_,t2,a2⟩:=sd.at_ (wg b n j) (by rw [hn];exact gc hj)
   exact A7 hu t1 t2 a1 a2 (hl _ _ (gc hi) (gc hj)) (λ_=>hc _ _ (gc hi) (gc hj) (uH hi hj DV)) hC
  ·unfold kas_cmp
   rw [GO i hi]
   obtain⟨_,t1,a1⟩:=sd.at_ (wg b n i) (by rw [hn];exact gc hi)
   refine xd hu t1 a1 ?_
   have:kLt ki c (wg b n i) (wg b n i)=false:=by unfold kLt;rw [if_pos rfl];simp
   rw [this] at hC
   exact hC
 have run:=kas_runs (E:=E) (Q:=λ_ EQ s'=>∃p:Array Nat,arrOf EQ=p.map (kas_item (pairsOf EB))/\failedOf EQ=none/\s'=s/\PermN n p/\AscN (λi j=>kLt ki c (wg b n i) (wg b n j)) p n)
  h2 K2 (λp' EQ s' a1 a2 a3 a4=>⟨p',a2,a3,a4⟩) ask
 refine bb run ?_ λ_ _ e=>e
 rintro⟨⟨⟩,EQ⟩ s' ⟨p,R7,hf,rfl,hp,ha⟩
 have ps:=hp.size
 refine⟨rfl,hf,λq=>wg b n (jY p (wg b n q)),⟨λq hq=>gc (hp.lt (gc hq)),λq q' hq Il DY=>uH (hp.lt (gc hq)) (hp.lt (gc Il)) (hp.ne (gc hq) (gc Il) (uH hq Il DY)),λq q' RN Il=>?_⟩,λout ho=>?_⟩
 ·cases b with
  |false=>exact ha q q' RN Il
  |true =>
   rw [if_pos rfl]
   exact ha (n-1-q') (n-1-q) (y_94 Il RN) (y_97 h2)
 ·have GC:∀i,i<n->((arrOf EQ).map (·.2))[i]?=vs[wg b n (jY p i)]?:=λi hi=>by
   have DH:=hp.lt hi
   have e2:p[i]?=some (jY p i):=by
    rw [aY (fv hi ps)]
    simp [jY,Array.getD,ps,hi]
   rw [R7,Array.getElem?_map,Array.getElem?_map,e2]
   show some (kas_item (pairsOf EB) (jY p i)).2=_
   rw [GO _ DH,(sd.at_ (wg b n (jY p i)) (by rw [hn];exact gc DH)).1]
  have hsz:((arrOf EQ).map (·.2)).size=n:=by rw [Array.size_map,R7,Array.size_map,ps]
  dsimp only at ho
  subst ho
  cases b with
  |false=>exact⟨hsz,λq hq=>GC q hq⟩
  |true =>
   rw [if_pos rfl]
   refine⟨by rw [Array.size_reverse];exact hsz,λq hq=>?_⟩
   rw [Array.getElem?_reverse (fv hq hsz),hsz]
   exact GC (n-1-q) (y_97 h2)
end
section
open SeqAt
section
variable{D:ZD}
theorem wR{l:Nat}{vs:List Value}{n0:Nat}{c:Nat->Int}(b:Bool){P:i9->Shared->Prop}(ho:s.heap.get? l=some (seqObj "list" vs.toArray n0))(hu:A.units<cLine)
  (sd:∀h',(∀(b:Nat) o,¬b=l->s.heap.get? b=some o->h'.get? b=some o)->SortIn h' vs T Kx ki c ct) (h2:2<=vs.length) (K2:vs.length<64)
  (hl:∀i j,i<vs.length->j<vs.length->(ki i).length=(ki j).length) (hc:∀i j,i<vs.length->j<vs.length->i≠j->c i≠c j)
  (hP:∀σ (out:Array Value) n1 h',Sig vs.length b (kLt ki c) σ->out.size=vs.length->(∀q,q<vs.length->out[q]?=vs[σ q]?)->h'.get? l=some (seqObj "list" out n1)->(∀(b:Nat) o,¬b=l->s.heap.get? b=some o->h'.get? b=some o)->s.heap.objs.size<=h'.objs.size->P (.done (.ret .none)) {s with heap:=h'}):
  wpAny (model prog w) A (Builtin.«list.sort» ⟨[.ref l],[(cF "reverse",.bool b)]⟩) P E s:=by
 have Ii:=sizeLine_eq
 rw [list_sort_rev]
 have ha:l<s.heap.objs.size:=aX ho
 refine aa (listItems_at ho rfl ?_)
 refine aa (listUpdate_at ho rfl ?_ (by rw [List.size_toArray];exact cV 0x806322900000051910 vs.length rfl K2) (bY _))
 obtain⟨e1,Im⟩:∃e1,(s.heap.update l (cX λ_=>#[])).get? l=some (seqObj "list" #[] e1):=⟨_,get?_update_seq ho (λ_=>#[])⟩
 refine aa (seqEpoch_at Im rfl ?_)
 refine aa (cW ?_ (by show vs.length<=_;exact cV 0x806322900000051910 vs.length rfl K2))
 refine aa (wpAny_newList ?_ (bY _))
 refine bp ?_
 generalize hH:((s.heap.update l (cX λ_=>#[])).push (seqObj "tuple" vs.toArray 0)).push (seqObj "list" #[] 0)=H
 have keep:∀(b:Nat) o,¬b=l->s.heap.get? b=some o->H.get? b=some o:=λb o hb q=>by
  rw [<-hH]
  exact af _ (af _ ((bJ _ _ (λz:l=b=>hb z.symm)).trans q))
 have OH:H.get? l=some (seqObj "list" #[] e1):=by rw [<-hH];exact af _ (af _ Im)
 have hHs:H.objs.size=s.heap.objs.size+2:=by rw [<-hH,ao,ao,bQ]
 have N5:=sd H keep
 have step:∀t:Sem i9,wpAny (model prog w) A t P E {s with heap:=H}->wpAny (model prog w) A (if b=true then(do let _ <-rule "list.sort.reverse";t) else t) P E {s with heap:=H}:=by
  intro t ht
  split
  ·exact aa (dB ht)
  ·exact ht
 refine step _ ?_
 have Ex:¬vs.toArray.size<2:=cV 0x922110221916 vs.length rfl h2
 rw [if_neg Ex,if_neg Ex]
 have Vw:∃fs:List Value,fs=(aG vs.length).map λi=>aM (Kx i):=⟨_,rfl⟩
 obtain⟨fs,IX⟩:=Vw
 have kt:KatTups H vs fs:=qd vs fs (by rw [IX];simp) λi v hv=>by
  have hi:i<vs.length:=(aV.mp hv).1
  obtain⟨e1,⟨o,e2,e3,n,e4⟩,_⟩:=N5.at_ i hi
  rw [hv] at e1;cases e1
  refine⟨T i,o,_,n,.ref (Kx i),rfl,e2,e3,e4,rfl,?_⟩
  rw [IX,ah,cs hi];rfl
 refine aa (kat_kind (s:={s with heap:=H}) (T:=.type "tuple") kt (by rw [IX];simp;exact cV 0x92211090114 vs.length rfl h2) (λv hv=>?_) (by decide) ?_)
 ·rw [IX] at hv
  refine ci (bK.mp hv) λi hi Dz=>?_;subst Dz
  refine a3 (N5.at_ i (cj.mp hi)) λ_ _ a1=>?_
  obtain⟨a,items,e,_,⟨o,e2,e3,_⟩,_⟩:=At.tup.mp a1
  cases e
  rw [<-e3]
  exact(show Looks (model prog w) H (typeOf (.ref (Kx i))) o.cls from(Looks.ld e2).andThen .now)
 refine aa (bb (AZ (s:={s with heap:=H}) b hu N5 h2 K2 hl hc) ?_ λ_ _ e=>e)
 rintro⟨⟨⟩,EQ⟩ s' ⟨rfl,hf,σ,Ln,Qp⟩
 obtain⟨o1,o2⟩:=Qp _ rfl
 refine aa (seqEpoch_at OH rfl ?_)
 refine aa (listUpdate_at OH rfl ?_ (bY _) (ab (dj o1) (cV 0x100c645223000000512910 vs.length rfl K2)))
 rw [hf]
 simp only [bne_self_eq_false,cB,if_false]
 obtain⟨c2,Gv⟩:∃c2,(H.update l (cX λ_=>(if b then((arrOf EQ).map (·.2)).reverse else(arrOf EQ).map (·.2)))).get? l=some (seqObj "list" (if b then((arrOf EQ).map (·.2)).reverse else(arrOf EQ).map (·.2)) c2):=⟨_,get?_update_seq OH λ_=>_⟩
 exact ai (hP σ _ c2 _ Ln o1 o2 Gv (λb o hb q=>(bJ _ _ (λz:l=b=>hb z.symm)).trans (keep b o hb q)) (by rw [bQ,hHs];exact cV 572074256 s.heap.objs.size rfl))
end
end
section
open SeqAt
noncomputable def KSpec(ki:Nat->List Int)(fresh:Nat->Bool)(rt:Nat->Nat->Tok)(i:Nat)(ta tb:Tok)(kv:Array Value):Prop :=
 kv.size=(ki i).length/\∀(q:Nat) v,kv[q]?=some v->∃(a:Int) (t:Tok),(ki i)[q]?=some a/\v=.int a t/\t≠0/\(if fresh q then ta<=t/\t<tb else t=rt i q)
theorem KSpec.ia{fresh:Nat->Bool}{rt:Nat->Nat->Tok}{ta tb:Tok}{kv:Array Value}(x:KSpec ki fresh rt i ta tb kv)(h:Heap):AtAll 0 h kv.toList ((ki i).map .int):=by
 refine AtAll.of_get (by simp [x.1]) λq v d hv hd=>?_
 refine fL (x.2 q v (by simpa using hv)) λa t e1 FP ht _=>?_;subst FP
 rw [ah,e1] at hd
 cases hd
 exact At_int.mpr ⟨t,ht,rfl⟩
structure Srt(n:Nat)(b:Bool)(ki:Nat->List Int)(lo:Nat)(h:Heap)(l:Nat)(items:Array Value)(T Kx:Nat->Nat)(kv:Nat->Array Value)(ct:Nat->Tok)(σ:Nat->Nat):Prop where
 sz:items.size=n
 sig:Sig n b (kLt ki λi=>(i:Int)) σ
 it:∀q,q<n->items[q]?=some (.ref (T (σ q)))
 lst:h.IsList l items
 lol:lo<=l
 tup:∀i,i<n->h.IsTuple (T i) #[.ref (Kx i),.int i (ct i)]/\h.IsTuple (Kx i) (kv i)/\ct i≠0/\lo<=T i/\lo<=Kx i
 ksz:∀i,i<n->(kv i).size=(ki i).length
 kat:∀i,i<n->∀h,AtAll 0 h (kv i).toList ((ki i).map .int)
 tok:∀i j,i<n->j<n->∀(q:Nat) v w a b,(kv i)[q]?=some v->(kv j)[q]?=some w->(ki i)[q]?=some a->(ki j)[q]?=some b->TokOk v w a b
section
variable{D:ZD}
theorem wQ{fresh:Nat->Bool}{rt:Nat->Nat->Tok}{k:Tok}{n:Nat}{b:Bool}(lt:ZLt D)(hB:B.objs.size<=D.LI)(r:Room A 12)(t0:0<s.toks)(D0:A.frames=some fr)(offB:∀L∈d4 fr,B.get? L=none)
  (x:ZB K B D fr 0 0 k (oo D .none (.bool false)) (yH .none .none) s.heap s.heap) (hk:k≠0) (Ff:D.k2≠0) (hn:D.items.size=n) (Gi:2<=n) (Ex:n<64) (key:∀i row,D.items[i]?=some row->KeyCall w K B D.F row (KSpec ki fresh rt i))
  (Du:∀i j,i<n->j<n->(ki i).length=(ki j).length) (Lz:∀i j q,i<n->j<n->fresh q=false->rt i q=rt j q->(ki i)[q]?=(ki j)[q]?)
  (hQ:∀l items T Kx kv ct σ h' t',Srt n b ki (s.heap.objs.size+1) h' l items T Kx kv ct σ->Sl (zch D) fr s.heap h'->Bt K B h'->StkOk fr h'->s.toks<=t'->Q (.ref l) {s with heap:=h',toks:=t'}):
  wpAny (model prog w) A (call (.builtin "sorted") [.ref D.z] [(cF "reverse",.bool b)]) Q E s:=by
 have Ii:sizeLine=16777216:=by decide
 refine call_function_entry_kw kind_sorted plain_sorted entry_sorted (args_sorted_rev _ _) ?_
 delta Builtin.«sorted»;dsimp only
 refine aa (m:=checkCount "sorted" 1 1 _) (ai ?_)
 refine aa (um lt hB (r.le (by decide):Room A 11).in1 t0 D0 offB x hk Ff hn (aJ ‹_›) (cV 0x403191403e841910 n rfl Ex) key λDC Dy HF za hsz Gg Ho HG PY=>?_)
 refine kF (za.pr) λf fp fm fe=>?_
 have ex:∀i,∃r:Nat×Nat×Array Value×Tok,i<n->DC[i]?=some (.ref r.1)/\s.heap.objs.size+1<=r.1/\s.heap.objs.size+1<=r.2.1/\r.2.2.2≠0/\Dy.IsTuple r.1 #[.ref r.2.1,.int i r.2.2.2]/\Dy.IsTuple r.2.1 r.2.2.1/\∃ta tb,f i<=ta/\ta<=tb/\tb<=f (i+1)/\KSpec ki fresh rt i ta tb r.2.2.1:=λi=>by
  by_cases hi:i<n
  ·have he:DC[i]?=some DC[i]:=aY (fv hi hsz)
   obtain⟨ta,tb,l1,l2,l3,T,Kx,kv,kk,e,h1,h2,h3,h4,h5,h6⟩:=fp i _ he
   exact⟨⟨T,Kx,kv,kk⟩,λ_=>⟨he.trans (by rw [e]),h1,h2,h3,h4,h5,ta,tb,l1,l2,l3,h6⟩⟩
  ·exact⟨⟨0,0,#[],0⟩,λh=>absurd h hi⟩
 obtain⟨g,hg⟩:=Classical.skolem.mp ex
 refine aa (wpAny_newList ?_ (by rw [aU];exact b6 0x26860806322900000051a10 n DC.size rfl Ex hsz))
 have hoL:(Dy.push (seqObj "list" DC.toList.toArray 0)).get? Dy.objs.size=some (seqObj "list" DC.toList.toArray 0):=am _ rfl
 have DH:∀i,i<n->(g i).1<Dy.objs.size/\(g i).2.1<Dy.objs.size:=λi hi=>⟨nN (hg i hi).2.2.2.2.1,nN (hg i hi).2.2.2.2.2.1⟩
 have Lq:DC.toList.length=n:=by rw [aU];exact hsz
 have tupK:∀h':Heap,(∀(b:Nat) o,¬b=Dy.objs.size->(Dy.push (seqObj "list" DC.toList.toArray 0)).get? b=some o->h'.get? b=some o)->∀i,i<n->h'.IsTuple (g i).1 #[.ref (g i).2.1,.int i (g i).2.2.2]/\h'.IsTuple (g i).2.1 (g i).2.2.1:=λh' u i hi=>by
  obtain⟨l1,l2⟩:=DH i hi
  exact⟨gq (hg i hi).2.2.2.2.1 λo q=>u _ o (mh l1) (af _ q),gq (hg i hi).2.2.2.2.2.1 λo q=>u _ o (mh l2) (af _ q)⟩
 have Mo:(Dy.push (seqObj "list" DC.toList.toArray 0)).objs.size=Dy.objs.size+1:=ao ..
 refine aa (bp (wpAny_call_entry_kw slot_list_sort ⟨_,hoL,rfl⟩ entry_list_sort (wR (s:={s with heap:=Dy.push (seqObj "list" DC.toList.toArray 0),toks:=HF}) (T:=λi=>(g i).1) (Kx:=λi=>(g i).2.1) (ki:=ki) (c:=λi=>(i:Int)) (ct:=λi=>(g i).2.2.2) b hoL
  (by have:=r.units;show A.units+1+1<cLine;exact y_68 this) (λh' u=>⟨λi hi=>?_⟩) (by rw [Lq];exact cV 0x922110922110 n rfl Gi) (by rw [Lq];exact b6 2836703508 n (64:Nat) rfl Ex) (by rw [Lq];exact Du) (λi j _ _ DV=>y_13 DV) λσ out n1 h' Ln Im Fb Et u Jn=>⟨_,rfl,?_⟩) (args_list_sort_rev _ _)))
 ·rw [Lq] at hi
  obtain⟨t1,t2⟩:=tupK h' u i hi
  refine fL ((hg i hi).2.2.2.2.2.2) λta tb _ _ _ ks=>?_
  exact⟨by rw [b9];exact(hg i hi).1,t1,At.tup.mpr ⟨_,_,rfl,bY _,t2,ks.ia h'⟩⟩
 ·rw [Lq] at Ln Im Fb
  dsimp only at Jn
  refine ai ⟨_,rfl,hQ Dy.objs.size out (λi=>(g i).1) (λi=>(g i).2.1) (λi=>(g i).2.2.1) (λi=>(g i).2.2.2) σ h' HF ⟨Im,Ln,λq hq=>?_,⟨_,Et,rfl,_,rfl⟩,?_,λi hi=>?_,λi hi=>?_,λi hi h=>?_,λi j hi hj q v w a b e1 e2 e3 e4=>?_⟩ ?_ ?_ ?_ PY⟩
  ·rw [Fb q hq,b9]
   exact(hg (σ q) (Ln.bd q hq)).1
  ·-- the list is new
   have h1:=(hg 0 (aJ ‹_›)).2.1
   have h2:=(DH 0 (aJ ‹_›)).1
   exact oq h2 h1
  ·obtain⟨t1,t2⟩:=tupK h' u i hi
   exact⟨t1,t2,(hg i hi).2.2.2.1,(hg i hi).2.1,(hg i hi).2.2.1⟩
  ·refine fL ((hg i hi).2.2.2.2.2.2) λ_ _ _ _ _ ks=>?_
   exact ks.1
  ·refine fL ((hg i hi).2.2.2.2.2.2) λ_ _ _ _ _ ks=>?_
   exact ks.ia h
  ·refine fL ((hg i hi).2.2.2.2.2.2) λta tb l1 l2 l3 ks=>?_
   refine fL ((hg j hj).2.2.2.2.2.2) λLa K' m1 m2 m3 TV=>?_
   refine fL (ks.2 q v e1) λa1 t x1 FP ht x2=>?_;subst FP
   refine fL (TV.2 q w e2) λb1 t' y1 FP F1 y2=>?_;subst FP
   rw [e3] at x1;cases x1
   rw [e4] at y1;cases y1
   refine⟨t,t',rfl,rfl,ht,F1,λOz=>?_⟩
   subst Oz
   cases hf:fresh q with
   |true =>
    rw [hf] at x2 y2
    simp only [if_true] at x2 y2
    have DV:i=j:=by
     rcases jI i j with h|h|h
     ·have h9:f (i+1)<=f j:=fm _ _ h
      have:t<t:=ad x2.2 (ab l3 (ab h9 (ab m1 y2.1)))
      exact absurd this (jT _)
     ·exact h
     ·have h9:f (j+1)<=f i:=fm _ _ h
      have:t<t:=ad y2.2 (ab m3 (ab h9 (ab l1 x2.1)))
      exact absurd this (jT _)
    subst DV
    rw [e3] at e4;cases e4;rfl
   |false =>
    rw [hf] at x2 y2
    simp only [cB,if_false] at x2 y2
    have:=Lz i j q hi hj hf (x2.symm.trans y2)
    rw [e3,e4] at this
    cases this;rfl
  ·refine Gg.trans ⟨λb o h1 _ q=>u b o (bW (aX q)) (af _ q),λb o h1 q=>⟨o.slots,u b o (bW (aX q)) (af _ q)⟩,bX 0x111b291ca910ab10 ((Dy.push (seqObj "list" DC.toList.toArray 0)).objs.size) h'.objs.size Dy.objs.size rfl Jn Mo,λb o q=>⟨o,u b o (bW (aX q)) (af _ q)⟩⟩
  ·exact⟨Ho.kr,λb o q=>u b o (bW (aX (Ho.up b o q))) (af _ (Ho.up b o q)),by have:=Ho.sz;exact y_389 this Jn Mo⟩
  ·exact HG.up λb o q=>u b o (bW (aX q)) (af _ q)
end
end
theorem qU{x:Nat}{vs:Array (Option Value)}(r:Room A 5)(bt:Bt K B s.heap)(t0:0<s.toks)(gx:SlotF fr s.heap x 169 vs)
  (h:∀(S:Nat) h1 t1 c,Gr s.heap h1->s.heap.objs.size<=S->S<h1.objs.size->s.toks<=t1->h1.get? S=some (wi #[] c)->codeAny (model prog w) A.in1 (.builtin "list.extend.loop" ⟨[.ref S,.ref x,.none],[]⟩) (wants (λv s'=>v=.none/\Q (.ref S) s') E) {s with heap:=h1,toks:=t1}):
  wpAny (model prog w) A (call (.type "list") [.ref x]) Q E s:=by
 have D9:=gx.lt
 have hSx:s.heap.objs.size≠x:=aB D9
 refine callType_codes (Q₁:=λobj C'=>obj=.ref s.heap.objs.size/\C'={s with heap:=s.heap.push {cls:=.type "list",data:=.seq #[]}}) PySem.F.called_list (PySem.F.typeCall_list_1 _) PySem.F.entry_list_init
  (code_list_new _ ⟨rfl,rfl⟩) λobj C' h1=>?_
 obtain⟨rfl,rfl⟩:=h1
 have hS:(s.heap.push {cls:=.type "list",data:=.seq #[]}).get? s.heap.objs.size=some {cls:=.type "list",data:=.seq #[]}:=am _ rfl
 refine⟨⟨_,hS,rfl⟩,PySem.F.args_list_init_2 _ _,?_⟩
 refine aa ?_
 refine aa (bN hS rfl (ai ?_))
 refine aa (eg hS rfl ?_)
 have HB:=bv (cX (λ_=>(#[]:Array Value))) hS rfl
 generalize RY:(s.heap.push {cls:=.type "list",data:=.seq #[]}).update s.heap.objs.size (cX (λ_=>(#[]:Array Value)))=h2 at HB ⊢
 have g2:Gr s.heap h2:=by
  rw [<-RY]
  exact⟨λb o e=>(bJ _ _ (iZ (bW (aX e)))).trans (af _ e),by rw [bQ,ao];exact aD _⟩
 have z2:h2.objs.size=s.heap.objs.size+1:=by rw [<-RY,bQ,ao]
 refine aa (lU ?_)
 have Fw:=gx.up g2.up
 have Id:=bt.gr g2
 have sk:=bt.kr.sk
 have X2:K.In h2:=(Id.kr.up Id.up).X
 obtain⟨ox,I2⟩:=Fw.at.inst
 refine aa (I2.type.here ?_)
 have c1:eC (.ref s.heap.objs.size) (.ref x)=false:=by simp [eC,hSx]
 have c2:(aM 169==d6 "list")=false:=by decide
 have c3:(aM 169==d6 "tuple")=false:=by decide
 simp only [c1,c2,c3,Bool.or_false,cB,if_false]
 refine aa (qA (s:={s with heap:=h2}) (f:=158) (fn:=165) sk X2 Fw.at (by decide +kernel) (by decide +kernel) ?_)
 refine oV (s:={s with heap:=h2}) (r.le (by decide):Room A 4).in1.in1 Id ((Id.kr.up Id.up).kn.fn 158 (me 10 2) "_grouper.__iter__" .none .none (co (by kernel_rfl))) t0 rfl rfl (λ_ _ _=>rfl) λh3 t3 u3 l3=>?_
 have Gk:=Fw.up u3.up
 have Sk:=Id.gr u3
 have X3:K.In h3:=(Sk.kr.up Sk.up).X
 refine⟨rfl,Gk.at,X3,?_⟩
 have I4:=u3.up _ _ HB
 obtain⟨ox3,I3⟩:=Gk.at.inst
 refine aa (bp ?_)
 obtain⟨n1,n2⟩:=sk.ln
 refine aa (aa (I3.type.here ((looks_findIn X3 n1).here ?_)))
 refine aa (aa (I3.type.here ((looks_findIn X3 n2).here ?_)))
 refine ai ?_
 show wpAny _ _ (rule "list.extend.makes-room" >>= λ_=>kQ (.ref s.heap.objs.size) >>= λ_ =>
  again (.builtin "list.extend.loop" ⟨[.ref s.heap.objs.size,.ref x,.none],[]⟩)) _ _ _
 refine aa (dB ?_)
 refine aa ?_
 refine aa (eg I4 rfl ?_)
 have hS4:=bv (cX (·.push eB)) I4 rfl
 refine eg hS4 rfl ?_
 have hS5:=bv (cX (·.pop)) hS4 rfl
 have IS:∀b o,b≠s.heap.objs.size->h3.get? b=some o->((h3.update s.heap.objs.size (cX (·.push eB))).update s.heap.objs.size (cX (·.pop))).get? b=some o :=
  λb o hb e=>(bJ _ _ (iZ hb)).trans ((bJ _ _ (iZ hb)).trans e)
 have z3:=u3.sz
 refine ai ⟨dE dA _,?_⟩
 exact h s.heap.objs.size _ t3 _ ⟨λb o e=>IS b o (bW (aX e)) (u3.up _ _ (g2.up b o e)),by rw [bQ,bQ];show s.heap.objs.size<=h3.objs.size;exact bX 0x111b291ca910ab10 h2.objs.size h3.objs.size s.heap.objs.size rfl z3 z2⟩ (ag _) (by rw [bQ,bQ];show s.heap.objs.size<h3.objs.size;exact bX 0x111b291ca910ab14 h2.objs.size h3.objs.size s.heap.objs.size rfl z3 z2) l3 hS5
noncomputable def GEnd(D:GD)(fr:List Env)(b e:Nat)(sN:Int)(k:Tok)(h:Heap):Prop :=
 (e<D.n/\(D.ki b==D.ki e)=false/\Gbw D fr (gbP D (.int sN k) e (.bool true) (.int sN k) (.ref (D.Kx b))) (some (e+1)) h) \/
 (e=D.n/\Gbw D fr (gb (.int sN k) .none .none (.bool false) (.bool false) (.bool true) (.ref D.I) (.ref D.IG) (.int sN k) (.ref (D.Kx b))) none h)
noncomputable abbrev rX(D:GD)(b i:Nat):Array Value:=((aG i).map λj=>aM (D.P (b+j))).toArray
theorem xE(D:GD)(b i:Nat):(rX D b i).push (.ref (D.P (b+i)))=rX D b (i+1):=by
 apply eR.mp
 simp [rX,iO]
structure LGr(K:Frag)(B:Heap)(D:GD)(fr:List Env)(s0:Shared)(S x b:Nat)(sN:Int)(k:Tok)(i:Nat)(DC:Array Value)(s:Shared):Prop where
 gb:(i=0/\Gbw D fr (gbP D (.int sN k) b (.bool true) (.int sN k) (.ref (D.Kx b))) (some (b+1)) s.heap) \/
  (0<i/\Gbw D fr (gb (.int sN k) .none .none (.bool false) (.bool false) (.bool true) (.ref D.I) (.ref D.IG) (.int sN k) (.ref (D.Kx b))) (some (b+i)) s.heap)
 gx:SlotF fr s.heap x 169 (grS D sN k b)
 ac:DC=rX D b i
 lst:∃c,s.heap.get? S=some (wi DC c)
 sl:Sl [D.G,D.I] fr s0.heap s.heap
 bt:Bt K B s.heap
 stk:StkOk fr s.heap
 same:s={s0 with heap:=s.heap,toks:=s.toks}
 tk:s0.toks<=s.toks
theorem uW{e:Nat}{Q:Bool->Shared->Prop}(f:Fly ch fr h h' e)(hs:s.heap=h')(hQ:Q true s):wpAny (model prog w) A (isInstance (.ref e) (.type "StopIteration")) Q E s:=by
 refine e5a3 (f.tr) λoe _ _ _ _ h1 h2 _=>?_
 rw [<-hs] at h1
 exact eL (T:="StopIteration") (b:=true) ⟨oe,h1,h2⟩ isSubtype_stop hQ
theorem vZ{x b e:Nat}{k:Tok}(r:Room A 12)(bt:Bt K B s.heap)(t0:0<s.toks)(D0:A.frames=some fr)(stk:StkOk fr s.heap)(offB:∀L∈d4 fr,B.get? L=none)
  (ok:D.Ok B) (g:Gbw D fr (gbP D (.int sN k) b (.bool true) (.int sN k) (.ref (D.Kx b))) (some (b+1)) s.heap) (gx:SlotF fr s.heap x 169 (grS D sN k b)) (hk:k≠0)
  (KY:b<e) (Fd:e<=D.n) (hn:D.n<64) (Eg:∀i,b<=i->i<e->(D.ki b==D.ki i)=true) (GE:e<D.n->(D.ki b==D.ki e)=false)
  (hQ:∀(S:Nat) h' t',s.heap.objs.size<=S->h'.IsList S (rX D b (e-b))->GEnd D fr b e sN k h'->Sl [D.G,D.I] fr s.heap h'->Bt K B h'->StkOk fr h'->s.toks<=t'->Q (.ref S) {s with heap:=h',toks:=t'}):
  wpAny (model prog w) A (call (.type "list") [.ref x]) Q E s:=by
 refine qU (r.le (by decide)) bt t0 gx λS Dy t1 c1 g1 Ft HB l1 I4=>?_
 have lw:=g.low
 have D9:=gx.lt
 have hlG:=lw.g
 have IW:=lw.i
 have sk:=bt.kr.sk
 have ra:Room A.in1.in1 9:=(r.le (by decide):Room A 11).in1.in1
 refine uX (n:=e-b) (λi DC s'=>LGr K B D fr s S x b sN k i DC s'/\S<s'.heap.objs.size) (bX 0x156213420403191403e841b10 D.n e (e-b) rfl hn Fd (cZ e b)) (λi DC s' h=>by rw [h.1.ac];simp [rX]) ?_ ?_ (e-b) 0 #[] _ yT (bY _) ?_
 ·rintro i DC s' hi ⟨y,NH⟩
  have X':K.In s'.heap:=(y.bt.kr.up y.bt.up).X
  have t':0<s'.toks:=ad t0 y.tk
  have fin:∀h' EZ,Gbw D fr (gb (.int sN k) .none .none (.bool false) (.bool false) (.bool true) (.ref D.I) (.ref D.IG) (.int sN k) (.ref (D.Kx b))) (some (b+i+1)) h'->SlotF fr h' x 169 (grS D sN k b)->Sl [D.G,D.I] fr s'.heap h'->s'.toks<=EZ->(∀(L:Nat) m,L∈[D.G,D.I]->¬s'.heap.Ns L m) ->
    (∃v c,some (aM (D.P (b+i)))=some v/\({s' with heap:=h',toks:=EZ}:Shared).heap.get? S=some (wi DC c)/\∀DN c',DN.get? S=some (wi (DC.push v) c')->(∀(b:Nat) o,¬b=S->({s' with heap:=h',toks:=EZ}:Shared).heap.get? b=some o->DN.get? b=some o)->DN.objs.size=({s' with heap:=h',toks:=EZ}:Shared).heap.objs.size->LGr K B D fr s S x b sN k (i+1) (DC.push v) {({s' with heap:=h',toks:=EZ}:Shared) with heap:=DN}/\S<DN.objs.size):=by
   intro h' EZ Iz JE Fo l' nns
   obtain⟨c,hc⟩:=y.lst
   have O2:S∉[D.G,D.I]:=by
    intro q;simp at q;exact BV hlG IW Ft q
   have H8:h'.get? S=some (wi DC c):=Fo.kept S _ O2 (dC y.stk hc λ_ _ q=>by cases q) hc
   refine⟨_,c,rfl,H8,λDN c' e1 u e2=>⟨?_,?_⟩⟩
   ·have NR:Bt K B h':=y.bt.sl Fo (λa ha=>by simp at ha;rcases ha with rfl|rfl;exact ok.bG;exact ok.bI) offB
    have Md:StkOk fr h':=y.stk.sl Fo nns
    have k':∀(a:Nat) o,a<s.heap.objs.size->h'.get? a=some o->DN.get? a=some o:=λa o ha q=>u a o (vB ha Ft) q
    have hBs:=bt.sz
    dsimp only at e2
    refine⟨.inr ⟨dU _,Iz.keep lw k'⟩,JE.keep D9 k',by rw [y.ac,xE],⟨c',e1⟩,?_,⟨NR.kr,λa o q=>?_,by show _<=DN.objs.size;rw [e2];exact NR.sz⟩,?_,?_,ab y.tk l'⟩
    ·have Eu:=y.sl.trans Fo
     refine⟨λa o h1 h2 q=>u a o (λz=>by have:=iF q;have z':@Eq Nat a S:=z;exact sU this Ft z) (Eu.kept a o h1 h2 q),λa o h1 q=>?_,by show s.heap.objs.size<=DN.objs.size;rw [e2];exact Eu.sz,λa o q=>?_⟩
     ·obtain⟨s1,q1⟩:=Eu.slots a o h1 q
      exact⟨s1,u a _ (λz=>by have:=iF q;have z':@Eq Nat a S:=z;exact sU this Ft z) q1⟩
     ·obtain⟨o1,q1⟩:=Eu.there a o q
      exact⟨o1,u a o1 (λz=>by have:=iF q;have z':@Eq Nat a S:=z;exact sU this Ft z) q1⟩
    ·exact u a o (λz=>by have:=iF q;have z':@Eq Nat a S:=z;exact dh 0xcb10ba10a914c91e a B.objs.size s.heap.objs.size S rfl this hBs Ft z) (NR.up a o q)
    ·exact Md.one H8 (λ_ _ q=>by cases q) λa o ha q=>u a o ha q
    ·rw [y.same]
   ·rw [e2]
    exact ad NH Fo.sz
  rcases y.gb with ⟨rfl,g'⟩|⟨Ea,g'⟩
  ·refine mU (f:=165) sk X' y.gx.at (by decide +kernel) (cw (xF (pend:=true) (a:=b) (b:=b) (ra.le (by decide)) y.bt t' D0 y.stk offB ok g' y.gx (ad ‹_› ‹_›) hk hk (bX 0xba10a914b910 b e D.n rfl KY Fd) (λ_=>⟨bX 0xba10a914b914 b e D.n rfl KY Fd,rfl,rfl,rfl⟩) ?_ ?_ ?_))
   ·intro _ _ h' EZ Iz JE Fo l'
    exact fin h' EZ Iz JE Fo l' g'.nns
   ·intro _ DY
    rw [Eg b (ag _) KY] at DY;cases DY
   ·intro q;lia
  ·refine mU (f:=165) sk X' y.gx.at (by decide +kernel) (cw (xF (pend:=false) (a:=b+i) (b:=b) (ra.le (by decide)) y.bt t' D0 y.stk offB ok g' y.gx (ad ‹_› ‹_›) hk hk (y_266 hi Fd) (λq=>nomatch q) ?_ ?_ ?_))
   ·intro _ _ h' EZ Iz JE Fo l'
    exact fin h' EZ Iz JE Fo l' g'.nns
   ·intro _ DY
    rw [Eg (b+i) sX (y_89 hi)] at DY;cases DY
   ·intro q;exact y_608 Fd hi q
 ·rintro DC s' ⟨y,NH⟩
  have X':K.In s'.heap:=(y.bt.kr.up y.bt.up).X
  have t':0<s'.toks:=ad t0 y.tk
  have he:b+(e-b)=e:=AH KY
  rcases y.gb with ⟨q,g'⟩|⟨Ea,g'⟩
  ·exact BQ KY q
  rw [he] at g'
  have fin:∀h' EZ ex,GEnd D fr b e sN k h'->Fly [D.G,D.I] fr s'.heap h' ex->s'.toks<=EZ ->
    wpAny (model prog w) A.in1.in1 (isInstance (.ref ex) (.type "StopIteration")) (λb1 Ds=>if b1=true then(none:Option Value)=none/\wants (λv s'=>v=.none/\Q (.ref S) s') E (.ok (.ret .none)) Ds else wants (λv s'=>v=.none/\Q (.ref S) s') E (.error (.ref ex)) Ds) (λex s'=>wants (λv s'=>v=.none/\Q (.ref S) s') E (.error ex) s') {s' with heap:=h',toks:=EZ}:=by
   intro h' EZ ex ge fl l'
   refine uW fl rfl ?_
   rw [if_pos rfl]
   refine⟨rfl,rfl,?_⟩
   obtain⟨c,hc⟩:=y.lst
   have O2:S∉[D.G,D.I]:=by
    intro q;simp at q;exact BV hlG IW Ft q
   have H8:h'.get? S=some (wi DC c):=fl.sl.kept S _ O2 (dC y.stk hc λ_ _ q=>by cases q) hc
   have:=hQ S h' EZ Ft ⟨_,by rw [y.ac] at H8;exact H8,rfl,_,rfl⟩ ge (y.sl.trans fl.sl) (y.bt.sl fl.sl (λa ha=>by simp at ha;rcases ha with rfl|rfl;exact ok.bG;exact ok.bI) offB) (y.stk.sl fl.sl g'.nns) (ab y.tk l')
   rw [y.same]
   exact this
  refine mU (f:=165) sk X' y.gx.at (by decide +kernel) (cw (xF (pend:=false) (a:=e) (b:=b) (ra.le (by decide)) y.bt t' D0 y.stk offB ok g' y.gx (ad ‹_› ‹_›) hk hk Fd (λq=>nomatch q) ?_ ?_ ?_))
  ·intro h1 h2
   rw [GE h1] at h2;cases h2
  ·intro h1 h2 h' EZ ex Iz JE fl l'
   exact fin h' EZ ex (.inl ⟨h1,h2,Iz⟩) fl l'
  ·intro h1 _ h' EZ ex Iz JE fl l'
   exact fin h' EZ ex (.inr ⟨h1,Iz⟩) fl l'
 ·refine⟨⟨.inl ⟨rfl,g.up g1.up⟩,gx.up g1.up,by simp [rX],⟨c1,I4⟩,Sl.of_gr g1,bt.gr g1,stk.up g1.up,rfl,l1⟩,HB⟩
theorem A8(a:Int)(h0:0<=a)(h1:a<2^50):OpR w A .Div (pI a) (pI 2) (pF a):=by
 rintro s _ _ Q E ht ⟨t,_,rfl⟩ ⟨u,_,rfl⟩ hQ
 have hr:=PySem.Float64.ofFrac_right (neg:=(decide (a<0) != decide ((2:Int)<0))) (n:=a.natAbs) (d:=(2:Int).natAbs) (W:=a.natAbs*2^1074) (D:=2) (by decide) rfl (by decide)
 have hf:=FQ.of_right hr (by decide) (n:=a.natAbs) (y_136 h1 h0) rfl
 have hs:(decide (a<0) != decide ((2:Int)<0))=false:=by
  rw [decide_eq_false (show ¬a<0 by exact cN 618761558295 a rfl h0)];rfl
 have hv:FQ (Float64.ofFrac (decide (a<0) != decide ((2:Int)<0)) a.natAbs (2:Int).natAbs) a:=by
  refine hf.cast ?_
  rw [hs];unfold PySem.Float64.sgn;simp;exact y_486 h0
 refine AutoIntOps.truediv_2 (by decide) (by rw [hv.fin.1];decide) ?_
 exact hQ _ _ (aD _) ⟨_,_,aB ht,hv,rfl⟩
theorem uM(i z:Int)(hi:i.natAbs<2^50)(hz:z.natAbs<2^50):OpR w A .Add (pI i) (pF z) (pF (2*i+z)):=by
 rintro s _ _ Q E ht ⟨t,_,rfl⟩ ⟨x,u,_,hx,rfl⟩ hQ
 have h0:=FQ.ofInt (i:=i) (vG hi)
 refine lp (by rw [h0.fin.1];decide) ?_
 exact hQ _ _ (aD _) ⟨_,_,aB ht,h0.add hx (y_121 hi hz),rfl⟩
theorem fc{it l:Nat}{Q:Option Value->Shared->Prop}(hh:A.handled=none)(hit:s.heap.IsListIter it l i)(hl:s.heap.IsList l items)(hx:items[i]?=none)
  (hQ:∀h' o,(∀(b:Nat) o,¬b=it->s.heap.get? b=some o->h'.get? b=some o)->h'.get? it=some o->s.heap.objs.size<=h'.objs.size->Q none {s with heap:=h'}):wpAny (model prog w) A (pyNext (.ref it)) Q E s:=by
 refine kF (id hit) λo ho hc hd=>?_
 obtain⟨ol,Jv,_,nl,JA⟩:=hl
 refine aa (jQ (cq (name:=cF "__next__") hit.typeIs slot_listiter_next
  (c8 slot_listiter_next hit.typeIs eE ?_ (args_listiter_next _))))
 show wpAny _ _ (field (.ref it) 0 >>= _) _ _ s
 refine aa (bS ho hd (x:=.ref l) rfl ?_)
 refine aa (bS ho hd (x:=.int i 0) rfl ?_)
 refine aa (bN Jv JA ?_)
 simp only [er,hx]
 refine aa (dB (aa (gF ho hd (by simp) ?_)))
 refine aa ?_
 refine aa (ce ?_ (by size_fits))
 refine aa (m:=firstArgMember _ _) (cD (a:=eB) (by first|rfl|(simp only [firstArgMember];rfl)) ?_)
 refine ce ?_ (by size_fits)
 refine aa (jP ?_)
 have Jx:A.in1.handled=none:=hh
 rw [Jx]
 refine aa (ai (jH ?_))
 refine aa (eL (T:="StopIteration") (b:=true) ⟨_,am _ rfl,rfl⟩ isSubtype_stop ?_)
 refine ai (hQ _ _ (λb o' hb e=>af _ (af _ ((bJ _ _ (λq=>hb q.symm)).trans e))) (af _ (af _ (bv _ ho (d9 (dm hd _))))) ?_)
 rw [ao,ao,bQ];exact wv
noncomputable def GAddr(D:GD)(a:Nat):Prop:=a=D.G\/a=D.G-1\/a=D.IG\/a=D.IG-1\/a=D.T0\/a=D.I\/a=D.l\/∃i,i<D.n/\(a=D.P i\/a=D.Kx i)
section
variable{vs:Array (Option Value)}
theorem Gbw.keepA(g:Gbw D fr vs it h)(k:∀(a:Nat) o,GAddr D a->h.get? a=some o->h'.get? a=some o):Gbw D fr vs it h':=by
 refine⟨⟨g.g.1,g.g.2.1,k _ _ (.inl rfl) g.g.2.2.1,k _ _ (.inr (.inl rfl)) g.g.2.2.2⟩,⟨g.ig.1,g.ig.2.1,k _ _ (.inr (.inr (.inl rfl))) g.ig.2.2.1,k _ _ (.inr (.inr (.inr (.inl rfl)))) g.ig.2.2.2⟩,
  gq g.t0 λo=>k _ o (.inr (.inr (.inr (.inr (.inl rfl))))),g.itr.at λo=>k _ o (.inr (.inr (.inr (.inr (.inr (.inl rfl)))))),cU g.lst λo=>k _ o (.inr (.inr (.inr (.inr (.inr (.inr (.inl rfl))))))),λi hi=>gq (g.tup i hi) λo=>k _ o ?_,λi hi=>gq (g.key i hi) λo=>k _ o ?_⟩
 ·exact .inr (.inr (.inr (.inr (.inr (.inr (.inr ⟨i,hi,.inl rfl⟩))))))
 ·exact .inr (.inr (.inr (.inr (.inr (.inr (.inr ⟨i,hi,.inr rfl⟩))))))
theorem Gbw.addr_frs(g:Gbw D fr vs it h)(stk:StkOk fr h){a:Nat}(ha:GAddr D a):a∉d4 fr:=by
 have sq:∀{a:Nat} {xs:Array Value},(∃o n,h.get? a=some o/\o.data=.seq xs n)->a∉d4 fr:=by
  rintro a xs ⟨o,n,e,d⟩
  exact dC stk e λ_ _ q=>by rw [d] at q;cases q
 rcases ha with rfl|rfl|rfl|rfl|rfl|rfl|rfl|⟨i,hi,rfl|rfl⟩
 ·exact dC stk g.g.2.2.1 λ_ _ q=>by cases q
 ·exact g.g.2.1
 ·exact dC stk g.ig.2.2.1 λ_ _ q=>by cases q
 ·exact g.ig.2.1
 ·exact sq (ko g.t0)
 ·refine lF (g.itr.obj) λo fs e d=>?_
  exact dC stk e λ_ _ q=>by rw [d] at q;cases q
 ·exact sq (iR g.lst)
 ·exact sq (ko (g.tup i hi))
 ·exact sq (ko (g.key i hi))
theorem GLow.addr(lw:GLow D L){a:Nat}(ha:GAddr D a):a<L:=by
 have h1:=lw.g;have h2:=lw.ig;have h3:=lw.t0;have h4:=lw.i;have h5:=lw.l
 rcases ha with rfl|rfl|rfl|rfl|rfl|rfl|rfl|⟨i,hi,rfl|rfl⟩
 ·exact h1
 ·exact vH h1
 ·exact h2
 ·exact vH h2
 ·exact h3
 ·exact h4
 ·exact h5
 ·exact lw.p i hi
 ·exact lw.k i hi
end
noncomputable def Dn(n:Nat)(σ:Nat->Nat)(z:Nat->Int)(Rs a:Nat)(h:Heap):Prop:=∃DB:Array Value,h.IsList Rs DB/\DB.size=n/\∀q,q<a->∃v,DB[σ q]?=some v/\pF (z q) v
theorem Dn.at{n:Nat}{z:Nat->Int}{a:Nat}(x:Dn n σ z Rs a h)(k:∀o,h.get? Rs=some o->h'.get? Rs=some o):Dn n σ z Rs a h':=ci x λDB a b=>⟨DB,cU a k,b⟩
section
variable{Q:Flow->Shared->Prop}
theorem Wk.sub(wk:Wk K B s fr env Γ ch C')(h:∀p∈Γ',p∈Γ):Wk K B s fr env Γ' ch C' :=
 {wk with fx:=wk.fx.weak h,sc:=λi y d e=>et (bE.mp (h _ (aF e))) λj hj=>wk.sc j y d hj}
theorem Wk.one(ws:Ws A B s fr env)(wk:Wk K B s fr env Γ ch C'){x:Nat}{o o':Obj}(hx:s.heap.objs.size<=x)(q:C'.heap.get? x=some o)(hd:∀es ep,o.data≠.dict es ep)(q':h'.get? x=some o')(k:∀(b:Nat) o,¬b=x->C'.heap.get? b=some o->h'.get? b=some o)(sz:C'.heap.objs.size<=h'.objs.size):Wk K B s fr env Γ ch {C' with heap:=h'}:=by
 have:=wk.call2 ws (Sl.one q hd q' (wk.stkE ws) k sz) (ag _) (λb hb=>.inr (by rw [ak.mp hb];exact hx)) (λb hb=>by rw [ak.mp hb];exact ab ws.bsz hx) (λL m hL n=>by
  rw [ak.mp hL] at n
  refine oi (n) λo2 es ep q2 d2 _=>?_
  rw [q] at q2;cases q2;exact hd _ _ d2)
 exact this
structure Inn(K:Frag)(B:Heap)(s:Shared)(fr:List Env)(env:Env)(Γ:Ctx)(D:GD)(vs:Array (Option Value))(it:Option Nat)(S Rs b e n:Nat)(σ:Nat->Nat)(z:Nat->Int)(j:Nat)(s':Shared):Prop where
 wk:Wk K B s fr env Γ [] s'
 g:Gbw D (env::fr) vs it s'.heap
 dn:Dn n σ z Rs (b+j) s'.heap
 ls:s'.heap.IsList S (rX D b (e-b))
theorem vQ{vs:Array (Option Value)}{S b e n:Nat}{z:Nat->Int}{zz:Int}{jk jg:Nat}{p3 p4 p5 p6 p7 p8 p9 pa:Pos}{k0:Nat}
  (ws:Ws A B s fr env) (x:Inn K B s fr env Γ D vs it S Rs b e n σ z 0 C') (UU:Γ[jg]?=some (("group":Str),Dt.is (.ref S))) (Iq:Γ[jr]?=some (("result":Str),Dt.is (.ref Rs))) (OP:Γ[jk]?=some (("rank":Str),Dt.flt zz))
  (U5:Fresh Γ "value"=true) (Hz:Fresh Γ "orig_pos"=true) (FB:env.kindOf "value"=some .local) (Ej:env.kindOf "orig_pos"=some .local)
  (hS:s.heap.objs.size<=S) (H9:s.heap.objs.size<=Rs) (O3:S≠Rs) (hA:∀a,GAddr D a->a≠Rs) (F6:D.n=n) (hn:n<64) (KY:b<e) (Fd:e<=n) (hc:∀q,q<n->D.c q=σ q) (ct:∀q,q<n->D.ct q≠0) (bd:∀q,q<n->σ q<n) (inj:∀p q,p<n->q<n->σ p=σ q->p=q)
  (hz:∀q,b<=q->q<e->z q=zz)
  (hQ:∀s',Inn K B s fr env Γ D vs it S Rs b e n σ z (e-b) s'->wpAny (model prog w) A (execs rest env) Q E s'):
  wpAny (model prog w) A (execs (.For (.Tuple [.Name "value" p1,.Name "orig_pos" p2] k0 p3) (.Name "group" p4) [.Assign [.Subscript (.Name "result" p5) (.Name "orig_pos" p6) p7] (.Name "rank" p8) p9] [] pa::rest) env) Q E C':=by
 have hk:=ws.hk
 refine au (wpAny_For (Ev.run (an (cu jg UU hk)) x.wk.fx.fx x.wk.t λvg h2 t2 u2 l2 DD=>?_))
 replace DD:=At_is DD
 subst DD
 have DL:=x.wk.gr ws u2 l2
 have Oc:h2.IsList S (rX D b (e-b)):=cU x.ls λo=>u2.up _ o
 have g2:=x.g.up u2.up
 have NO:=x.dn.at (h':=h2) λo=>u2.up _ o
 refine cT Oc ?_
 generalize Gx:h2.objs.size=It
 have gI:Gr h2 (h2.push {cls:=.type "list_iterator",data:=.fields #[.ref S,.int 0 0]}):=Gr.push _ _
 have eI:(h2.push {cls:=.type "list_iterator",data:=.fields #[.ref S,.int 0 0]}).get? It=some {cls:=.type "list_iterator",data:=.fields #[.ref S,.int 0 0]}:=by rw [<-Gx];exact am _ rfl
 have DS:=DL.gr ws gI (ag _)
 have lw:=g2.low
 rw [Gx] at lw
 have hItS:s.heap.objs.size<=It:=by
  rw [<-Gx];exact DL.sl.sz
 have hSI:S≠It:=bW (by rw [<-Gx];exact iG Oc)
 have O5:Rs≠It:=bW (by rw [<-Gx];obtain⟨DB,hi,_⟩:=NO;exact iG hi)
 refine kM (iP (R:=λr s'=>r=.ok .next/\Inn K B s fr env Γ D vs it S Rs b e n σ z (e-b) s') (λm s'=>∃j,m=e-b+1-j/\j<=e-b/\Inn K B s fr env Γ D vs it S Rs b e n σ z j s'/\s'.heap.IsListIter It S j) ?_ (e-b+1) ⟨0,rfl,bY _,⟨DS,g2.up gI.up,NO.at λo=>gI.up _ o,cU Oc λo=>gI.up _ o⟩,⟨_,eI,rfl,rfl⟩⟩) λr s' h=>by obtain⟨rfl,h⟩:=h;exact hQ s' h
 rintro m s' ⟨j,rfl,hj,y,hit⟩
 refine lF (IsListIter.objD hit) λoI fI qI dI=>?_
 by_cases DH:j<e-b
 ·have hx:(rX D b (e-b))[j]?=some (.ref (D.P (b+j))):=by simp [rX,DH]
  refine eY hit y.ls hx λh' EO sb=>?_
  have kI:∀(b:Nat) o,¬b=It->s'.heap.get? b=some o->h'.get? b=some o:=λb o hb q=>sb.extBut b o hb q
  have szI:s'.heap.objs.size<=h'.objs.size:=dj sb.1.symm
  refine lF (IsListIter.objD EO) λoI' fI' qI' dI'=>?_
  have DR:Wk K B s fr env Γ [] {s' with heap:=h'}:=y.wk.one ws hItS qI (λ_ _ q=>by rw [dI] at q;cases q) qI' kI szI
  have g4:Gbw D (env::fr) vs it h':=y.g.keepA λa o ha q=>kI a o (bW (lw.addr ha)) q
  have Px:Dn n σ z Rs (b+j) h':=y.dn.at λo=>kI _ o O5
  have Rq:h'.IsList S (rX D b (e-b)):=cU y.ls λo=>kI _ o hSI
  refine hY EO ?_
  have KW:b+j<D.n:=y_90 DH Fd F6
  have DQ:=g4.tup (b+j) KW
  refine DR.pair (d:=.is (.ref (D.Kx (b+j)))) (e:=.int (σ (b+j))) ws DQ At_rfl (At_int.mpr ⟨D.ct (b+j),ct _ (fq KW F6),by rw [hc _ (fq KW F6)]⟩) rfl rfl U5 Hz FB Ej (by decide) λs5 DT k5=>?_
  have JP:=DR.stkE ws
  have Pp:∀{a:Nat},a∉d4 (env::fr)->¬@Eq Nat a env.locals:=λh z=>h ((eD ws.frame _).mpr (.inl z))
  have lE:∀{a:Nat} {xs:Array Value},h'.IsList a xs->¬@Eq Nat a env.locals:=fun{a xs} hl=>by
   refine lF (iR hl) λo c q d=>?_
   exact Pp (dC JP q λ_ _ z=>by rw [d] at z;cases z)
  have g5:Gbw D (env::fr) vs it s5.heap:=g4.keepA λa o ha q=>k5 a o (Pp (g4.addr_frs JP ha)) q
  have VF:Dn n σ z Rs (b+j) s5.heap:=by
   refine ci (Px) λDB hi r=>?_
   exact⟨DB,cU hi λo q=>k5 _ o (lE hi) q,r⟩
  have TR:s5.heap.IsList S (rX D b (e-b)):=cU Rq λo q=>k5 _ o (lE Rq) q
  have T9:s5.heap.IsListIter It S (j+1):=by
   refine kF (EO) λo q c d=>?_
   exact⟨o,k5 _ o (Pp (dC JP q λ_ _ z=>by rw [d] at z;cases z)) q,c,d⟩
  refine au (wpAny_Assign_Subscript (Ev.run (an (cu (jk+2) (by simpa using OP) hk)) DT.fx.fx DT.t λvr h6 t6 u6 l6 JR=>?_))
  have D5:=DT.gr ws u6 l6
  refine an (cu (jr+2) (by simpa using Iq) hk) rfl _ _ _ D5.fx.fx D5.t λvl h7 t7 u7 l7 GA=>?_
  replace GA:=At_is GA
  subst GA
  have D8:=D5.gr ws u7 l7
  refine an (cu 0 rfl hk) rfl _ _ _ D8.fx.fx D8.t λvi h8 t8 u8 G9 PU=>?_
  refine ci (At_int.mp PU) λti hti Dz=>?_;subst Dz
  have EP:=D8.gr ws u8 G9
  have pr:pF zz vr:=At_flt.mp JR
  have M2:Up s5.heap h8:=(u6.up.trans u7.up).trans u8.up
  refine kF (VF) λDB hi hsz Dw=>?_
  have RW:h8.IsList Rs DB:=cU hi λo=>M2 _ o
  have GL:=bd (b+j) (fq KW F6)
  refine wpAny_setItem_list (s:={s5 with heap:=h8,toks:=t8}) RW nq (b6 0x134284031914800000000000000081a715 n (σ (b+j)) rfl hn GL) (bX 0xab1ca914b79715 (σ (b+j)) n DB.size rfl GL hsz) λh9 OM Rf=>?_
  rw [er] at OM
  have Fz:∀(b:Nat) o,¬b=Rs->h8.get? b=some o->h9.get? b=some o:=λb o hb q=>Rf.extBut b o hb q
  refine lF (iR RW) λoR cR qR dR=>?_
  refine lF (iR OM) λoR' cR' qR' dR'=>?_
  have FH:=EP.one (h':=h9) ws H9 qR (λ_ _ q=>by rw [dR] at q;cases q) qR' Fz (dj Rf.1.symm)
  refine aH ?_
  refine⟨e-b+1-(j+1),y_92 hj,j+1,rfl,b6 23238274028048 j (e-b) rfl DH,⟨FH.sub λp hp=>az _ (az _ hp),(g5.up M2).keepA λa o ha q=>Fz a o (hA a ha) q,⟨_,OM,by simp [hsz],λq hq=>?_⟩,cU (cU TR λo=>M2 _ o) λo=>Fz _ o O3⟩,?_⟩
  ·by_cases Ik:q=b+j
   ·subst Ik
    refine⟨vr,?_,by rw [hz _ sX (y_89 DH)];exact pr⟩
    rw [ft (fv GL hsz)]
   ·refine ci (Dw q (y_169 hq Ik)) λv hv hp=>?_
    refine⟨v,?_,hp⟩
    rw [gU λz=>Ik (inj q (b+j) (gk 0x111c2b2d149cb214a918ad14 D.n n b j q rfl F6 KW hq) (fq KW F6) z.symm)]
    exact hv
  ·refine kF (T9) λo q c d=>?_
   exact⟨o,Fz _ o (λz=>O5 z.symm) (M2 _ o q),c,d⟩
 ·have UV:j=e-b:=vC hj DH
  subst UV
  have hx:(rX D b (e-b))[e-b]?=none:=by simp [rX]
  have hh:A.handled=none:=ws.hand
  refine fc hh hit y.ls hx λh' o' ex q' sz=>?_
  have kI:∀(b:Nat) o,¬b=It->s'.heap.get? b=some o->h'.get? b=some o:=λb o hb q=>ex b o hb q
  refine aH ⟨rfl,y.wk.one ws hItS qI (λ_ _ q=>by rw [dI] at q;cases q) q' kI sz,y.g.keepA λa o ha q=>kI a o (bW (lw.addr ha)) q,y.dn.at λo=>kI _ o O5,cU y.ls λo=>kI _ o hSI⟩
end
noncomputable def bf(b:Bool)(x y:List Int):Bool:=if b then fg y x else fg x y
noncomputable def zP(b:Bool)(n:Nat)(ki:Nat->List Int)(i:Nat):Int:=2*(((aG n).countP λj=>bf b (ki j) (ki i):Nat):Int)+(((aG n).countP λj=>ki j==ki i:Nat):Int)-1
theorem rV:∀a:List Int,fg a a=false
 |[]=>rfl
 |x::a=>by simp only [lxc,lxl,lxn,lxr,if_true];exact rV a
theorem vq(b:Bool)(a:List Int):bf b a a=false:=by unfold bf;split<;>exact rV a
theorem vp{b:Bool}{x y z:List Int}(h1:x.length=y.length)(h2:y.length=z.length)(hx:bf b x y=true)(hy:bf b y z=true):bf b x z=true:=by
 unfold bf at *
 cases b with
 |true=>exact ku z y x h2.symm h1.symm hy hx
 |false=>exact ku x y z h1 h2 hx hy
theorem BI{b:Bool}{x y:List Int}(h1:x.length=y.length)(hx:bf b x y=true):bf b y x=false:=by
 cases h:bf b y x with
 |false=>rfl
 |true=>have:=vp h1 h1.symm hx h;rw [vq] at this;cases this
theorem wL[BEq α][LawfulBEq α]:∀(l m:List α),l.Nodup->(∀x∈l,x∈m)->l.length<=m.length
 |[],m,_,_=>bY _
 |x::l,m,h,hs=>by
  have hx:x∈m:=hs x aW
  obtain⟨D9,hl⟩:=k6.mp h
  have:=wL l (m.erase x) hl λy hy=>(iB (λe:y=x=>D9 (e▸hy))).mpr (hs y (az _ hy))
  rw [jV hx] at this
  have h0:0<m.length:=List.length_pos_of_mem hx
  simp only [eQ];exact y_259 h0 this
section
variable{n:Nat}{b:Bool}
theorem uR(bd:∀q,q<n->σ q<n)(inj:∀q q',q<n->q'<n->σ q=σ q'->q=q')(hi:i<n):∃q,q<n/\σ q=i:=by
 refine aO λDY=>?_
 have nd:((aG n).map σ).Nodup:=by
  refine List.Pairwise.map (R:=λa b=>a<b/\b<n) σ (λa b h=>?_) ?_
  ·intro e
   have:=inj a b (bX 0xba14a914b914 a b n rfl h.1 h.2) h.2 e
   exact b6 2837227798 a b rfl this h.1
  ·refine jW (fun{a b} ha hb h=>⟨h,cj.mp hb⟩) kU
 have:=wL ((aG n).map σ) ((aG n).erase i) nd λx hx=>by
  refine ci (bK.mp hx) λq hq Dz=>?_;subst Dz
  have Il:=cj.mp hq
  exact(iB (λe=>DY ⟨q,Il,e⟩)).mpr (cj.mpr (bd q Il))
 rw [jV (cj.mpr hi),bR,dJ] at this
 exact y_762 this hi
theorem pW:∀{l m:List Nat},l.Nodup->m.Nodup->(∀x,x∈l↔x∈m)->l.Perm m
 |[],m,_,_,h=>by
  cases m with
  |nil=>exact .nil
  |cons y m=>exact absurd ((h y).mpr aW) (by simp)
 |x::l,m,hl,hm,h=>by
  have hx:x∈m:=(h x).mp aW
  obtain⟨D9,Et⟩:=k6.mp hl
  refine List.Perm.trans (List.Perm.cons x (pW Et (hm.erase x) λy=>?_)) (List.perm_cons_erase hx).symm
  constructor
  ·intro hy
   exact(iB (λe:y=x=>D9 (e▸hy))).mpr ((h y).mp (az _ hy))
  ·intro hy
   have Ue:y≠x:=λe=>by subst e;exact hm.not_mem_erase hy
   rcases aQ.mp ((h y).mpr (List.mem_of_mem_erase hy)) with e|e
   ·exact absurd e Ue
   ·exact e
theorem zi(bd:∀q,q<n->σ q<n)(inj:∀q q',q<n->q'<n->σ q=σ q'->q=q'):((aG n).map σ).Perm (aG n):=by
 refine pW ?_ List.nodup_range λx=>?_
 ·refine List.Pairwise.map (R:=λa b=>a<b/\b<n) σ (λa b h=>?_) ?_
  ·intro e
   have:=inj a b (bX 0xba14a914b914 a b n rfl h.1 h.2) h.2 e
   exact b6 2837227798 a b rfl this h.1
  ·refine jW (fun{a b} ha hb h=>⟨h,cj.mp hb⟩) kU
 ·rw [List.mem_map,List.mem_range]
  constructor
  ·rintro⟨q,hq,rfl⟩;exact bd q (cj.mp hq)
  ·intro hx
   refine ci (uR bd inj hx) λq hq e=>?_
   exact⟨q,cj.mpr hq,e⟩
theorem pd(bd:∀q,q<n->σ q<n)(inj:∀q q',q<n->q'<n->σ q=σ q'->q=q')(f:Nat->Bool):(aG n).countP f=(aG n).countP λq=>f (σ q):=by
 rw [<-(zi bd inj).countP_eq,List.countP_map];rfl
theorem iT(f:Nat->Bool)(lo hi:Nat):∀n,(∀q,q<n->f q=(decide (lo<=q)&&decide (q<hi)))->hi<=n->lo<=hi->(aG n).countP f=hi-lo:=by
 have aux:∀n,(∀q,q<n->f q=(decide (lo<=q)&&decide (q<hi)))->(aG n).countP f=min n hi-lo:=by
  intro n
  induction n with
  |zero=>intro _;simp
  |succ n ih =>
   intro h
   rw [iO,List.countP_append,ih λq hq=>h q (mP hq)]
   simp only [List.countP_cons,List.countP_nil,h n (bo n)]
   by_cases h2:n<hi
   ·rw [fT (aJ h2),fT h2,decide_eq_true h2,Bool.and_true]
    by_cases h1:lo<=n
    ·rw [decide_eq_true h1,if_pos rfl];exact y_448 h1
    ·rw [decide_eq_false h1,if_neg (by decide)];exact y_447 h1
   ·have h3:hi<=n:=Nat.le_of_not_lt h2
    rw [eM h3,eM (b8 h3),decide_eq_false h2,Bool.and_false,if_neg (by decide)];rfl
 intro n h h1 h2
 rw [aux n h,eM h1]
noncomputable def Brk(n:Nat)(b:Bool)(k:Nat->List Int)(a:Nat):Prop:=∀p q,p<a->a<=q->q<n->bf b (k p) (k q)=true
noncomputable def Ord(n:Nat)(b:Bool)(k:Nat->List Int):Prop:=∀q q',q<q'->q'<n->k q=k q'\/bf b (k q) (k q')=true
theorem Sig.keys(x:Sig n b (kLt ki λi=>(i:Int)) σ):Ord n b λq=>ki (σ q):=λq q' h h'=>by
 have:=x.ord q q' h h'
 unfold kLt at this
 delta bf;dsimp only
 by_cases e:ki (σ q)=ki (σ q')
 ·exact .inl e
 ·refine .inr ?_
  cases b with
  |true=>simp only [if_true] at this ⊢;rw [if_neg λz=>e z.symm] at this;exact this
  |false=>simp only [cB,if_false] at this ⊢;rw [if_neg e] at this;exact this
variable{k:Nat->List Int}
theorem A0{a:Nat}(ha:a<n):∃e,a<e/\e<=n/\(∀i,a<=i->i<e->(k a==k i)=true)/\(e<n->(k a==k e)=false):=by
 have aux:∀m e,n-e=m->a<e->e<=n->(∀i,a<=i->i<e->(k a==k i)=true)->∃e,a<e/\e<=n/\(∀i,a<=i->i<e->(k a==k i)=true)/\(e<n->(k a==k e)=false):=by
  intro m
  induction m with
  |zero=>intro e h1 h2 h3 h4;exact⟨e,h2,h3,h4,λh=>BQ h h1⟩
  |succ m ih =>
   intro e h1 h2 h3 h4
   by_cases hk:(k a==k e)=true
   ·refine ih (e+1) (wq h1) (mP h2) (y_262 h1) λi h5 h6=>?_
    by_cases Nz:i=e
    ·rw [Nz];exact hk
    ·exact h4 i h5 (s6 h6 Nz)
   ·exact⟨e,h2,h3,h4,λ_=>by simpa using hk⟩
 refine aux _ (a+1) rfl (bo _) ha λi h1 h2=>?_
 have:i=a:=y_511 h2 h1
 rw [this];simp
theorem zQ{a e:Nat}(ord:Ord n b k)(hl:∀p q,p<n->q<n->(k p).length=(k q).length)(hb:Brk n b k a)(Hl:a<e)(Fd:e<=n)(run:∀i,a<=i->i<e->(k a==k i)=true)(GE:e<n->(k a==k e)=false):Brk n b k e:=by
 intro p q hp hq OE
 by_cases Hk:p<a
 ·exact hb p q Hk (bX 0xba10a914b910 a e q rfl Hl hq) OE
 ·have Uz:k a=k p:=by simpa using run p (nj Hk) hp
  have DY:k a≠k e:=by simpa using GE (bU ‹_› ‹_›)
  have h1:bf b (k a) (k e)=true:=(ord a e Hl (bU ‹_› ‹_›)).resolve_left DY
  rw [<-Uz]
  by_cases Ik:q=e
  ·rw [Ik];exact h1
  ·rcases ord e q (Cn hq Ik) OE with h|h
   ·rw [<-h];exact h1
   ·exact vp (hl a e (ad ‹_› ‹_›) (bU ‹_› ‹_›)) (hl e q (bU ‹_› ‹_›) OE) h1 h
theorem run_z{a e:Nat}(sg:Sig n b (kLt ki λi=>(i:Int)) σ)(hl:∀p q,p<n->q<n->(ki p).length=(ki q).length)(hb:Brk n b (λq=>ki (σ q)) a)(he:Brk n b (λq=>ki (σ q)) e)(Hl:a<e)(Fd:e<=n)(run:∀i,a<=i->i<e->(ki (σ a)==ki (σ i))=true){q:Nat}(hq:a<=q)(Ik:q<e):zP b n ki (σ q)=a+e-1:=by
 have inj:∀q q',q<n->q'<n->σ q=σ q'->q=q':=λq q' h h' e=>aO λDY=>sg.inj q q' h h' DY e
 have RQ:ki (σ a)=ki (σ q):=by simpa using run q hq Ik
 have OL:∀p q,p<n->q<n->(ki (σ p)).length=(ki (σ q)).length:=λp q hp hq=>hl _ _ (sg.bd p hp) (sg.bd q hq)
 unfold zP
 rw [pd sg.bd inj,pd sg.bd inj (λj=>ki j==ki (σ q))]
 have c1:(aG n).countP (λp=>bf b (ki (σ p)) (ki (σ q)))=a-0:=by
  refine iT _ 0 a n (λp hp=>?_) (bX 0xba10a914b910 a e n rfl Hl Fd) (bY _)
  by_cases Hk:p<a
  ·rw [decide_eq_true Hk];exact hb p q Hk hq (ad ‹_› ‹_›)
  ·rw [decide_eq_false Hk,<-RQ]
   by_cases Ju:p<e
   ·have:ki (σ a)=ki (σ p):=by simpa using run p (nj Hk) Ju
    rw [this];exact vq _ _
   ·exact BI (OL a p (ad ‹_› ‹_›) hp) (he a p Hl (nj Ju) hp)
 have c2:(aG n).countP (λp=>ki (σ p)==ki (σ q))=e-a:=by
  refine iT _ a e n (λp hp=>?_) Fd (aJ ‹_›)
  by_cases Hk:a<=p
  ·by_cases Ju:p<e
   ·rw [decide_eq_true Hk,decide_eq_true Ju]
    have:ki (σ a)=ki (σ p):=by simpa using run p Hk Ju
    rw [<-this,RQ];simp
   ·rw [decide_eq_false Ju,Bool.and_false]
    have:=he q p Ik (nj Ju) hp
    refine beq_eq_false_iff_ne.mpr λz=>?_
    simp only at this
    rw [z,vq] at this;cases this
  ·rw [decide_eq_false Hk,Bool.false_and]
   have:=hb p q (b6 2836568596 a p rfl Hk) hq (ad ‹_› ‹_›)
   refine beq_eq_false_iff_ne.mpr λz=>?_
   simp only at this
   rw [z,vq] at this;cases this
 rw [c1,c2]
 exact y_468 Hl
end
theorem GEnd.ex{b e:Nat}{k:Tok}(x:GEnd D fr b e sN k h):∃vs it,Gbw D fr vs it h/\∀h',Gbw D fr vs it h'->GEnd D fr b e sN k h':=by
 rcases x with ⟨h1,h2,g⟩|⟨h1,g⟩
 ·exact⟨_,_,g,λh' g'=>.inl ⟨h1,h2,g'⟩⟩
 ·exact⟨_,_,g,λh' g'=>.inr ⟨h1,g'⟩⟩
noncomputable def rkFor:Stmt:=((gR (st 16))[5]?).getD (.Pass ⟨0,0,0,0⟩)
noncomputable def Ab:List Stmt:=match rkFor with
 |.For _ _ b _ _=>b
 |_=>[]
section
variable{Q:Flow->Shared->Prop}
theorem Wk.load{Q:Value->Shared->Prop}(ws:Ws A B s fr env)(wk:Wk K B s fr env Γ ch C')(j:Nat)(hj:Γ[j]?=some (x,d))(hQ:∀v,At 0 C'.heap v d->Q v C'):wpAny (model prog w) A (loadName env x) Q E C':=by
 obtain⟨_,m,cm,f,g⟩:=wk.fx.fx
 obtain⟨v,a,b⟩:=g j x d hj
 have DJ:At 0 C'.heap v d:=b.old f.base
 rcases a with ⟨a,c⟩|⟨a,⟨c,hc⟩,e⟩
 ·exact wpAny_loadName_local ws.hk a f.ns c (hQ v DJ)
 ·rw [ws.cells] at hc;cases hc
theorem Wk.notE(ws:Ws A B s fr env){a:Nat}(h:a∉d4 (env::fr)):¬@Eq Nat a env.locals:=λz=>h ((eD ws.frame _).mpr (.inl z))
theorem Wk.gbK{vs:Array (Option Value)}(ws:Ws A B s fr env)(wk:Wk K B s fr env Γ ch C')(g:Gbw D (env::fr) vs it C'.heap)(k:KpL env C'.heap h'):Gbw D (env::fr) vs it h' :=
 g.keepA λa o ha q=>k a o (Wk.notE ws (g.addr_frs (wk.stkE ws) ha)) q
theorem Wk.listK{a:Nat}(ws:Ws A B s fr env)(wk:Wk K B s fr env Γ ch C')(hl:C'.heap.IsList a xs)(k:KpL env C'.heap h'):h'.IsList a xs:=by
 obtain⟨o,c,q,d⟩:=iR hl
 exact cU hl λo' q'=>k a o' (Wk.notE ws (dC (wk.stkE ws) q λ_ _ z=>by rw [d] at z;cases z)) q'
theorem Wk.dnK{n:Nat}{z:Nat->Int}{a:Nat}(ws:Ws A B s fr env)(wk:Wk K B s fr env Γ ch C')(dn:Dn n σ z Rs a C'.heap)(k:KpL env C'.heap h'):Dn n σ z Rs a h' :=
 ci dn λDB hi r=>⟨DB,wk.listK ws hi k,r⟩
theorem Wk.slotK{x:Nat}{vs:Array (Option Value)}(ws:Ws A B s fr env)(wk:Wk K B s fr env Γ ch C')(g:SlotF (env::fr) C'.heap x C vs)(k:KpL env C'.heap h'):SlotF (env::fr) h' x C vs :=
 ⟨g.1,g.2.1,k _ _ (Wk.notE ws (dC (wk.stkE ws) g.2.2.1 λ_ _ q=>by cases q)) g.2.2.1,k _ _ (Wk.notE ws g.2.1) g.2.2.2⟩
theorem w4{x a e n:Nat}{k:Tok}{z:Nat->Int}{Γb:Ctx}(r:Room A 14)
  (ws:Ws A B s fr env) (wk:Wk K B s fr env (("g",.is (.ref x))::("_",.is (.ref (D.Kx a)))::("i",.int ((a:Int)-1))::Γb) [] C') (he:∃pm cd doc,env=ky (st 16) "_rank" .none (.ref 271) 278 L0 pm cd doc)
  (Iq:Γb[jr]?=some (("result":Str),Dt.is (.ref Rs))) (hf:∀y,y∈[("i":Str),"_","g","group","size","rank","value","orig_pos"]->Fresh Γb y=true)
  (ok:D.Ok B) (g:Gbw D (env::fr) (gbP D (.int sN k) a (.bool true) (.int sN k) (.ref (D.Kx a))) (some (a+1)) C'.heap) (gx:SlotF (env::fr) C'.heap x 169 (grS D sN k a)) (FL:k≠0) (dn:Dn n σ z Rs a C'.heap)
  (hG:s.heap.objs.size<=D.G) (hI:s.heap.objs.size<=D.I) (H9:s.heap.objs.size<=Rs) (hA:∀a,GAddr D a->a≠Rs) (F6:D.n=n) (hn:n<64) (Hl:a<e) (Fd:e<=n)
  (Eg:∀i,a<=i->i<e->(D.ki a==D.ki i)=true) (GE:e<D.n->(D.ki a==D.ki e)=false)
  (hc:∀q,q<n->D.c q=σ q) (bd:∀q,q<n->σ q<n) (inj:∀p q,p<n->q<n->σ p=σ q->p=q) (hz:∀q,a<=q->q<e->z q=a+e-1)
  (hQ:∀s',Wk K B s fr env (("i",.int ((e:Int)-1))::Γb) [] s'->GEnd D (env::fr) a e sN k s'.heap->Dn n σ z Rs e s'.heap->Q .next s'):
  wpAny (model prog w) A (execs Ab env) Q E C':=by
 obtain⟨pm,cd,doc,he⟩:=he
 have hk:=ws.hk
 have Fg:=ws.bsz
 have EU:∀L∈d4 (env::fr),B.get? L=none:=λL hL=>((eD ws.frame L).mp hL).elim (λz=>df (by have:=ws.ge;exact qk Fg this z)) (ws.offB L)
 have Hn:∀{Γ h},Wk K B s fr env Γ [] h->Gl env (ni env Γ h.heap) "list" (.type "list"):=λwk=>by subst he;exact wk.gl ws (.inr (co (by kernel_rfl))) rfl rfl rfl rfl
 have JI:∀{Γ h},Wk K B s fr env Γ [] h->Gl env (ni env Γ h.heap) "len" (.builtin "len"):=λwk=>by subst he;exact wk.gl ws (.inr (co (by kernel_rfl))) rfl rfl rfl rfl
 have lc:∀y,y∈[("i":Str),"group","size","rank","value","orig_pos"]->env.kindOf y=some .local:=by subst he;intro y hy;simp at hy;rcases hy with rfl|rfl|rfl|rfl|rfl|rfl<;>rfl
 have G1:∀y,y∈[("i":Str),"_","g","group","size","rank","value","orig_pos"]->∀Jg:Ctx,(Jg.all λp=>p.1 != y)=true->Fresh (Jg ++ Γb) y=true:=λy hy Jg h1=>by
  have:=hf y hy
  unfold Fresh at this ⊢
  rw [List.all_append,h1,this];rfl
 refine au (bu (aK (cC (Hn wk) wk.fx.fx ?_)) rfl)
 refine cE rfl (aE (ar (Ev.run (an (cu 0 rfl hk)) wk.fx.fx wk.t λva Dy t1 u1 l1 Dv=>aA ?_)))
 replace Dv:=At_is Dv
 subst Dv
 have EG:=wk.gr ws u1 l1
 have g1:=g.up u1.up
 refine vZ (s:={C' with heap:=Dy,toks:=t1}) (D:=D) (b:=a) (e:=e) (r.le (by decide)) EG.bt EG.t ws.frames (EG.stkE ws) EU ok g1 (gx.up u1.up) FL Hl (bX 0xab1ca910b910 e n D.n rfl Fd F6) (bX 0x9b18a914ab14 n (64:Nat) D.n rfl hn F6) Eg GE λS DE t2 hS ls ge sl Id Mc l2=>?_
 have DL:=EG.call2 ws sl l2 (λb hb=>.inr (by simp at hb;rcases hb with rfl|rfl;exact hG;exact hI)) (λb hb=>by simp at hb;rcases hb with rfl|rfl;exact ok.bG;exact ok.bI) g1.nns
 have ER:=g1.low
 have Sh:Dn n σ z Rs a Dy:=dn.at λo=>u1.up _ o
 have NO:Dn n σ z Rs a DE:=by
  obtain⟨DB,hi,rr⟩:=Sh
  obtain⟨o,c,q,d⟩:=iR hi
  refine⟨DB,cU hi λo' q'=>sl.kept _ o' (λhm=>?_) (dC (EG.stkE ws) q λ_ _ z=>by rw [d] at z;cases z) q',rr⟩
  simp at hm
  rcases hm with hm|hm
  ·exact hA _ (.inl rfl) hm.symm
  ·exact hA _ (.inr (.inr (.inr (.inr (.inr (.inl rfl)))))) hm.symm
 have NH:s.heap.objs.size<=S:=ab EG.sl.sz hS
 have O3:S≠Rs:=λq=>by
  obtain⟨DB,hi,_⟩:=Sh
  have:=iG hi
  exact rj this hS q
 obtain⟨vs,it,g2,back⟩:=ge.ex
 refine DL.store (d:=.is (.ref S)) ws At_rfl rfl (G1 "group" (by decide) [_,_,_] rfl) (lc _ (by decide)) λs3 DS k3 _=>?_
 have g3:=DL.gbK ws g2 k3
 have Py:=DL.dnK ws NO k3
 have Rr:=DL.listK ws ls k3
 refine au (bu (aK (cC (JI DS) DS.fx.fx ?_)) rfl)
 refine bV rfl (aE (ar (Ev.run (an (cu 0 rfl hk)) DS.fx.fx DS.t λva h4 t4 u4 l4 p4=>aA ?_)))
 replace p4:=At_is p4
 subst p4
 have DR:=DS.gr ws u4 l4
 have hsz:(rX D a (e-a)).size=e-a:=by simp [rX]
 refine iQ (s:={s3 with heap:=h4,toks:=t4}) (cU Rr λo=>u4.up _ o) (by rw [hsz];exact bX 0x1562134204031914800000000000000081b715 n e (e-a) rfl hn Fd (cZ e a)) ?_
 have DT:=DR.gr (h':=h4) (t':=t4+1+1) ws (Gr.refl _) (by show t4<=_;exact wv)
 refine DT.store (d:=.int ((e-a:Nat):Int)) ws (At_int.mpr ⟨t4+1,ic _,by rw [hsz]⟩) rfl (G1 "size" (by decide) [_,_,_,_] rfl) (lc _ (by decide)) λDI D5 k6 _=>?_
 have g6:=DT.gbK ws (g3.up u4.up) k6
 have VE:=DT.dnK ws (Py.at (h':=h4) λo=>u4.up _ o) k6
 have TQ:=DT.listK ws (cU Rr λo=>u4.up _ o) k6
 refine nJ (d:=.flt (2*((a:Int)-1)+(((e-a:Nat):Int)+1))) ws D5 (Ev.nflt (bH (uM _ _ (y_131 hn Hl Fd) (y_123 hn Fd)) (Ev.int (an (cu 4 rfl hk))) (bH (A8 _ (cV 73441345809 (e-a) rfl) (bX 0x2ac426840806322800080000000000010311b7215 n e (e-a) rfl hn Fd (cZ e a))) (bH (je _ 1) (Ev.int (an (cu 0 rfl hk))) br) br))) rfl (G1 "rank" (by decide) [_,_,_,_,_] rfl) (lc _ (by decide)) rfl λG7 D8 k7=>?_
 have EF:=D5.gbK ws g6 k7
 have VD:=D5.dnK ws VE k7
 have TP:=D5.listK ws TQ k7
 refine vQ (D:=D) (S:=S) (Rs:=Rs) (b:=a) (e:=e) (n:=n) (σ:=σ) (z:=z) (zz:=2*((a:Int)-1)+(((e-a:Nat):Int)+1)) (jg:=2) (jr:=jr+6) (jk:=0) ws ⟨D8,EF,VD,TP⟩ rfl (by simpa using Iq) rfl (G1 "value" (by decide) [_,_,_,_,_,_] rfl) (G1 "orig_pos" (by decide) [_,_,_,_,_,_] rfl) (lc _ (by decide)) (lc _ (by decide)) NH H9 O3 hA F6 hn Hl Fd hc (λq hq=>ok.ct0 q (fv hq F6)) bd inj (λq h1 h2=>by rw [hz q h1 h2];exact y_469 Hl) λs8 y=>?_
 have Mw:a+(e-a)=e:=AH Hl
 have Sf:=y.dn
 rw [Mw] at Sf
 refine au (wpAny_AugAssign_Name (y.wk.load ws 5 rfl λvi Ox=>?_))
 obtain⟨ti,_,rfl⟩:=At_int.mp Ox
 refine Ev.run (an (cu 1 rfl hk)) y.wk.fx.fx y.wk.t λEB h9 t9 u9 GB p9=>?_
 obtain⟨tj,_,rfl⟩:=At_int.mp p9
 refine j7 ?_
 have FH:=(y.wk.gr ws u9 GB).gr (h':=h9) (t':=t9+1) ws (Gr.refl _) (aD _)
 have FY:=FH.sub (Γ':=Γb) λp hp=>by
  simp only [aQ];exact .inr (.inr (.inr (.inr (.inr (.inr hp)))))
 refine FY.store (d:=.int ((e:Int)-1)) ws (At_int.mpr ⟨t9,aB (ad y.wk.t GB),by congr 1;exact y_446 Mw⟩) rfl (hf "i" (by decide)) (lc _ (by decide)) λsB Fv kB _=>?_
 refine aH (hQ sB Fv (back _ (FY.gbK ws (y.g.up u9.up) kB)) (FY.dnK ws (Sf.at (h':=h9) λo=>u9.up _ o) kB))
end
noncomputable def GRdy(D:GD)(fr:List Env)(a:Nat)(h:Heap):Prop:=∃cg ck cv El Eo D2 tk sN sT it,Gbw D fr (gb cg ck cv El Eo D2 (.ref D.I) (.ref D.IG) (.int sN sT) tk) it h /\
 ((a<D.n/\((El=.bool false/\D2=.bool false/\it=some a)\/(El=.bool true/\ck=.ref (D.Kx a)/\cv=.ref (D.P a)/\Eo=.bool true/\it=some (a+1)/\Tgt D a D2 tk)))\/(a=D.n/\El=.bool false/\it=none))
theorem GEnd.rdy{b e:Nat}{k:Tok}(x:GEnd D fr b e sN k h)(hb:b<D.n):GRdy D fr e h:=by
 rcases x with ⟨h1,h2,g⟩|⟨h1,g⟩
 ·exact⟨_,_,_,_,_,_,_,_,_,_,g,.inl ⟨h1,.inr ⟨rfl,rfl,rfl,rfl,rfl,.inr ⟨rfl,b,hb,rfl,h2⟩⟩⟩⟩
 ·exact⟨_,_,_,_,_,_,_,_,_,_,g,.inr ⟨h1,rfl,rfl⟩⟩
section
variable{Q:Flow->Shared->Prop}
theorem xt{k0}{pos:Pos}{x T dx:Nat}{vs:Array (Option Value)}{Q:Unit->Shared->Prop}(hx:s.heap.get? x=some (slO C dx vs))(hQ:Q () s):wpAny (model prog w) A (letOwnedTupleGo (.Tuple elts k0 pos) (.ref x) (.ref T)) Q E s:=by
 refine aa (wpAny_load hx ?_)
 exact ai hQ
theorem w0{n:Nat}{b:Bool}{Γb:Ctx}{p3:Pos}{k0:Nat}(r:Room A 16)
  (ws:Ws A B s fr env) (wk:Wk K B s fr env (("i",.int (((0:Nat):Int)-1))::Γb) [] C') (he:∃pm cd doc,env=ky (st 16) "_rank" .none (.ref 271) 278 L0 pm cd doc)
  (Iq:Γb[jr]?=some (("result":Str),Dt.is (.ref Rs))) (hf:∀y,y∈[("i":Str),"_","g","group","size","rank","value","orig_pos"]->Fresh Γb y=true)
  (ok:D.Ok B) (g:GRdy D (env::fr) 0 C'.heap) (dn:∃DB:Array Value,C'.heap.IsList Rs DB/\DB.size=n)
  (hG:s.heap.objs.size<=D.G) (hI:s.heap.objs.size<=D.I) (H9:s.heap.objs.size<=Rs) (hA:∀a,GAddr D a->a≠Rs) (F6:D.n=n) (hn:n<64)
  (hc:∀q,q<n->D.c q=σ q) (sg:Sig n b (kLt ki λi=>(i:Int)) σ) (RT:D.ki=λq=>ki (σ q)) (Du:∀p q,p<n->q<n->(ki p).length=(ki q).length)
  (hQ:∀s',Wk K B s fr env Γb [] s'->Dn n σ (λq=>zP b n ki (σ q)) Rs n s'.heap->R (.ok .next) s'):
  codeAny (model prog w) A (.forLoop (.Tuple [.Name "_" p1,.Name "g" p2] k0 p3) (.ref D.G) Ab [] env) R C':=by
 have Fg:=ws.bsz
 have EU:∀L∈d4 (env::fr),B.get? L=none:=λL hL=>((eD ws.frame L).mp hL).elim (λz=>df (by have:=ws.ge;exact qk Fg this z)) (ws.offB L)
 have inj:∀q q',q<n->q'<n->σ q=σ q'->q=q':=λq q' h h' e=>aO λDY=>sg.inj q q' h h' DY e
 have OL:∀p q,p<n->q<n->(ki (σ p)).length=(ki (σ q)).length:=λp q hp hq=>Du _ _ (sg.bd p hp) (sg.bd q hq)
 have lc:env.kindOf "_"=some .local/\env.kindOf "g"=some .local:=by obtain⟨pm,cd,doc,he⟩:=he;subst he;exact⟨rfl,rfl⟩
 refine iP (λm s'=>∃a,m=n+1-a/\a<=n/\Wk K B s fr env (("i",.int ((a:Int)-1))::Γb) [] s'/\GRdy D (env::fr) a s'.heap/\Dn n σ (λq=>zP b n ki (σ q)) Rs a s'.heap/\Brk n b (λq=>ki (σ q)) a) ?_ (n+1) ⟨0,rfl,bY _,wk,g,ci dn λDB h1 h2=>⟨DB,h1,h2,λq hq=>BS hq⟩,λp q hp=>y_607 hp⟩
 rintro m s' ⟨a,rfl,R8,EA,⟨cg,ck,cv,El,Eo,D2,tk,sN,sT,it,g',Pk⟩,L3,brk⟩
 have sk:=EA.bt.kr.sk
 have X':K.In s'.heap:=(EA.bt.kr.up EA.bt.up).X
 have R6:∀b∈[D.G,D.I],b∈([]:List Nat)\/s.heap.objs.size<=b:=λb hb=>.inr (by simp at hb;rcases hb with rfl|rfl;exact hG;exact hI)
 have hcB:∀b∈[D.G,D.I],B.objs.size<=b:=λb hb=>by simp at hb;rcases hb with rfl|rfl;exact ok.bG;exact ok.bI
 have dnS:∀{h':Heap},Sl [D.G,D.I] (env::fr) s'.heap h'->Dn n σ (λq=>zP b n ki (σ q)) Rs a h':=fun{h'} sl=>by
  refine ci (L3) λDB hi rr=>?_
  refine lF (iR hi) λo c q d=>?_
  refine⟨DB,cU hi λo' q'=>sl.kept _ o' (λhm=>?_) (dC (EA.stkE ws) q λ_ _ z=>by rw [d] at z;cases z) q',rr⟩
  simp at hm
  rcases hm with hm|hm
  ·exact hA _ (.inl rfl) hm.symm
  ·exact hA _ (.inr (.inr (.inr (.inr (.inr (.inl rfl)))))) hm.symm
 rcases Pk with ⟨DH,Pk⟩|⟨GE,rfl,rfl⟩
 ·refine mU (f:=120) sk X' g'.g.at (by decide +kernel) (cw (zq (r.le (by decide)) EA.bt EA.t ws.frames (EA.stkE ws) EU ok g' DH Pk λT x DE t2 k hk g2 hT Fw hx Eu l2=>?_))
  have DL:=EA.call2 ws Eu l2 R6 hcB g'.nns
  refine xt g2.g.2.2.1 ?_
  refine DL.pair (d:=.is (.ref (D.Kx a))) (e:=.is (.ref x)) ws hT At_rfl At_rfl rfl rfl ?_ ?_ lc.1 lc.2 (by decide) λs3 DS k3=>?_
  ·have:=hf "_" (by decide)
   unfold Fresh at this ⊢
   rw [List.all_cons,this];rfl
  ·have:=hf "g" (by decide)
   unfold Fresh at this ⊢
   rw [List.all_cons,this];rfl
  have g3:=DL.gbK ws g2 k3
  have Gk:=DL.slotK ws Fw k3
  have Py:=DL.dnK ws (dnS Eu) k3
  refine e1a4 (A0 (k:=λq=>ki (σ q)) (n:=n) (a:=a) (fq DH F6)) λe h1 h2 h3 h4=>?_
  have MA:Brk n b (λq=>ki (σ q)) e:=zQ sg.keys OL brk h1 h2 h3 h4
  refine w4 (e:=e) (z:=λq=>zP b n ki (σ q)) (r.le (by decide)) ws DS he Iq hf ok g3 Gk hk Py hG hI H9 hA F6 hn h1 h2 (by rw [RT];exact h3) (by rw [RT,F6];exact h4) hc sg.bd inj (λq h5 h6=>run_z sg Du brk MA h1 h2 h3 h5 h6) λs4 DR Vn Px=>?_
  exact⟨n+1-e,y_93 h1 DH F6,e,rfl,h2,DR,Vn.rdy DH,Px,MA⟩
 ·have hg':=g'
  refine mU (f:=120) sk X' g'.g.at (by decide +kernel) (cw (xG (r.le (by decide)) EA.bt EA.t ws.frames (EA.stkE ws) EU ok g' (.inr rfl) λDE t2 ex fl l2=>?_))
  refine uW fl rfl ?_
  have DL:=EA.call2 ws fl.sl l2 R6 hcB g'.nns
  have QM:a=n:=y_523 GE F6
  subst QM
  exact aH (hQ _ (DL.sub λp hp=>az _ hp) (dnS fl.sl))
end
section
variable{Q:Flow->Shared->Prop}
theorem fN{id:Str}{pos:Pos}{args:List Expr}{Rv:List Keyword}{Q:Value->Shared->Prop}
  (h:wpAny M A (eval (.Name id p) env) (λf C'=>wpAny M A (callWith pos f [] (backTo pos (starEach args env)) (backToKw pos (keywordEach Rv env))) Q E C') E s):
  wpAny M A (eval (.Call (.Name id p) args Rv pos) env) Q E s:=by
 exact aa h
theorem yx{f l:Nat}{Q:Value->Shared->Prop}(hl:s.heap.IsList l xs)
  (h:∀(M TM LI:Nat) h',Gr s.heap h'->s.heap.objs.size<=LI->LI<TM->TM<M->M<h'.objs.size->h'.get? M=some {cls:=.type "map",data:=.fields #[.ref TM,.ref f]}->h'.get? TM=some {cls:=.type "tuple",data:=.seq #[.ref LI] 0}->h'.IsListIter LI l 0->Q (.ref M) {s with heap:=h'}):wpAny (model prog w) A (call (.type "map") [.ref f,.ref l]) Q E s:=by
 refine callType_new v9 (by decide) (ru _ _) (tK _ _) (λobj=>F.args_object_init_3 obj _ _) qN (qC f l xs) ⟨hl,?_⟩
 have z1:(s.heap.push {cls:=.type "list_iterator",data:=.fields #[.ref l,.int 0 0]}).objs.size=s.heap.objs.size+1:=ao ..
 have z2:((s.heap.push {cls:=.type "list_iterator",data:=.fields #[.ref l,.int 0 0]}).push {cls:=.type "tuple",data:=.seq #[.ref s.heap.objs.size]}).objs.size=s.heap.objs.size+2:=by rw [ao,z1]
 have g1:=am s.heap (o:={cls:=.type "list_iterator",data:=.fields #[.ref l,.int 0 0]}) rfl
 have g2:=am (s.heap.push {cls:=.type "list_iterator",data:=.fields #[.ref l,.int 0 0]}) (o:={cls:=.type "tuple",data:=.seq #[.ref s.heap.objs.size]}) rfl
 have g3:=am ((s.heap.push {cls:=.type "list_iterator",data:=.fields #[.ref l,.int 0 0]}).push {cls:=.type "tuple",data:=.seq #[.ref s.heap.objs.size]}) (o:={cls:=.type "map",data:=.fields #[.ref (s.heap.objs.size+1),.ref f]}) rfl
 rw [z1] at g2
 rw [z2] at g3
 refine⟨⟨_,g3,rfl⟩,h (s.heap.objs.size+2) (s.heap.objs.size+1) s.heap.objs.size _ ⟨λb o e=>af _ (af _ (af _ e)),by rw [ao,z2];exact cV 18769570310416 s.heap.objs.size rfl⟩ (ag _) (bo _) (bo _) (by rw [ao,z2];exact vF) g3 (af _ g2) ⟨_,af _ (af _ g1),rfl,rfl⟩⟩
theorem Wk.objK{a:Nat}{o:Obj}(ws:Ws A B s fr env)(wk:Wk K B s fr env Γ ch C')(q:C'.heap.get? a=some o)(nd:∀es ep,o.data≠.dict es ep)(k:KpL env C'.heap h'):h'.get? a=some o :=
 k a o (Wk.notE ws (dC (wk.stkE ws) q nd)) q
theorem Srt.low{n:Nat}{b:Bool}{l:Nat}{kv:Nat->Array Value}(x:Srt n b ki lo h l items T Kx kv ct σ)(hl:Es<=lo):Srt n b ki Es h l items T Kx kv ct σ :=
 {x with lol:=ab hl x.lol,tup:=λi hi=>a5 (x.tup i hi) λa b c d e=>⟨a,b,c,ab hl d,ab hl e⟩}
theorem Srt.keep{n:Nat}{b:Bool}{l:Nat}{kv:Nat->Array Value}(x:Srt n b ki lo h l items T Kx kv ct σ)(k:∀(a:Nat) o,(∀es ep,o.data≠.dict es ep)->h.get? a=some o->h'.get? a=some o):Srt n b ki lo h' l items T Kx kv ct σ:=by
 have tk:∀{a:Nat} {xs:Array Value},h.IsTuple a xs->h'.IsTuple a xs:=fun{a xs} ⟨o,e,c,m,d⟩=>⟨o,k a o (λ_ _ q=>by rw [d] at q;cases q) e,c,m,d⟩
 have lk:∀{a:Nat} {xs:Array Value},h.IsList a xs->h'.IsList a xs:=fun{a xs} ⟨o,e,c,m,d⟩=>⟨o,k a o (λ_ _ q=>by rw [d] at q;cases q) e,c,m,d⟩
 exact{x with lst:=lk x.lst,tup:=λi hi=>a4 (x.tup i hi) λa b c d=>⟨tk a,tk b,c,d⟩}
theorem tB{M TM l n F nM:Nat}{b:Bool}{fresh:Nat->Bool}{rt:Nat->Nat->Tok}{rows:Array Value}{jd jv:Nat}(r:Room A 14)
  (ws:Ws A B s fr env) (wk:Wk K B s fr env Γ [] C') (he:∃pm cd doc,env=ky (st 16) "_rank" .none (.ref 271) 278 L0 pm cd doc)
  (UW:Γ[jd]?=some (("data":Str),Dt.is (.ref M))) (US:Γ[jv]?=some (("reverse":Str),Dt.is (.bool b))) (U1:Fresh Γ "val_pos"=true)
  (hM:C'.heap.get? M=some {cls:=.type "map",data:=.fields #[.ref TM,.ref F]}) (LR:C'.heap.get? TM=some {cls:=.type "tuple",data:=.seq #[.ref LI] nM}) (Pa:C'.heap.IsListIter LI l 0) (hl:C'.heap.IsList l rows) (o1:l<LI) (o2:LI<TM) (o3:TM<M) (hs:s.heap.objs.size<=LI)
  (hn:rows.size=n) (Gi:2<=n) (Ex:n<64) (key:∀i row,rows[i]?=some row->KeyCall w K B F row (KSpec ki fresh rt i))
  (Du:∀i j,i<n->j<n->(ki i).length=(ki j).length) (Lz:∀i j q,i<n->j<n->fresh q=false->rt i q=rt j q->(ki i)[q]?=(ki j)[q]?)
  (hQ:∀lv items T Kx kv ct σ s',Wk K B s fr env (("val_pos",.is (.ref lv))::Γ) [] s'->Srt n b ki s.heap.objs.size s'.heap lv items T Kx kv ct σ->wpAny (model prog w) A (execs ((gR (st 16)).drop 3) env) Q E s'):
  wpAny (model prog w) A (execs ((gR (st 16)).drop 2) env) Q E C':=by
 refine zD (he) λpm cd doc he=>?_
 have hk:=ws.hk
 have Fg:=ws.bsz
 have DX:=ws.ge
 have EU:∀L∈d4 (env::fr),B.get? L=none:=λL hL=>((eD ws.frame L).mp hL).elim (λz=>df (qk Fg DX z)) (ws.offB L)
 have FD:∀{Γ h},Wk K B s fr env Γ [] h->Gl env (ni env Γ h.heap) "sorted" (.builtin "sorted"):=λwk=>by subst he;exact wk.gl ws (.inr (co (by kernel_rfl))) rfl rfl rfl rfl
 have NJ:∀{Γ h},Wk K B s fr env Γ [] h->Gl env (ni env Γ h.heap) "zip" (.type "zip"):=λwk=>by subst he;exact wk.gl ws (.inr (co (by kernel_rfl))) rfl rfl rfl rfl
 have I6:∀{Γ h},Wk K B s fr env Γ [] h->Gl env (ni env Γ h.heap) "count" (.ref 222):=λwk=>by subst he;exact wk.gl ws (.inl (co (by kernel_rfl))) rfl rfl rfl rfl
 have lv:env.kindOf "val_pos"=some .local:=by subst he;rfl
 refine au (bu (fN (cC (FD wk) wk.fx.fx (callWith_kw ?_))) rfl)
 refine ar (aK (cC (NJ wk) wk.fx.fx ?_))
 refine cE rfl (aE (ar (Ev.run (an (cu jd UW hk)) wk.fx.fx wk.t λva DE t2 u2 l2 DD=>?_)))
 replace DD:=At_is DD
 subst DD
 have DL:=wk.gr ws u2 l2
 have Nb:=DL.bt.kr.up DL.bt.up
 refine ar (aK (cC (I6 DL) DL.fx.fx (callWith_K0 Nb.X (Nb.sk.kp 222 (by decide +kernel)) ?_)))
 refine cw (mV (C:=222) (fI:=197) Nb.sk Nb.X (by decide +kernel) (by decide +kernel) (DL.stkE ws) λC Eh u3 I5 GH Rb=>?_)
 have DS:=DL.gr ws u3 (ag _)
 have bC:B.objs.size<=C:=by have h1:B.objs.size<=DE.objs.size:=DL.bt.sz;have h2:@cA Nat _ DE.objs.size C:=I5;exact oq I5 h1
 have sC:s.heap.objs.size<=C:=by have h1:s.heap.objs.size<=DE.objs.size:=DL.sl.sz;have h2:@cA Nat _ DE.objs.size C:=I5;exact oq I5 h1
 refine v7 (Room.made (r.le (by decide))) DS.bt DS.t ws.frames (DS.stkE ws) EU Rb bC λh4 t4 k k2 fst FL Ff NZ Ie l4=>?_
 refine⟨rfl,aA ?_⟩
 have nC:∀(L:Nat) m,L∈[C]->¬Eh.Ns L m:=λL m hL n=>by
  rw [ak.mp hL] at n
  refine oi (n) λo es ep q d _=>?_
  rw [Rb.2.2.1] at q;cases q;cases d
 have DR:=DS.call2 ws Ie l4 (λb hb=>.inr (by rw [ak.mp hb];exact sC)) (λb hb=>by rw [ak.mp hb];exact bC) nC
 have Q2:Up C'.heap Eh:=u2.up.trans u3.up
 have kC:∀(a:Nat) o,(∀es ep,o.data≠.dict es ep)->C'.heap.get? a=some o->h4.get? a=some o:=λa o nd q=>Ie.kept a o (λz=>by
  have h1:@cA Nat _ a DE.objs.size:=iF (u2.up _ _ q)
  have h2:@cA Nat _ DE.objs.size C:=I5
  have h3:@Eq Nat a C:=ak.mp z
  exact bX 0x9b14a914ab1e DE.objs.size C a rfl I5 h1 h3) (dC (DS.stkE ws) (Q2 _ _ q) nd) (Q2 _ _ q)
 have hM4:=kC _ _ (λ_ _ q=>by cases q) hM
 have hTM4:=kC _ _ (λ_ _ q=>by cases q) LR
 have hLI4:h4.IsListIter LI l 0:=kF Pa λo e c d=>⟨o,kC _ _ (λ_ _ q=>by rw [d] at q;cases q) e,c,d⟩
 have OO:h4.IsList l rows:=let ⟨o,e,c,m,d⟩:=hl;⟨o,kC _ _ (λ_ _ q=>by rw [d] at q;cases q) e,c,m,d⟩
 have hMC:M+1<C:=by
  have h1:@cA Nat _ M DE.objs.size:=iF (u2.up _ _ hM)
  have h2:@cA Nat _ DE.objs.size C:=I5
  exact bX 0x1742952297119214 M DE.objs.size C rfl h1 I5
 have hC4:C<h4.objs.size:=NZ.lt
 refine wa (s:={C' with heap:=h4,toks:=t4}) (r.le (by decide)) DR.bt DR.t ⟨TM,nM,o3,hM4,hTM4⟩ NZ λz TI TO h5 t5 hz KZ OY u5 Tp To Tn oz4 l5=>?_
 have DT:=DR.gr ws u5 l5
 refine aA ?_
 refine kws_cons (Ev.run (DT.is ws jv US) DT.fx.fx DT.t λvb h6 t6 u6 l6 p6=>kws_nil ?_)
 have Te:vb=.bool b:=p6
 subst Te
 have D5:=DT.gr ws u6 l6
 have K9:Up h4 h6:=u5.up.trans u6.up
 let D:ZD:=⟨l,LI,TM,M,C,TI,TO,z,F,nM,rows,fst,k2⟩
 have lt:ZLt D:=⟨o1,o2,o3,hMC,by show C<TI;exact bX 0xba10a914b914 C h4.objs.size TI rfl hC4 Tp,To,Tn⟩
 have zb:ZB K B D (env::fr) 0 0 k (oo D .none (.bool false)) (yH .none .none) h6 h6:=by
  refine⟨⟨u6.up _ _ hz,u6.up _ _ KZ,u6.up _ _ OY,K9 _ _ hM4,K9 _ _ hTM4,?_,cU OO λo=>K9 _ o,NZ.up K9⟩,D5.bt,D5.stkE ws,Sl.refl _ _ _⟩
  refine kF (hLI4) λo e c d=>?_
  exact⟨o,K9 _ o e,c,d⟩
 have RF:∀a∈zch D,s.heap.objs.size<=a:=λa ha=>by
  have h1:LI<TM:=o2
  have:=lt.b;have:=lt.c;have:=lt.d;have:=lt.e;have:=lt.f;have:=lt.g
  simp at ha
  have e1:D.LI=LI:=rfl
  rcases ha with rfl|rfl|rfl|rfl<;>lia
 refine wQ (s:={C' with heap:=h6,toks:=t6}) (D:=D) (K:=K) (B:=B) (ki:=ki) (fresh:=fresh) (rt:=rt) lt (by show B.objs.size<=LI;exact rm Fg hs) (r.le (by decide)) D5.t ws.frames EU zb FL Ff hn Gi Ex key Du Lz λRp items T Kx kv ct σ h7 t7 Hr S0 bt7 VZ l7=>?_
 have D8:=D5.call2 ws S0 l7 (λa ha=>.inr (RF a ha)) (λa ha=>ab Fg (RF a ha)) (zb.nns (ndO D _ _) (ndT _ _))
 refine D8.store (d:=.is (.ref Rp)) ws At_rfl rfl U1 lv λs8 EP k8 _=>?_
 have DZ:s.heap.objs.size<=h6.objs.size+1:=by have h1:s.heap.objs.size<=h6.objs.size:=D5.sl.sz;exact vD h1
 exact hQ Rp items T Kx kv ct σ s8 EP ((Hr.low DZ).keep λa o nd q=>D8.objK ws q nd k8)
end
theorem Bd{l:Nat}{x:Int}{u:Tok}(hl:s.heap.IsList l items)
  (DZ:-(2^63:Int)<=x) (NA:x<2^63) (hsz:items.size*x.toNat<=2^24)
  (h:Q (.ref s.heap.objs.size) {s with heap:=s.heap.push {cls:=.type "list",data:=.seq (List.foldl (λx1 x2=>x1 ++ x2) #[] (eN (if items.isEmpty=true then 0 else x.toNat) items))}}):
  wpAny (model prog w) A (binaryOp .Mult (.ref l) (.int x u)) Q E s:=by
 obtain⟨⟨cls,d,data,sl⟩,ho,KV,k,hd⟩:=id hl
 simp only at KV hd
 subst KV hd
 exact wpAny_binaryOp_repeat_ref (T:="list") (U:="int") (by decide) ⟨_,ho,rfl⟩ (λs'=>jm s' x u) noFill_list_mul PySem.F.fills_int_mul la repeat_list PySem.F.slot_int_index.lookup
  (call_meets la (jm s x u) PySem.F.entry_int_rmul (PySem.F.args_int_rmul_2 _ _) (lm_int_rmul_list_any x u l items k d sl)
   ⟨ho,rfl,⟨_,ho,rfl⟩,call_meets PySem.F.slot_list_mul ⟨_,ho,rfl⟩ PySem.F.entry_list_mul (PySem.F.args_list_mul_2 _ _)
    (lm_list_mul_any l items k d sl x u (by simp [Builtin.List.listFitsIndex];exact y_599 NA DZ) (y_612 hsz) (by simp [Builtin.List.listTooLong,sizeLine];exact y_381 hsz))
    ⟨ho,h⟩⟩)
theorem uC{v:Value}:∀(m:Nat) (DC:Array Value),(List.foldl (λx1 x2=>x1 ++ x2) DC (eN m #[v])).size=DC.size+m
 |0,DC=>by simp
 |m+1,DC=>by
  rw [List.replicate_succ,List.foldl_cons,uC m]
  simp;exact B9
theorem IsTuple.inj{a:Nat}{ys:Array Value}(x:h.IsTuple a xs)(y:h.IsTuple a ys):xs=ys:=by
 obtain⟨o,e,_,_,d⟩:=x
 obtain⟨o',e',_,_,d'⟩:=y
 rw [e] at e';cases e'
 rw [d] at d';cases d';rfl
theorem AtAll.ints_inj:∀{vs:List Value} {a b:List Int},AtAll lo h vs (a.map .int)->AtAll lo h vs (b.map .int)->a=b
 |[],[],[],_,_=>rfl
 |[],_::_,_,x,_=>by simp [aN,aC,aL,aR] at x
 |[],[],_::_,_,y=>by simp [aN,aC,aL,aR] at y
 |_::_,[],_,x,_=>by simp [aN,aC,aL,aR] at x
 |_::_,_::_,[],_,y=>by simp [aN,aC,aL,aR] at y
 |v::vs,a::as,b::bs,x,y=>by
  simp only [ir,aN,aC,aL,aR] at x y
  refine ci (At_int.mp x.1) λt _ Dz=>?_;subst Dz
  refine ci (At_int.mp y.1) λu _ e=>?_
  cases e
  rw [AtAll.ints_inj x.2 y.2]
section
variable{Q:Flow->Shared->Prop}
theorem wZ{lv n:Nat}{b:Bool}{kv:Nat->Array Value}{js:Nat}{k0:Tok}(r:Room A 18)
  (ws:Ws A B s fr env) (wk:Wk K B s fr env (("val_pos",.is (.ref lv))::Γ) [] C') (he:∃pm cd doc,env=ky (st 16) "_rank" .none (.ref 271) 278 L0 pm cd doc)
  (RU:Γ[js]?=some (("start":Str),Dt.is (.int 0 k0))) (FL:k0≠0) (hf:∀y,y∈[("i":Str),"_","g","group","size","rank","value","orig_pos","result"]->Fresh Γ y=true)
  (nb:NoneBooked B) (Hr:Srt n b ki s.heap.objs.size C'.heap lv items T Kx kv ct σ) (Gi:2<=n) (Ex:n<64) (Du:∀i j,i<n->j<n->(ki i).length=(ki j).length) (Ea:∀i,i<n->0<(ki i).length)
  (hQ:∀(Rs:Nat) h' t',Wk K B s fr env (("result",.is (.ref Rs))::("val_pos",.is (.ref lv))::Γ) [] {s with heap:=h',toks:=t'}->s.heap.objs.size<=Rs->Dn n σ (λq=>zP b n ki (σ q)) Rs n h'->Q (.ret (.ref Rs)) {s with heap:=h',toks:=t'}):
  wpAny (model prog w) A (execs ((gR (st 16)).drop 3) env) Q E C':=by
 have IZ:=he
 refine zD (he) λpm cd doc he=>?_
 have hk:=ws.hk
 have Fg:=ws.bsz
 have DX:=ws.ge
 have EU:∀L∈d4 (env::fr),B.get? L=none:=λL hL=>((eD ws.frame L).mp hL).elim (λz=>df (qk Fg DX z)) (ws.offB L)
 have JI:∀{Γ h},Wk K B s fr env Γ [] h->Gl env (ni env Γ h.heap) "len" (.builtin "len"):=λwk=>by subst he;exact wk.gl ws (.inr (co (by kernel_rfl))) rfl rfl rfl rfl
 have Pl:∀{Γ h},Wk K B s fr env Γ [] h->Gl env (ni env Γ h.heap) "groupby" (.ref 124):=λwk=>by subst he;exact wk.gl ws (.inl (co (by kernel_rfl))) rfl rfl rfl rfl
 have LY:∀{Γ h},Wk K B s fr env Γ [] h->Gl env (ni env Γ h.heap) "itemgetter" (.ref 267):=λwk=>by subst he;exact wk.gl ws (.inl (co (by kernel_rfl))) rfl rfl rfl rfl
 have lc:∀y,y∈[("i":Str),"result"]->env.kindOf y=some .local:=by subst he;intro y hy;simp at hy;rcases hy with rfl|rfl<;>rfl
 have G1:∀y,y∈[("i":Str),"_","g","group","size","rank","value","orig_pos","result"]->∀Jg:Ctx,(Jg.all λp=>p.1 != y)=true->Fresh (Jg ++ Γ) y=true:=λy hy Jg h1=>by
  have:=hf y hy
  unfold Fresh at this ⊢
  rw [List.all_append,h1,this];rfl
 refine nJ (d:=.int (((0:Nat):Int)-1)) ws wk (Ev.nint (bH (gV 0 1) ((wk.is ws (js+1) (by simpa using RU)).mono λ_ _ _ h=>⟨k0,FL,h⟩) br)) rfl (G1 "i" (by decide) [_] rfl) (lc _ (by decide)) rfl λDs DL k₂=>?_
 have PS:=Hr.keep λa o nd q=>wk.objK ws q nd k₂
 refine au (bu (fz (Ev.run (G:=ni env ((("i":Str),Dt.int (((0:Nat):Int)-1))::(("val_pos":Str),Dt.is (.ref lv))::Γ) Ds.heap) (mK (ds:=[.int 0]) (bk (Ev.nint br) ec)) DL.fx.fx DL.t λva Eh t3 u3 l3 DJ=>?_)) rfl)
 refine fL (At.lst.mp DJ) λP DB Dz hP GN Dw=>?_;subst Dz
 have DS:=DL.gr ws u3 l3
 have PR:=PS.keep λa o _ q=>u3.up a o q
 have hits:∃v0,DB=#[v0]:=by
  have:DB.toList.length=1:=by have:=AtAll.length Dw;simpa using this
  obtain⟨v0,KH⟩:=List.length_eq_one_iff.mp this
  exact⟨v0,eR.mp KH⟩
 obtain⟨v0,rfl⟩:=hits
 refine aK (cC (JI DS) DS.fx.fx ?_)
 rw [show starEach _ _=[(false,eval _ _)] from rfl]
 refine bV rfl (aE (ar (Ev.run (an (cu 1 rfl hk)) DS.fx.fx DS.t λva h4 t4 u4 l4 p4=>aA ?_)))
 replace p4:=At_is p4
 subst p4
 dsimp only at u4 l4
 have DR:=DS.gr ws u4 l4
 have HI:=PR.keep λa o _ q=>u4.up a o q
 refine iQ (s:={Ds with heap:=h4,toks:=t4}) HI.lst (by rw [Hr.sz];exact cV 0x40319148000000000000000819715 n rfl Ex) ?_
 refine Bd (s:={Ds with heap:=h4,toks:=t4+1+1}) (cU GN λo=>u4.up _ o) (cV 0x97800000000000000081811 items.size rfl) (by rw [Hr.sz];exact cV 0x40319148000000000000000819715 n rfl Ex) (by rw [Hr.sz];simp;exact cV 0x806322900000051910 n rfl Ex) ?_
 rw [Hr.sz]
 generalize Ve:List.foldl (λx1 x2=>x1 ++ x2) #[] (eN (if (#[v0]:Array Value).isEmpty=true then 0 else(n:Int).toNat) #[v0])=res
 have Qk:res.size=n:=by
  rw [<-Ve]
  have:(if (#[v0]:Array Value).isEmpty=true then 0 else(n:Int).toNat)=n:=by simp
  rw [this,uC];simp
 have g5:Gr h4 (h4.push {cls:=.type "list",data:=.seq res}):=Gr.push _ _
 have DT:=DR.gr (t':=t4+1+1) ws g5 (by show t4<=_;exact wv)
 have hRl:(h4.push {cls:=.type "list",data:=.seq res}).IsList h4.objs.size res:=⟨_,am _ rfl,rfl,_,rfl⟩
 generalize H9:h4.objs.size=Rs at hRl
 have PQ:=HI.keep λa o _ q=>g5.up a o q
 refine DT.store (d:=.is (.ref Rs)) ws At_rfl rfl (G1 "result" (by decide) [_,_] rfl) (lc _ (by decide)) λDI D5 k6 _=>?_
 have Me:=PQ.keep λa o nd q=>DT.objK ws q nd k6
 have O6:=DT.listK ws hRl k6
 have sRs:s.heap.objs.size<=Rs:=by rw [<-H9];exact DR.sl.sz
 have IT:=D5.bt.kr.up D5.bt.up
 refine au (wpAny_For (fN (cC (Pl D5) D5.fx.fx (callWith_KW IT.X (IT.sk.kp 124 (by decide +kernel)) rfl ?_))))
 refine ar (Ev.run (an (cu 2 rfl hk)) D5.fx.fx D5.t λva h7 t7 u7 l7 p7=>aA ?_)
 replace p7:=At_is p7
 subst p7
 have D8:=D5.gr ws u7 l7
 have Ky:=D8.bt.kr.up D8.bt.up
 refine kws_cons (aK (cC (LY D8) D8.fx.fx (callWith_K (e:=.Constant _ _ _) Ky.X (Ky.sk.kp 267 (by decide +kernel)) ?_ rfl rfl)))
 refine ar (Ev.run (G:=ni env ((("result":Str),Dt.is (.ref Rs))::(("i":Str),Dt.int (((0:Nat):Int)-1))::(("val_pos":Str),Dt.is (.ref lv))::Γ) h7) br D8.fx.fx D8.t λva h8 t8 u8 G9 p8=>aA ?_)
 refine ci (p8) λkz UN Dz=>?_;subst Dz
 dsimp only at u8 G9
 have EP:=D8.gr ws u8 G9
 have Of:=EP.bt.kr.up EP.bt.up
 refine⟨Of.X,cw (mV (C:=267) (fI:=242) Of.sk Of.X (by decide +kernel) (by decide +kernel) (EP.stkE ws) λIG h9 u9 Gh Us M4=>?_)⟩
 dsimp only at u9 Gh
 have FH:=EP.gr ws u9 (ag _)
 have lIG:@cA Nat _ h8.objs.size IG:=Gh
 have s8:s.heap.objs.size<=h8.objs.size:=EP.sl.sz
 refine tT (k:=kz) (Room.made (r.le (by decide))) FH.bt FH.t ws.frames (FH.stkE ws) EU M4 (dh 0x9c10cb10a914ab10 h8.objs.size IG B.objs.size s.heap.objs.size rfl Gh Fg s8) λhA tA T0 Jo O0 Kh N0 lA=>?_
 refine⟨rfl,?_⟩
 dsimp only at N0 lA Kh ⊢
 have n1:∀{h:Heap} {x C:Nat} {vs:Array (Option Value)},SlotF (env::fr) h x C vs->∀(L:Nat) m,L∈[x]->¬h.Ns L m:=fun{h x C vs} sx L m hL n=>by
  rw [ak.mp hL] at n
  refine oi (n) λo es ep q d _=>?_
  rw [sx.2.2.1] at q;cases q;cases d
 have FY:=FH.call2 ws N0 lA (λb hb=>.inr (by rw [ak.mp hb];exact oq Gh s8)) (λb hb=>by rw [ak.mp hb];exact dh 0x9c10cb10a914ab10 h8.objs.size IG B.objs.size s.heap.objs.size rfl Gh Fg s8) (n1 M4)
 refine kws_nil ?_
 have Oe:=FY.bt.kr.up FY.bt.up
 refine⟨Oe.X,?_⟩
 refine cw (mV (C:=124) (fI:=99) Oe.sk Oe.X (by decide +kernel) (by decide +kernel) (FY.stkE ws) λG hB uB E9 OB M3=>?_)
 dsimp only at uB E9
 have Fv:=FY.gr ws uB (ag _)
 have lG:@cA Nat _ hA.objs.size G:=E9
 have sA:s.heap.objs.size<=hA.objs.size:=FY.sl.sz
 have Q0:Up DI.heap h9:=(u7.up.trans u8.up).trans u9.up
 have Jh:DI.heap.objs.size<=h8.objs.size:=ab u7.sz u8.sz
 have Nc:∀(a:Nat) o,(∀es ep,o.data≠.dict es ep)->DI.heap.get? a=some o->hA.get? a=some o:=λa o nd q=>N0.kept a o (λz=>by
  have h1:@cA Nat _ a DI.heap.objs.size:=iF q
  have h3:@Eq Nat a IG:=ak.mp z
  exact dh 0xbc149b10a914ac1e h8.objs.size IG DI.heap.objs.size a rfl Gh Jh h1 h3) (dC (FH.stkE ws) (Q0 _ _ q) nd) (Q0 _ _ q)
 have srtB:=(Me.keep Nc).keep λa o _ q=>uB.up a o q
 have hRB:hB.IsList Rs res:=by
  obtain⟨o,e,c,m,d⟩:=O6
  exact⟨o,uB.up _ _ (Nc _ _ (λ_ _ q=>by rw [d] at q;cases q) e),c,m,d⟩
 refine rZ (IG:=IG) (Room.made (r.le (by decide))) Fv.bt Fv.t ws.frames (Fv.stkE ws) EU M3 srtB.lst (dh 0x9c10cb10a914ab10 hA.objs.size G B.objs.size s.heap.objs.size rfl E9 Fg sA) λhC tC I k1 k2 Ff sxC itC H' M5 lC=>?_
 refine⟨rfl,?_⟩
 dsimp only at M5 lC H' ⊢
 have GS:=Fv.call2 ws M5 lC (λb hb=>.inr (by rw [ak.mp hb];exact oq E9 sA)) (λb hb=>by rw [ak.mp hb];exact dh 0x9c10cb10a914ab10 hA.objs.size G B.objs.size s.heap.objs.size rfl E9 Fg sA) (n1 M3)
 have kBC:∀(a:Nat) o,a≠G->(∀es ep,o.data≠.dict es ep)->hB.get? a=some o->hC.get? a=some o:=λa o na nd q=>M5.kept a o (λz=>na (ak.mp z)) (dC (Fv.stkE ws) q nd) q
 have Oi:∀(a:Nat) o,(∀es ep,o.data≠.dict es ep)->hA.get? a=some o->hC.get? a=some o:=λa o nd q=>kBC a o (λz=>by
  have h1:@cA Nat _ a hA.objs.size:=iF q
  have h3:@Eq Nat a G:=z
  exact bX 0x9b14a914ab1e hA.objs.size G a rfl E9 h1 z) nd (uB.up a o q)
 have srtC:=(Me.keep Nc).keep Oi
 have hRC:hC.IsList Rs res:=by
  obtain⟨o,e,c,m,d⟩:=O6
  exact⟨o,Oi _ _ (λ_ _ q=>by rw [d] at q;cases q) (Nc _ _ (λ_ _ q=>by rw [d] at q;cases q) e),c,m,d⟩
 have hT0C:hC.IsTuple T0 #[.int 0 kz]:=by
  obtain⟨o,e,c,m,d⟩:=O0
  exact⟨o,Oi _ _ (λ_ _ q=>by rw [d] at q;cases q) e,c,m,d⟩
 have FS:@cA Nat _ IG hA.objs.size:=Jo.lt
 have sxIG:SlotF (env::fr) hC IG 267 #[some (.ref T0)]:=Jo.up uB.up |>.sl M5 (Fv.stkE ws) (λz=>by have h3:@Eq Nat IG G:=ak.mp z;exact bX 0x9b14a914ab1e hA.objs.size G IG rfl E9 FS h3) (λz=>by have h3:@Eq Nat (IG-1) G:=ak.mp z;exact dh 0xbc1cba14a9149c12 IG hA.objs.size G (IG-(1:Nat)) rfl FS E9 h3 (cZ IG (1:Nat)))
 have Od:=GS.bt.kr.up GS.bt.up
 refine qA (s:={DI with heap:=hC,toks:=tC}) (f:=106) (fn:=120) Od.sk Od.X sxC.at (by decide +kernel) (by decide +kernel) ?_
 refine oV (s:={DI with heap:=hC,toks:=tC}) (r.le (by decide)) GS.bt (Od.kn.fn 106 (me 9 2) "groupby.__iter__" .none .none (co (by kernel_rfl))) GS.t rfl rfl (λ_ _ _=>rfl) λhD tD uD lD=>?_
 dsimp only at uD lD
 have Jj:=GS.gr ws uD lD
 have krD:=Jj.bt.kr.up Jj.bt.up
 have sxD:=sxC.up uD.up
 refine⟨rfl,sxD.at,krD.X,?_⟩
 have EC:=srtC.keep λa o _ q=>uD.up a o q
 let D:GD:=⟨G,I,IG,T0,lv,n,kz,λq=>T (σ q),λq=>Kx (σ q),λq=>kv (σ q),λq=>ki (σ q),λq=>(σ q:Int),λq=>ct (σ q),items⟩
 have bd:=EC.sig.bd
 have ok:D.Ok B:=by
  refine⟨EC.sz,EC.it,UN,λi hi=>(EC.tup _ (bd i hi)).2.2.1,λi hi=>EC.ksz _ (bd i hi),λi hi=>EC.kat _ (bd i hi),λi j hi hj=>Du _ _ (bd i hi) (bd j hj),λi hi=>Ea _ (bd i hi),λi j hi hj=>EC.tok _ _ (bd i hi) (bd j hj),λi j hi hj e=>?_,by show B.objs.size<=G;exact y_360 E9 FS Gh Fg s8,by show B.objs.size<=I;have h1:@iC Nat _ hB.objs.size I:=H';have h2:=uB.sz;exact y_386 Fg s8 Gh FS E9 H' OB,nb⟩
  have e1:=(EC.tup _ (bd i hi)).2.1
  have e2:=(EC.tup _ (bd j hj)).2.1
  have e':Kx (σ i)=Kx (σ j):=e
  rw [e'] at e1
  have VA:=IsTuple.inj e1 e2
  have a1:=EC.kat _ (bd i hi) hD
  rw [VA] at a1
  exact AtAll.ints_inj a1 (EC.kat _ (bd j hj) hD)
 have Vo:Gbw D (env::fr) (gb (.int 0 k1) .none .none (.bool false) (.bool false) (.bool false) (.ref D.I) (.ref D.IG) (.int 0 k2) .none) (some 0) hD:=by
  refine⟨sxD,sxIG.up uD.up,hT0C.at λo e=>uD.up _ o e,?_,EC.lst,λi hi=>(EC.tup _ (bd i hi)).1,λi hi=>(EC.tup _ (bd i hi)).2.1⟩
  refine kF (itC) λo e c d=>?_
  exact⟨o,uD.up _ o e,c,d⟩
 have hRsA:∀a,GAddr D a->a≠Rs:=by
  have KB:@cA Nat _ Rs DI.heap.objs.size:=iG O6
  have hBI:@iC Nat _ hB.objs.size I:=H'
  have hzB:=uB.sz
  have z9:=u9.sz
  have lT0:@iC Nat _ h9.objs.size T0:=Kh
  rintro a ha rfl
  rcases ha with e|e|e|e|e|e|e|⟨i,hi,e|e⟩
  ·have e:@Eq Nat a G:=e;exact y_725 Gh FS E9 Jh KB ‹_›
  ·have e:@Eq Nat a (G-1):=e;exact y_724 Gh FS E9 Jh KB ‹_›
  ·have e:@Eq Nat a IG:=e;exact dh 0xbc149b10a914ac1e h8.objs.size IG DI.heap.objs.size a rfl Gh Jh KB ‹_›
  ·have e:@Eq Nat a (IG-1):=e;exact y_748 Gh Jh KB ‹_›
  ·have e:@Eq Nat a T0:=e;exact y_750 Gh Jh KB Us Kh ‹_›
  ·have e:@Eq Nat a I:=e;exact y_726 Gh FS E9 Jh KB OB H' ‹_›
  ·have e:@Eq Nat a lv:=e
   have:@cA Nat _ lv h4.objs.size:=iG HI.lst
   exact bX 0xba18a9149b1a D.l h4.objs.size a rfl this H9 ‹_›
  ·have e:@Eq Nat a (T (σ i)):=e
   have:@cA Nat _ (T (σ i)) h4.objs.size:=nN (HI.tup _ (bd i hi)).1
   exact bX 0xba18a9149b1a (D.P i) h4.objs.size a rfl this H9 ‹_›
  ·have e:@Eq Nat a (Kx (σ i)):=e
   have:@cA Nat _ (Kx (σ i)) h4.objs.size:=nN (HI.tup _ (bd i hi)).2.1
   exact bX 0xba18a9149b1a (D.Kx i) h4.objs.size a rfl this H9 ‹_›
 have hIs':s.heap.objs.size<=I:=by
  have hBI:@iC Nat _ hB.objs.size I:=H'
  have hzB:=uB.sz
  exact y_382 s8 Gh FS E9 H' OB
 refine kM (w0 (D:=D) (Rs:=Rs) (n:=n) (b:=b) (ki:=ki) (σ:=σ) (Γb:=("result",.is (.ref Rs))::("val_pos",.is (.ref lv))::Γ) (jr:=0) (R:=λr s'=>r=.ok .next/\Wk K B s fr env (("result",.is (.ref Rs))::("val_pos",.is (.ref lv))::Γ) [] s'/\Dn n σ (λq=>zP b n ki (σ q)) Rs n s'.heap) (r.le (by decide)) ws (Jj.sub λp hp=>?_) IZ rfl (λy hy=>G1 y (by simp at hy ⊢;rcases hy with h|h|h|h|h|h|h|h<;>simp [h]) [_,_] (by simp at hy;rcases hy with rfl|rfl|rfl|rfl|rfl|rfl|rfl|rfl<;>rfl)) ok ⟨_,_,_,_,_,_,_,_,_,_,Vo,.inl ⟨by show 0<n;exact cV 0x92211090114 n rfl Gi,.inl ⟨rfl,rfl,rfl⟩⟩⟩ ⟨res,cU hRC λo=>uD.up _ o,Qk⟩ (by show s.heap.objs.size<=G;exact gk 0xcd10bc149b14a914ad10 hA.objs.size G IG h8.objs.size s.heap.objs.size rfl E9 FS Gh s8) hIs' sRs hRsA rfl Ex (λq _=>rfl) EC.sig rfl Du λs' EA L3=>⟨rfl,EA,L3⟩) λr' s' hr=>?_
 ·simp only [aQ] at hp ⊢
  rcases hp with h|h|h|h
  ·exact .inr (.inl h)
  ·exact .inl h
  ·exact .inr (.inr (.inl h))
  ·exact .inr (.inr (.inr h))
 ·refine a3 (hr) λPu EA L3=>?_;subst Pu
  refine uu (T:=tV (·=.ref Rs)) ws EA (EA.is ws 0 rfl) λv h' t' u' l' hv Fj=>?_
  have FJ:v=.ref Rs:=hv
  subst FJ
  have:=hQ Rs h' t' (by rw [EA.same] at Fj;exact Fj) sRs (L3.at λo=>u'.up _ o)
  rw [EA.same]
  exact this
end
theorem zK{t:Tok}:CmR w A .NotEq (·=.str x t) (λv=>∃u,v=.str x u) false:=by
 rintro s _ _ Q E ht rfl ⟨u,rfl⟩ hQ
 exact PySem.P.ne_str (by rw [bne_self_eq_false];exact hQ)
theorem C3{pos:Pos}:Ev w A env G (.Constant (.str x) k pos) (tV (λv=>∃u,v=.str x u)):=by
 intro s Q E g t hQ
 exact wpAny_Constant_str (hQ _ s.heap _ (Gr.refl _) (aD _) ⟨_,rfl⟩)
theorem sI{a:Nat}:CmR w A .IsNot (·=.ref a) (·=.none) true:=by
 intro s va vb Q E t ha hb hQ
 subst ha hb
 exact wpAny_isNot_other rfl (by intro h;cases h) hQ
noncomputable abbrev uG(l F:Nat)(rev:Option Bool)(k0:Tok):Args:=⟨[.ref l],(("key":Str),aM F)::((rev.toList.map λb=>(("reverse":Str),Value.bool b)) ++ [(("start":Str),.int 0 k0)])⟩
noncomputable abbrev wY(l F:Nat)(b:Bool)(tk k0:Tok):List (Str×Value):=[(("data":Str),aM l),(("key":Str),aM F),(("reverse":Str),Value.bool b),(("ties":Str),.str "average" tk),(("start":Str),.int 0 k0)]
theorem CJ{a:Nat}{m:Str->Option Value}(hn:h.Ns a m):∃o,h.get? a=some o/\∀name v,m name=some v->nsLook name o=pure (some v):=by
 refine Da (hn) λo es ep ho hd hk hm=>?_
 refine⟨o,ho,λname v hv=>?_⟩
 rw [nsLook_eq]
 simp only [nsLookByArray,hd]
 have h1:=hm name
 rw [hv] at h1
 unfold nsFind findBy at h1
 cases hf:es.find? (·.key.isStr name) with
 |some e=>rw [hf] at h1;cases h1;rfl
 |none=>rw [hf] at h1;cases h1
theorem mF{a:Nat}{part:Option Value}{o:Obj}{k:Obj->Sem α}{Q:α->Shared->Prop}(ho:s.heap.get? a=some o)(h:wpAny M A (k o) Q E s):wpAny M A (Sem.load a part k) Q E s:=λΓ p Ud=>by
 exact⟨o,ho,h Γ p Ud⟩
theorem vR{l F:Nat}{rev:Option Bool}{k0 tk:Tok}{pm cd doc:Value}{mq:Str->Option Value}(hn:s.heap.Ns 271 mq)(h1:mq "reverse"=some (.bool false))(h2:mq "ties"=some (.str "average" tk)):
  BindsTo s (pX (st 16) "_rank" .none (.ref 271) pm cd doc) (uG l F rev k0) (wY l F (rev.getD false) tk k0):=by
 intro M A E Q hq
 refine ci (CJ hn) λo ho lk=>?_
 cases rev with
 |none =>
  refine mF (a:=271) (part:=some (.str "reverse" 0)) ho ?_
  refine aa (aa (aa (cD (a:=some (.bool false)) (lk "reverse" _ h1) ?_)))
  refine ai ?_
  refine mF (a:=271) (part:=some (.str "ties" 0)) ho ?_
  refine aa (aa (cD (a:=some (.str "average" tk)) (lk "ties" _ h2) ?_))
  repeat (first|exact hq|refine ai ?_)
 |some b =>
  refine mF (a:=271) (part:=some (.str "ties" 0)) ho ?_
  refine aa (aa (aa (cD (a:=some (.str "average" tk)) (lk "ties" _ h2) ?_)))
  repeat (first|exact hq|refine ai ?_)
theorem Dn.flts{n:Nat}{zf:Nat->Int}(x:Dn n σ (λq=>zf (σ q)) Rs n h)(hl:lo<=Rs)(bd:∀q,q<n->σ q<n)(inj:∀q q',q<n->q'<n->σ q=σ q'->q=q'):At lo h (.ref Rs) (pK ((aG n).map zf)):=by
 refine kF (x) λDB hi hsz Dw=>?_
 refine At.lst.mpr ⟨Rs,DB,rfl,hl,hi,AtAll.of_get (by simp [hsz]) λi v d hv hd=>?_⟩
 rw [b9] at hv
 have Eg:i<n:=by
  have:=(bF.mp hv).1
  exact fq this hsz
 refine ci (uR bd inj Eg) λq hq Dz=>?_;subst Dz
 refine ci (Dw q hq) λv' FJ hp=>?_
 rw [hv] at FJ;cases FJ
 have:d=.flt (zf (σ q)):=by
  simp [Eg] at hd
  exact hd.symm
 rw [this]
 exact At_flt.mpr hp
theorem A3{l n F:Nat}{rev:Option Bool}{k0:Tok}{fresh:Nat->Bool}{rt:Nat->Nat->Tok}{rows:Array Value}(r:Room A 20)(bt:Bt K B s.heap)(t0:0<s.toks)(D0:A.frames=some fr)(stk:StkOk fr s.heap)(offB:∀L∈d4 fr,B.get? L=none)
  (nb:NoneBooked B) (FL:k0≠0) (hl:s.heap.IsList l rows) (hn:rows.size=n) (Gi:2<=n) (Ex:n<64) (key:∀i row,rows[i]?=some row->KeyCall w K B F row (KSpec ki fresh rt i))
  (Du:∀i j,i<n->j<n->(ki i).length=(ki j).length) (Ea:∀i,i<n->0<(ki i).length) (Lz:∀i j q,i<n->j<n->fresh q=false->rt i q=rt j q->(ki i)[q]?=(ki j)[q]?)
  (hQ:∀v h' t',At s.heap.objs.size h' v (pK ((aG n).map (zP (rev.getD false) n ki)))->Sl [] fr s.heap h'->Bt K B h'->StkOk fr h'->s.toks<=t'->R (.ok (.ret v)) {s with heap:=h',toks:=t'}):
  codeAny (model prog w) A (.call (.ref 278) (uG l F rev k0)) R s:=by
 generalize hb:rev.getD false=b at hQ
 have kr:=bt.kr.up bt.up
 refine uh (kr.d271) λmq tk KK d1 d2=>?_
 refine vd (wY l F b tk k0) [] r bt (kr.kn.fn 278 (st 16) "_rank" .none (.ref 271) (co (by kernel_rfl))) t0 D0 stk offB (λpm cd doc=>hb▸vR KK d1 d2)
  ⟨(fQ rfl (fQ rfl (fQ rfl (fQ rfl (fQ rfl lS))))),(fQ rfl (fQ rfl (fQ rfl (fQ rfl (fQ rfl lS)))))⟩ rfl ?_
 rintro env C' ws wk ro IZ up1
 refine yM λE'=>?_
 refine zD (id IZ) λpm cd doc he=>?_
 have hk:=ws.hk
 have DX:=ws.ge
 have NK:∀{Γ h},Wk K B s fr env Γ [] h->Gl env (ni env Γ h.heap) "map" (.type "map"):=λwk=>by subst he;exact wk.gl ws (.inr (co (by kernel_rfl))) rfl rfl rfl rfl
 have ld:env.kindOf "data"=some .local:=by subst he;rfl
 refine ot ws wk (fJ zK (wk.is ws 3 rfl) C3) λDs DL u2=>?_
 refine pQ ws DL (fJ sI (DL.is ws 1 rfl) mI) λs3 DS u3=>?_
 refine au (bu (aK (cC (NK DS) DS.fx.fx ?_)) rfl)
 refine cE rfl (aE (ar (Ev.run (DS.is ws 1 rfl) DS.fx.fx DS.t λva h4 t4 u4 l4 p4=>?_)))
 have Tg:va=.ref F:=p4
 subst Tg
 have DR:=DS.gr ws u4 l4
 refine ar (Ev.run (DR.is ws 0 rfl) DR.fx.fx DR.t λva h5 t5 u5 l5 p5=>aA ?_)
 have Tf:va=.ref l:=p5
 subst Tf
 have DT:=DR.gr ws u5 l5
 have ON:h5.IsList l rows:=hl.at λo q=>u5.up _ _ (u4.up _ _ (u3.up _ _ (u2.up _ _ (up1 _ _ q))))
 refine yx (s:={s3 with heap:=h5,toks:=t5}) ON λM TM LI h6 u6 o1 o2 o3 o4 hM LR Pa=>?_
 have D5:=DT.gr ws u6 (ag _)
 have D8:=D5.sub (Γ':=[(("key":Str),Dt.is (.ref F)),(("reverse":Str),Dt.is (.bool b)),(("ties":Str),Dt.is (.str "average" tk)),(("start":Str),Dt.is (.int 0 k0))]) λp hp=>by
  simp only [aQ,cb,or_false] at hp
  rcases hp with rfl|rfl|rfl|rfl<;>simp [scB]
 refine D8.store (d:=.is (.ref M)) ws At_rfl rfl rfl ld λs8 EP k8 _=>?_
 refine aH ?_
 have s5:s.heap.objs.size<=h5.objs.size:=DT.sl.sz
 have DH:@cA Nat _ l h5.objs.size:=iG ON
 have hLI8:s8.heap.IsListIter LI l 0:=kF Pa λo e c d=>⟨o,D8.objK ws e (λ_ _ q=>by rw [d] at q;cases q) k8,c,d⟩
 have UM:s8.heap.IsList l rows:=D8.listK ws (cU ON λo=>u6.up _ o) k8
 refine tB (M:=M) (LI:=LI) (TM:=TM) (l:=l) (F:=F) (jd:=0) (jv:=2) (b:=b) (ki:=ki) (fresh:=fresh) (rt:=rt) (ro.le (by decide)) ws EP IZ rfl rfl rfl (D8.objK ws hM (λ_ _ q=>by cases q) k8) (D8.objK ws LR (λ_ _ q=>by cases q) k8) hLI8 UM (ad ‹_› ‹_›) o2 o3 (ab ‹_› ‹_›) hn Gi Ex key Du Lz λlv items T Kx kv ct σ F9 FH Hr=>?_
 refine wZ (js:=4) (k0:=k0) (ro.le (by decide)) ws FH IZ rfl FL (λy hy=>by simp at hy;rcases hy with rfl|rfl|rfl|rfl|rfl|rfl|rfl|rfl|rfl<;>rfl) nb Hr Gi Ex Du Ea λRs h' t' M0 sR dn=>?_
 exact hQ _ h' t' (dn.flts sR Hr.sig.bd λq q' h h' e=>aO λDY=>Hr.sig.inj q q' h h' DY e) M0.sl M0.bt M0.stk M0.tk
noncomputable abbrev fO:Scope:={kind:=.function,names:=[(("row":Str),.local)],isGenerator:=false,isCoroutine:=false,more:=[]}
noncomputable def gw(p:Pos):Arguments:={posonlyargs:=[],args:=[{arg:="row",annotation:=none,pos:=p}],vararg:=none,kwonlyargs:=[],kw_defaults:=[],kwarg:=none,defaults:=[]}
noncomputable def LamAt(h:Heap)(F:Nat)(params:Arguments)(body:Expr):Prop:=∃(qual:Str) (pm K8:Value) (c':Addr),h.get? F=some (kla_obj "<lambda>" qual params body fO [] pm c' K8)/\h.CodeRec (.ref c') qual
theorem LamAt.up{F:Nat}{body:Expr}(x:LamAt h F params body)(u:Up h h'):LamAt h' F params body:=e4a2 x λq a b c d e=>⟨q,a,b,c,u _ _ d,e.keeps u⟩
structure LTab(h:Heap)(c P:Addr)(ps:Array Value):Prop where
 hd:CodeHd h c P
 tab:h.get? P=some (tabObj ps)
 ok:TriplesOk ps.toList
theorem nQ{a b:Int}{v:Value}:∀(l:List Value),TriplesOk l->TriplesOk (l ++ [rawInt a,rawInt b,v])
 |[],_=>trivial
 |x::y::z::rest,h=>by
  cases x with
  |int i t=>cases y with
   |int j u=>exact nQ rest h
   |_=>exact h.elim
  |_=>exact h.elim
 |[x],h=>by cases x<;>exact h.elim
 |[x,y],h=>by
  cases x with
  |int i t=>cases y<;>exact h.elim
  |_=>exact h.elim
theorem CM{c:Addr}{body:Expr}{pos:Pos}(hc:env.code=.ref c)(hg:env.globals=3)(lt:LTab s.heap c P ps)(F4:codeAmong pos ps.toList=none)(bm:BmOk s.heap)
  (DM:closureFor fO env=pure []) (GF:defaultsOf params env=([],[]))
  (hQ:∀(F:Nat) (c':Addr) h' t',cY P s.heap h'->s.heap.objs.size<=F->s.heap.objs.size<=h'.objs.size->s.toks<=t'->LTab h' c P (ps ++ #[rawInt pos.line,rawInt pos.col,.ref c'])->LamAt h' F params body->Q (.ref F) {s with heap:=h',toks:=t'}):
  wpAny M A (eval (.Lambda params body fO pos) env) Q E s:=by
 refine e3a7 (bm) λm PD ob hn q1 q2 q3 q4 q5 q6=>?_
 have R0:mainGlobals=3:=rfl
 have hgP:mainGlobals≠P:=λq=>by
  refine oi (hn) λo es ep e hd _=>?_
  have e':=lt.tab
  rw [<-q,R0,e] at e';cases e';cases hd
 have NF:PD≠P:=λq=>by
  rw [q,lt.tab] at q3;cases q3;cases q4
 have hbG:PD≠mainGlobals:=λq=>by
  refine oi (hn) λo es ep e hd _=>?_
  rw [q,R0,e] at q3;cases q3;rw [hd] at q6;cases q6
 refine kla_eval GF (cz (ag s.toks) (kla_makeFunction (c:=c) (P:=P) (ps:=ps) (clos:=[]) (mg:=m) DM hg hn hc lt.hd lt.tab lt.ok F4 hgP ⟨PD,ob,q1,q2,hbG,NF,q3,q4,q5,q6⟩ λc' K8 h' tk hx DX DH Ql Uo DU=>?_))
 refine hQ h'.objs.size c' _ tk (λb o hb e=>af _ (hx b o hb e)) (oq DH DX) (by rw [ao];exact bX 0x13621522911a2b10 c' h'.objs.size s.heap.objs.size rfl DH DX) DU ⟨?_,af _ Uo,?_⟩ ⟨_,_,K8,c',am _ rfl,Ql.keeps λb o e=>af _ e⟩
 ·obtain⟨o,vs,file,tf,flags,tg,IU,text,tt,h1,r⟩:=lt.hd
  have hcP:c≠P:=r.2.2.2.2.2.2.2.2
  exact⟨o,vs,file,tf,flags,tg,IU,text,tt,af _ (hx _ _ hcP h1),r⟩
 ·rw [Array.toList_append]
  exact nQ _ lt.ok
inductive KItem:Expr->Bool×Nat->Prop where
 |pos (p1 p2 p3:Pos) (k:Nat) (j:Nat):KItem (.Subscript (.Name "row" p1) (.Constant (.int j) k p2) p3) (false,j)
 |neg (p1 p2 p3 p4:Pos) (k:Nat) (j:Nat):KItem (.UnaryOp .USub (.Subscript (.Name "row" p1) (.Constant (.int j) k p2) p3) p4) (true,j)
section
variable{r:Nat->Int}{tk:Nat->Tok}{T:Nat}{DB:Array Value}
noncomputable def KVal(r:Nat->Int)(tk:Nat->Tok)(ta tb:Tok)(p:Bool×Nat)(v:Value):Prop:=∃t:Tok,t≠0/\(if p.1 then v=.int (-(r p.2)) t/\ta<=t/\t<tb else v=.int (r p.2) t/\t=tk p.2)
theorem KVal.wide{ta tb La K':Tok}{p:Bool×Nat}{v:Value}(x:KVal r tk ta tb p v)(h1:La<=ta)(h2:tb<=K'):KVal r tk La K' p v:=by
 refine ci (x) λt h0 h=>?_
 refine⟨t,h0,?_⟩
 split at h
 ·rename_i hp;rw [if_pos hp];exact⟨h.1,ab h1 h.2.1,ad h.2.2 h2⟩
 ·rename_i hp;rw [if_neg hp];exact h
noncomputable def RowEnv(env:Env)(T:Nat)(h:Heap):Prop:=env.scope=fO/\∃m,h.Ns env.locals m/\m "row"=some (.ref T)
theorem wX{p3:Pos}(re:RowEnv env T s.heap)(t0:0<s.toks)(ht:s.heap.IsTuple T DB)(hj:DB[j]?=some (.int (r j) (tk j)))(Hy:j<1000)
  (hQ:∀t',s.toks<=t'->Q (.int (r j) (tk j)) {s with toks:=t'}):wpAny (model prog w) A (eval (.Subscript (.Name "row" p1) (.Constant (.int j) k p2) p3) env) Q E s:=by
 obtain⟨GU,m,hn,hm⟩:=re
 have hk:env.scope.kind=.function:=by rw [GU]
 have hl:env.kindOf "row"=some .local:=by unfold Env.kindOf;rw [GU];rfl
 refine Subscript_ (mY hn hm (dl ?_) hk hl)
 have RU:j<DB.size:=(bF.mp hj).1
 have Ip:seqIndex? (j:Int) DB.size=some j:=by
  unfold seqIndex?
  simp
  lia
 exact tail_any (id:="tuple.__getitem__") ht.typeIs slot_tuple_getitem.lookup (jp (x:=.int (r j) (tk j)) ht (cV 0x97800000000000000081811 j rfl) (cV 0x3e8419148000000000000000819715 j rfl Hy) Ip hj (hQ _ (aD _))) rfl
theorem kitem{p:Bool×Nat}(ki:KItem e p)(re:RowEnv env T s.heap)(t0:0<s.toks)(ht:s.heap.IsTuple T DB)(hj:DB[p.2]?=some (.int (r p.2) (tk p.2)))(h0:tk p.2≠0)(Hy:p.2<1000)
  (hQ:∀v t',s.toks<=t'->KVal r tk s.toks t' p v->Q v {s with toks:=t'}):wpAny (model prog w) A (eval e env) Q E s:=by
 cases ki with
 |pos p1 p2 p3 k j=>exact wX re t0 ht hj Hy λt' l=>hQ _ _ l ⟨_,h0,by rw [if_neg (by simp)];exact⟨rfl,rfl⟩⟩
 |neg p1 p2 p3 p4 k j =>
  refine wpAny_UnaryOp (wX re t0 ht hj Hy λt' l=>?_)
  exact PySem.P.neg_int (hQ _ _ (b8 l) ⟨t',aB (ad t0 l),by rw [if_pos rfl];exact⟨rfl,l,bo _⟩⟩)
theorem F2.imp{R S:α->β->Prop}(f:∀a b,R a b->S a b){l:List α}{m:List β}(x:F2 R l m):F2 S l m:=by
 induction x with
 |nil=>exact .nil
 |cons a _ ih=>exact .cons (f _ _ a) ih
theorem CT{pos:Pos}(x:F2 KItem es sp):∀{s:Shared} {Q:List Value->Shared->Prop},RowEnv env T s.heap->0<s.toks->s.heap.IsTuple T DB->(∀p∈sp,DB[p.2]?=some (.int (r p.2) (tk p.2))/\tk p.2≠0/\p.2<1000) ->
  (∀vs t',s.toks<=t'->F2 (λv p=>KVal r tk s.toks t' p v) vs sp->Q vs {s with toks:=t'})->wpAny (model prog w) A (spliced (backTo pos (starEach es env))) Q E s:=by
 induction x with
 |nil=>intro s Q _ _ _ _ hQ;exact aA (hQ [] s.toks (ag _) .nil)
 |cons x xs ih =>
  intro s Q re t0 ht hp hQ
  refine a3 (hp _ aW) λh1 h2 h3=>?_
  refine cP (kitem x re t0 ht h1 h2 h3 λv t' l kv=>?_) (by cases x<;>rfl)
  refine ih (s:={s with toks:=t'}) re (ad t0 l) ht (λp LD=>hp p (az _ LD)) λvs EZ l' Na=>?_
  exact hQ _ EZ (ab l l') (.cons (kv.wide (ag _) l') (Na.imp λ_ _ z=>z.wide l (ag _)))
noncomputable abbrev wf(sp:List (Bool×Nat))(R:Nat->Nat->Int)(i:Nat):List Int:=sp.map λp=>if p.1 then -(R i p.2) else R i p.2
noncomputable abbrev qv(sp:List (Bool×Nat))(q:Nat):Bool:=((sp[q]?).map (·.1)).getD true
noncomputable abbrev y6(sp:List (Bool×Nat))(TK:Nat->Nat->Tok)(i q:Nat):Tok:=((sp[q]?).map λp=>TK i p.2).getD 0
theorem Bh{F T:Nat}{p0 pos:Pos}{kz:Nat}{DB:Array Value}{R:Nat->Nat->Int}(lam:LamAt B F (gw p0) (.Tuple es kz pos))(Jy:F2 KItem es sp)(Ii:sp.length<=100)(ht:B.IsTuple T DB)
  (hp:∀p∈sp,DB[p.2]?=some (.int (R i p.2) (TK i p.2))/\TK i p.2≠0/\p.2<1000):KeyCall w K B F (.ref T) (KSpec (wf sp R) (qv sp) (y6 sp TK) i):=by
 intro A s Q E r bt t0 hQ
 refine e4a2 (lam.up bt.up) λqual pm K8 c' ho Gu=>?_
 have F1:s.heap.IsTuple T DB:=ht.at λo e=>bt.up _ o e
 have nl:s.heap.NoLimit:=(bt.kr.up bt.up).kn.nl
 refine cw (kla_callFunE (by have:=r.depth;exact vE this) ho rfl rfl rfl rfl Gu ?_)
 rw [show bindArgs _ _=pure [(("row":Str),aM T)] from rfl]
 refine ai (cz (ag s.toks) (d5 rfl (fQ (.inl rfl) lS) λenv he C' x DU=>?_))
 refine⟨nl.keeps x.toInCall.keep,kla_codeExpr ?_⟩
 have hsz:s.heap.objs.size<=C'.heap.objs.size:=aJ (bU x.toInCall.fresh (wh x.toInCall.ns))
 have hs:=x.toInCall.same
 have re:RowEnv env T C'.heap:=⟨by rw [he];rfl,_,x.toInCall.ns,by rw [he];rfl⟩
 have Lu:C'.heap.IsTuple T DB:=F1.at λo e=>x.toInCall.keep _ o e
 refine iy (CT (r:=R i) (tk:=TK i) Jy re (ad t0 DU) Lu hp λvs t' l Na=>?_)
 have Du:=F2.len Na
 refine⟨by rw [Du];exact ab Ii (by decide),?_⟩
 have Ei:C'={s with heap:=C'.heap,toks:=C'.toks}:=by obtain⟨h1,tk,rfl⟩:=hs;rfl
 have:=hQ C'.heap.objs.size vs.toArray (C'.heap.push {cls:=.type "tuple",data:=.seq vs.toArray}) t' ⟨λb o e=>af _ (x.toInCall.keep b o e),by rw [ao];exact vD hsz⟩ (ab DU l) ⟨_,am _ rfl,rfl,_,rfl⟩ hsz ⟨by simp [Du],λq v hv=>?_⟩
 ·rw [Ei]
  exact this
 ·have FJ:vs[q]?=some v:=by simpa using hv
  have hq:q<sp.length:=by rw [<-Du];exact(aV.mp FJ).1
  have KI:sp[q]?=some sp[q]:=ae hq
  refine ci (F2.get Na FJ KI) λt h0 h=>?_
  refine⟨if sp[q].1 then -(R i sp[q].2) else R i sp[q].2,t,by simp [wf,KI],?_,h0,?_⟩
  ·split at h
   ·rename_i hb;rw [if_pos hb];exact h.1
   ·rename_i hb;rw [if_neg hb];exact h.1
  ·unfold qv y6
   rw [KI]
   simp only [dv,Option.getD_some]
   split at h
   ·rename_i hb;rw [if_pos hb];exact⟨ab DU h.2.1,h.2.2⟩
   ·rename_i hb;rw [if_neg hb];exact h.2
end
theorem ItT.enum(hh:A.handled=none){pos:Pos}(e it l:Nat)(GZ:e≠it)(E0:l≠e)(Fc:l≠it)(items:Array Value):
  ItT w A (.Tuple elts k pos) e [e,it,l] [e,it] items.size
   (λi ta tb v h=>∃T t x,v=.ref T/\t≠0/\ta<=t/\t<tb/\items[i]?=some x/\h.IsTuple T #[.int i t,x])
   (λi h=>(∃old,IsEnum h e it i old)/\h.IsListIter it l i/\h.IsList l items) where
 sub:=(c9 (prog:=prog) (w:=w) hh e it l GZ E0 Fc items).sub
 frame:=(c9 (prog:=prog) (w:=w) hh e it l GZ E0 Fc items).frame
 item:=λi s Q E hi Ey tk hQ=>by
  have W:=c9 (prog:=prog) (w:=w) hh e it l GZ E0 Fc items
  obtain⟨⟨old,he⟩,hit,hl⟩:=Ey
  have hx:items[i]?=some items[i]:=aY hi
  refine kL he hit hl hx GZ λh' ho EO hT hsz hk=>?_
  have J9:e<s.heap.objs.size:=aX he
  have J7:it<s.heap.objs.size:=by obtain⟨_,x,_⟩:=hit;exact aX x
  have DQ:h'.IsTuple s.heap.objs.size #[.int i s.toks,items[i]]:=⟨_,hT,rfl,_,rfl⟩
  refine hQ (.ref s.heap.objs.size) h' (s.toks+1) (λb o hb x=>hk b o (λe'=>hb (by simp [e'])) (λe'=>hb (by simp [e'])) x) (aD _) ⟨_,_,_,rfl,aB tk,ag _,bo _,hx,DQ⟩ λQ' E' En=>?_
  have mid:(∃x,IsEnumOut h' e it ((i:Int)+1) x s.heap.objs.size)/\h'.IsListIter it l (i+1)/\h'.IsList l items/\s.heap.objs.size≠e/\s.heap.objs.size≠it:=⟨⟨_,ho⟩,EO,hl.at λo x=>hk l o E0 Fc x,aB J9,aB J7⟩
  exact W.go elts k pos i s.heap.objs.size _ _ _ mid λDN HH Fq=>En DN (s.toks+1) Fq (ag _) ⟨_,_,_,rfl,aB tk,ag _,bo _,hx,DQ.at λo x=>Fq _ o (W.apart i _ _ mid) x⟩ HH
 done:=λs Q E st hQ=>cz (ag s.toks) ((c9 hh e it l GZ E0 Fc items).done s _ _ st λh' tk hk DU=>hQ h' tk hk DU)
 self:=(c9 hh e it l GZ E0 Fc items).self
structure RowTok(lo:Nat)(h:Heap)(l:Nat)(rows:List (List Int))(items:Array Value)(T:Nat->Nat)(DB:Nat->Array Value)(TK:Nat->Nat->Tok):Prop where
 lol:lo<=l
 lst:h.IsList l items
 sz:items.size=rows.length
 it:∀i,i<rows.length->items[i]?=some (.ref (T i))/\lo<=T i/\h.IsTuple (T i) (DB i)
 row:∀i r,rows[i]?=some r->(DB i).size=r.length/\∀j a,r[j]?=some a->(DB i)[j]?=some (.int a (TK i j))/\TK i j≠0
 tok:∀i i' j j' r r',rows[i]?=some r->rows[i']?=some r'->j<r.length->j'<r'.length->i≠i'->TK i j≠TK i' j'
theorem RowTok.at{l:Nat}(x:RowTok lo h l rows items T DB TK):At lo h (.ref l) (mO rows):=by
 refine At.lst.mpr ⟨l,items,rfl,x.lol,x.lst,AtAll.of_get (by simp [x.sz]) λi v d hv hd=>?_⟩
 rw [b9] at hv
 rw [ah,aq] at hd
 refine ci (hd) λr hr Dz=>?_;subst Dz
 have hi:i<rows.length:=(aV.mp hr).1
 refine a3 (x.it i hi) λh1 h2 h3=>?_
 rw [h1] at hv;cases hv
 obtain⟨h4,h5⟩:=x.row i r hr
 refine At.tup.mpr ⟨T i,DB i,rfl,h2,h3,AtAll.of_get (by simp [h4]) λj v d hv hd=>?_⟩
 rw [b9] at hv
 rw [ah,aq] at hd
 refine ci (hd) λa ha Dz=>?_;subst Dz
 obtain⟨h6,h7⟩:=h5 j a ha
 rw [h6] at hv;cases hv
 exact At_int.mpr ⟨_,h7,rfl⟩
theorem RowTok.low{l:Nat}(x:RowTok lo h l rows items T DB TK)(hl:Es<=lo):RowTok Es h l rows items T DB TK :=
 {x with lol:=ab hl x.lol,it:=λi hi=>a3 (x.it i hi) λa b c=>⟨a,ab hl b,c⟩}
theorem wW{nums:List Int}{p3 p4 p5 p6 p7 p8 p9 Ti q1 q2 q3 q4 q5 q6 pos:Pos}{k1 k2 k3:Nat}{kt kq}(hh:A.handled=none)(l:Gl env G "enumerate" (.type "enumerate"))(he:Ev w A env G (.Name "numbers" q5) (tO (.lst (nums.map .int))))(hsz:nums.length<=100)
  (Eb:starEach [.Name "numbers" q5] env=[(false,eval (.Name "numbers" q5) env)]) (DM:closureFor scope env=pure []) (DK:scope.kind=.function) (DP:∀y∈scope.names,y.2=.local->scope.names.lookup y.1=some .local)
  (I0:∀C,(gz scope [] C env).kindOf "x"=some .local) (El:∀C,(gz scope [] C env).kindOf "k"=some .local) (KS:∀C,(gz scope [] C env).scope.kind=.function)
  (Ey:∀(e:Expr) C,e∈[Expr.BinOp (.Name "x" p1) .Mod (.Constant (.int 12) k1 p2) p3,.BinOp (.BinOp (.Name "x" p4) .FloorDiv (.Constant (.int 12) k2 p5) p6) .Mod (.Constant (.int 12) k3 p7) p8,.Name "k" p9]->∀es,starEach (e::es) (gz scope [] C env)=(false,eval e (gz scope [] C env))::starEach es (gz scope [] C env))
  (IX:∀x,foldedSetIterable (.Call (.Name "enumerate" q4) [.Name "numbers" q5] [] q6) env x=pure x)
  (g:G.p s.heap) (t:0<s.toks)
  (hQ:∀ll items T DB TK h' t',Gr s.heap h'->s.toks<=t'->RowTok s.heap.objs.size h' ll (nums.mapIdx λk x=>[x.fmod 12,(x.fdiv 12).fmod 12,(k:Int)]) items T DB TK->Q (.ref ll) {s with heap:=h',toks:=t'}):
  wpAny (model prog w) A (eval (.ListComp (.Tuple [.BinOp (.Name "x" p1) .Mod (.Constant (.int 12) k1 p2) p3,.BinOp (.BinOp (.Name "x" p4) .FloorDiv (.Constant (.int 12) k2 p5) p6) .Mod (.Constant (.int 12) k3 p7) p8,.Name "k" p9] kt Ti)
   [⟨.Tuple [.Name "k" q1,.Name "x" q2] kq q3,.Call (.Name "enumerate" q4) [.Name "numbers" q5] [] q6,[],0⟩] scope pos) env) Q E s:=by
 refine eA (use:=none) rfl IX DM DK DP ?_
 refine aK (cC l g ?_)
 refine cE rfl (aE (ar (he s _ _ g t λnv Dy HF u1 l1 Dv=>aA ?_)))
 refine fL (At.lst.mp Dv) λa1 Ed Dz _ FB E7=>?_;subst Dz
 have n1:=E7.length
 rw [aU,bR] at n1
 have s1:@cA Nat _ a1 Dy.objs.size:=iG FB
 refine callType_new jR (by decide) (iK _) (iW _) (λobj=>jn obj _) iX (pY a1 Ed) ⟨FB,?_⟩
 show _/\_
 have hz:(Dy.push {cls:=.type "list_iterator",data:=.fields #[.ref a1,.int 0 0]}).objs.size=Dy.objs.size+1:=ao ..
 rw [hz]
 generalize Hm:(Dy.push {cls:=.type "list_iterator",data:=.fields #[.ref a1,.int 0 0]}).push {cls:=.type "enumerate",data:=.fields #[.none,.bool false,.ref Dy.objs.size,rawInt 0,.none,.none]}=h2
 have HA:IsEnum h2 (Dy.objs.size+1) Dy.objs.size 0 .none:=by
  have:=am (Dy.push {cls:=.type "list_iterator",data:=.fields #[.ref a1,.int 0 0]}) (o:={cls:=.type "enumerate",data:=.fields #[.none,.bool false,.ref Dy.objs.size,rawInt 0,.none,.none]}) rfl
  rw [hz,Hm] at this;exact this
 have LX:Gr Dy h2:=by rw [<-Hm];exact(Gr.push _ _).trans (Gr.push _ _)
 have z2:h2.objs.size=Dy.objs.size+2:=by rw [<-Hm,ao,hz]
 have Om:h2.IsListIter Dy.objs.size a1 0:=by rw [<-Hm];exact⟨_,af _ (am _ rfl),rfl,rfl⟩
 refine⟨⟨_,HA,rfl⟩,?_⟩
 refine wpAny_pyIter_enum HA ?_
 have W:=ItT.enum (w:=w) (A:=A) hh (elts:=[.Name "k" q1,.Name "x" q2]) (k:=kq) (pos:=q3) (Dy.objs.size+1) Dy.objs.size a1 (cV 319918618 Dy.objs.size rfl) (b6 23238207482142 a1 Dy.objs.size rfl s1) (sZ s1) Ed
 rw [n1] at W
 have z1:=u1.sz
 refine su W (cV 0xc86322100000051910 nums.length rfl hsz) ⟨⟨_,HA⟩,Om,cU FB λo=>LX.up _ o⟩ (λb hb=>by simp at hb;show @cA Nat _ b h2.objs.size;rcases hb with rfl|rfl|rfl<;>lia) (ad t l1)
  (λlo h i ta tb y=>∀x,nums[i]?=some x->∃T t0 t1 t2,y=.ref T/\lo<=T/\h.IsTuple T #[.int (x.fmod 12) t0,.int ((x.fdiv 12).fmod 12) t1,.int i t2]/\(t0≠0/\ta<=t0/\t0<tb)/\(t1≠0/\ta<=t1/\t1<tb)/\(t2≠0/\ta<=t2/\t2<tb))
  (λlo h h' i ta tb y F u x hx=>?_) (λlo Es h i ta tb y hl F x hx=>?_) (λC i ta v s3 E' Q' hC cf hP hi Uq J0 Qb t3 g3 d3 o3 En=>?_) λD C h' tk ys hD Ia hC hn hl H5 hF hk DU=>?_
 ·refine e4a4 (F x hx) λT t0 t1 t2 e1 e2 e3 r=>?_
  exact⟨T,t0,t1,t2,e1,e2,gq e3 λo=>u _ o e2,r⟩
 ·refine zC (F x hx) λT t0 t1 t2 e1 e2 r=>?_
  exact⟨T,t0,t1,t2,e1,ab hl e2,r⟩
 ·refine e3a6 (hP) λT tk xv FP DU KP Ff Ui DQ=>?_;subst FP
  obtain⟨x,hx⟩:∃x,nums[i]?=some x:=⟨_,ae hi⟩
  have DJ:At 0 Dy xv (.int x):=E7.get (i:=i) (by simpa using Ui) (by rw [ah,hx];rfl)
  refine ci (At_int.mp DJ) λtx RK Dz=>?_;subst Dz
  have Q5:0<s3.toks:=ad Uq J0
  have hu:Up Dy s3.heap:=λb o e=>Qb b o (λz=>by
   have:=iF e
   simp at z
   rcases z with z|z
   ·have z':@Eq Nat b (Dy.objs.size+1):=z;exact b6 23238207482142 b Dy.objs.size rfl this z
   ·have z':@Eq Nat b Dy.objs.size:=z;exact b6 2836703518 b Dy.objs.size rfl this z) (LX.up b o e)
  refine rc (w:=w) (C:=C) (k:=nC scope.names) (P:=λv h=>v=.ref T/\h.IsTuple T #[.int i tk,.int x tx]) (d:=.is (.int i tk)) (e:=.int x) hh (hc:=Dy) (bX 0x221b291ca910ab10 h2.objs.size C Dy.objs.size rfl hC z2) (λv h hv=>⟨T,_,_,hv.1,hv.2,by simp only [q7,rb,q8,q9,qX,qZ,qW,qY],At_int.mpr ⟨tx,RK,rfl⟩⟩) rfl (KS C) (El C) (I0 C) (by decide) (.ref T) s3 _ _ hu cf Q5 ⟨rfl,DQ⟩ λG' h4 t4 good g4 Kt I9 IO l4=>?_
  have SV:0<t4:=ad Q5 l4
  refine iy (cP (fz (Ev.run (an good.2) g4 SV λva h5 t5 u5 l5 PV=>?_)) (Ey _ C (by simp) _))
  refine ci (At_int.mp PV) λta5 _ Dz=>?_;subst Dz
  refine dl (ke (by decide) ?_)
  have g5:G'.p h5:=G'.up u5.up g4
  refine cP (fz (fz (Ev.run (s:={s3 with heap:=h5,toks:=t5+1+1}) (an good.2) g5 (dU _) λva h6 t6 u6 l6 JR=>?_))) (Ey _ C (by simp) _)
  refine ci (At_int.mp JR) λta6 _ Dz=>?_;subst Dz
  refine dl (lb (by decide) (by simp [gJ]) ?_)
  refine dl (ke (by decide) ?_)
  have g6:G'.p h6:=G'.up u6.up g5
  refine cP (Ev.run (s:={s3 with heap:=h6,toks:=t6+1+1+1+1}) (an good.1) g6 (dU _) λva h7 t7 u7 l7 GA=>aA ?_) (Ey _ C (by simp) _)
  replace GA:=At_is GA
  subst GA
  have Ii:sizeLine=16777216:=by decide
  refine⟨by show 3<=sizeLine;lia,?_⟩
  have z5:=u5.sz
  have z6:=u6.sz
  have z7:=u7.sz
  refine En _ h4 t4 _ _ I9 IO l4 ((u5.up.trans u6.up).trans (u7.up.trans (Up.push _ _))) (ab l5 (ab (cI t5 2) (ab l6 (ab (cI t6 4) l7)))) λx' Hi=>?_
  rw [hx] at Hi;cases Hi
  refine⟨h7.objs.size,_,_,tk,rfl,dh 0xcb10ba10a910c910 h4.objs.size h5.objs.size h6.objs.size h7.objs.size rfl z5 z6 z7,⟨_,am _ rfl,rfl,_,rfl⟩,⟨?_,?_,?_⟩,⟨?_,?_,?_⟩,DU,KP,?_⟩
  ·exact ic _
  ·exact b8 (ab J0 (ab l4 l5))
  ·exact ad (bo _) (ab l6 (ab (cI t6 4) l7))
  ·exact ic _
  ·exact ab (ab J0 (ab l4 l5)) (ab (cI t5 2) (ab l6 (cI t6 3)))
  ·exact l7
  ·exact ad Ff (ab l4 (ab l5 (ab (cI t5 2) (ab l6 (ab (cI t6 4) l7)))))
 ·dsimp only at hD hC hk DU
  refine ci (hF) λf fm hF=>?_
  obtain⟨m,hm⟩:=hn
  refine⟨m,hm,λDN HN=>?_⟩
  have kC:∀(b:Nat) o,¬@Eq Nat b C->h'.get? b=some o->DN.get? b=some o:=λb o hb e=>HN.extBut b o hb e
  have ex:∀i:Nat,∃r:Nat×(Nat->Tok),∀x:Int,nums[i]?=some x->ys[i]?=some (.ref r.1)/\h2.objs.size<=r.1/\DN.IsTuple r.1 #[.int (x.fmod 12) (r.2 0),.int ((x.fdiv 12).fmod 12) (r.2 1),.int i (r.2 2)]/\∀j,j<3->r.2 j≠0/\f i<=r.2 j/\r.2 j<f (i+1):=λi=>by
   by_cases hi:i<nums.length
   ·obtain⟨x,hx⟩:∃x,nums[i]?=some x:=⟨_,ae hi⟩
    have hy:ys[i]?=some ys[i]:=aY (fv hi H5)
    refine uh (hF i _ hy) λta tb a1 a2 a3=>?_
    obtain⟨T,t0,t1,t2,e1,e2,e3,⟨b0,b1,b2⟩,⟨c0,c1,c2⟩,⟨d0,d1,d2⟩⟩:=a3 DN (λb o hb e=>kC b o (aB ‹_›) e) x hx
    refine⟨(T,λj=>if j=0 then t0 else if j=1 then t1 else t2),λx' Hi=>?_⟩
    rw [hx] at Hi;cases Hi
    exact⟨hy.trans (by rw [e1]),e2,e3,lt3 ⟨b0,ab a1 b1,ad b2 a2⟩ ⟨c0,ab a1 c1,ad c2 a2⟩ ⟨d0,ab a1 d1,ad d2 a2⟩⟩
   ·exact⟨(0,λ_=>0),λx hx=>by rw [cS (nj hi)] at hx;cases hx⟩
  obtain⟨gf,NC⟩:=Classical.skolem.mp ex
  have Se:∀i j,i<=j->f i<=f j:=λi j DV=>by
   induction DV with
   |refl=>exact ag _
   |step _ ih=>exact ab ih (fm _)
  have Kl:∀(i:Nat) r,(nums.mapIdx λk x=>[x.fmod 12,(x.fdiv 12).fmod 12,(k:Int)])[i]?=some r->∃x,nums[i]?=some x/\r=[x.fmod 12,(x.fdiv 12).fmod 12,(i:Int)]:=λi r hr=>by
   rw [List.getElem?_mapIdx,aq] at hr
   refine ci (hr) λx hx Dz=>?_;subst Dz
   exact⟨x,hx,rfl⟩
  have GN:DN.IsList D ys:=cU hl.isList λo=>kC D o Ia
  have zz:s.heap.objs.size<=h2.objs.size:=bX 0x221a2b1ca910b910 s.heap.objs.size Dy.objs.size h2.objs.size rfl z1 z2
  have Pe:@cA Nat _ D DN.objs.size:=iG GN
  refine hQ D ys (λi=>(gf i).1) (λi=>match nums[i]? with|some x=>#[.int (x.fmod 12) ((gf i).2 0),.int ((x.fdiv 12).fmod 12) ((gf i).2 1),.int i ((gf i).2 2)]|none=>#[]) (λi=>(gf i).2) DN tk ⟨λb o e=>?_,?_⟩ (ab l1 DU) ⟨dh 0x221a2b1ccb10a910c910 s.heap.objs.size Dy.objs.size h2.objs.size D rfl z1 hD z2,GN,by rw [H5];simp,λi hi=>?_,λi r hr=>?_,λi i' j j' r r' hr Nl hj GX UZ=>?_⟩
  ·have e1:=u1.up b o e
   have hb:=iF e1
   refine kC b o (dh 0x221a2b1ccb10a914c91e b Dy.objs.size h2.objs.size C rfl hb hC z2) (hk b o (λz=>?_) (LX.up b o e1))
   simp at z
   rcases z with z|z
   ·have z':@Eq Nat b (Dy.objs.size+1):=z;exact b6 23238207482142 b Dy.objs.size rfl hb z
   ·have z':@Eq Nat b Dy.objs.size:=z;exact b6 2836703518 b Dy.objs.size rfl hb z
  ·exact gk 0x221c2d1c9d10cb10a914ab10 D DN.objs.size s.heap.objs.size Dy.objs.size h2.objs.size rfl Pe z1 hD z2
  ·simp at hi
   obtain⟨x,hx⟩:∃x,nums[i]?=some x:=⟨_,ae hi⟩
   refine a4 (NC i x hx) λe1 e2 e3 _=>?_
   refine⟨e1,ab zz e2,?_⟩
   simp only [hx]
   exact e3
  ·refine ci (Kl i r hr) λx hx Dz=>?_;subst Dz
   refine a4 (NC i x hx) λe1 e2 e3 e4=>?_
   simp only [hx]
   refine⟨rfl,λj a ha=>?_⟩
   match j,ha with
   |0,ha=>cases ha;exact⟨rfl,(e4 0 (by decide)).1⟩
   |1,ha=>cases ha;exact⟨rfl,(e4 1 (by decide)).1⟩
   |2,ha=>cases ha;exact⟨rfl,(e4 2 (by decide)).1⟩
   |j+3,ha=>simp at ha
  ·refine ci (Kl i r hr) λx hx Dz=>?_;subst Dz
   refine ci (Kl i' r' Nl) λx' Hi Dz=>?_;subst Dz
   have a:=(NC i x hx).2.2.2 j hj
   have a':=(NC i' x' Hi).2.2.2 j' GX
   intro e
   rcases jI i i' with h|h|h
   ·have:=Se (i+1) i' h
    have h1:(gf i).2 j<(gf i').2 j':=ad a.2.2 (ab this a'.2.1)
    rw [e] at h1;exact jT _ h1
   ·exact UZ h
   ·have:=Se (i'+1) i h
    have h1:(gf i').2 j'<(gf i).2 j:=ad a'.2.2 (ab this a.2.1)
    rw [e] at h1;exact jT _ h1
theorem y9{v:Value}(r:Room A 3)(kn:Kn s.heap)(t:0<s.toks)
  (hv:At 0 s.heap v (dInts B')) (hsz:B'.length<=1000000)
  (hQ:∀ll items T DB TK h' t',Gr s.heap h'->s.toks<=t'->RowTok s.heap.objs.size h' ll (aS B') items T DB TK->Q (.ref ll) {s with heap:=h',toks:=t'}):
  wpAny (model prog w) A (call (.ref 318) [v]) Q E s:=by
 refine jO (n:=2) r (kn.fn 318 (st 21) "_law_rows" .none .none (co (by kernel_rfl))) kn.nl (binds:=[("script",v)]) (λ_ _ _=>rfl)
  (fQ (.inl rfl) lS) (by decide) λpm cd doc C' env he gr tk Ei ro fm top E=>?_
 have Hb:sizeLine=16777216:=by decide
 have fx:Fx s env (s.heap.objs.size+1+nC (aZ (st 21)).names) [] [("script",.is v)] C':=by
  subst he
  exact il Ei t tk top fm (sO v rfl rfl (.inl At_rfl) mr)
 have D4:=fm.own
 generalize DZ:s.heap.objs.size+1+nC (aZ (st 21)).names=lo at fx top D4
 generalize hL:s.heap.objs.size=L at *
 have hloL:L+1<=lo:=b6 0xa019218a910 (L+(1:Nat)) lo rfl DZ
 have hk:env.scope.kind=.function:=by subst he;rfl
 have Vv:=fx.add (d:=dInts B') 0 rfl (.inr hv)
 have glE:∀{ex Γ lo},Gl env (hO s.heap env lo ex Γ) "enumerate" (.type "enumerate"):=by intro ex Γ lo;subst he;exact glF kn (.inr (co (by kernel_rfl)))
 have lc:∀x,x=("k":Str)\/x=("x":Str)\/x=("numbers":Str)->env.kindOf x=some .local:=by subst he;rintro x (rfl|rfl|rfl)<;>rfl
 have Hc:∀(l:List Int),∀d∈l.map Dt.int,Scal d=true:=by intro l d hd;obtain⟨i,_,rfl⟩:=bK.mp hd;rfl
 have hscI':∀(l:List Int),∀d∈l.map Dt.int,∃i,d=.int i\/d=.flt i:=by intro l d hd;obtain⟨i,_,rfl⟩:=bK.mp hd;exact⟨i,.inl rfl⟩
 refine zZ (ds:=(gu B').map .int) [("script",.is v)] Vv (λp hp=>az _ hp) (λi x d h=>by cases i with|zero=>cases h;rfl|succ i=>cases h) ?_ (hscI' _) rfl hk (lc _ (.inr (.inr rfl))) (by rfl) λa Ds haL QC ES=>?_
 ·rw [gu,fU]
  refine ud (ds:=[.int 37,.int 28,.int 14,.int 37,.int 50,.int 28]) ?_ ?_ ?_ ?_
  ·exact Ev.old (mK (bk (Ev.nint br) (bk (Ev.nint br) (bk (Ev.nint br) (bk (Ev.nint br) (bk (Ev.nint br) (bk (Ev.nint br) ec)))))))
  ·refine Ev.old ?_
   refine d8 (Lk:=True) (((B'.take 6).map λx=>x.fmod 144).map .int) [] (λhc i v _=>∃d,((B'.take 6).map Dt.int)[i]?=some d/\At 0 hc v d) ?_ ?_ ?_ ?_ ?_ ?_ ?_
   ·simp;exact cV 0xc4322100000051910 (min (6:Nat) B'.length) rfl (dN (6:Nat) B'.length)
   ·rw [show (((B'.take 6).map λx=>x.fmod 144).map Dt.int).length=((B'.take 6).map Dt.int).length by simp]
    refine dD ro.hand (Ev.old ?_)
    rw [jU]
    exact xM (an (cu 0 rfl hk)) br (Hc _) (by simp;exact ww hsz) (by intro _ _;rfl)
   ·intro C hc i r hr gp hC
    simp only [aP,ah,aq,bM] at hr
    obtain⟨x,hx,rfl⟩:=hr
    refine⟨_,di (d:=.int x) hC (λv h z9=>ci z9 λd D1 DJ=>?_) rfl rfl rfl,λG' good up=>?_⟩
    ·rw [ah,hx] at D1;cases D1;exact DJ
    ·exact Ev.nint (bH (oG _ _ (by decide)) (Ev.int (an good)) br)
   ·rfl
   ·rfl
   ·decide
   ·intro _;rfl
  ·exact Hc ([37,28,14,37,50,28] ++ (B'.take 6).map λx=>x.fmod 144)
  ·simp;exact cV 0xc43221000000519621210 (min (6:Nat) B'.length) rfl (dN (6:Nat) B'.length)
 have Fi:=ES.add (d:=dInts B') 1 rfl (.inr hv)
 generalize J4:(B'.drop 6).take 54=mid
 have Sy:mid.length<=54:=by rw [<-J4];simp;exact wx
 refine pU (Lk:=False) (n:=(mid.map Dt.int).length) (P:=λ_ i v h=>∃T t a x,v=.ref T/\t≠0/\(mid.map Dt.int)[i]?=some a/\At 0 h x a/\h.IsTuple T #[.int i t,x]) [("numbers",.is (.ref a))] (λ_=>[]) (λk=>[(a,(ik (gu B') mid k).map .int)]) (λ_=>True) trivial Fi ?_ (λh=>h.elim)
  (λp hp=>nomatch hp) (λp hp=>by simp at hp ⊢;rcases hp with rfl;simp) (λi j x d h=>by simp at h) (λ_=>rfl) ?_ ?_ (by intro _;rfl)
 ·refine y5 (xs:=mid.map .int) ro.hand glE ?_ (Hc _) rfl
  rw [<-J4,jU,List.map_drop]
  exact C5 (j:=6) (k:=60) (an (cu 0 rfl hk)) br br (by decide) (Hc _) (by simp;exact ww hsz) (by intro _ _;rfl)
 ·intro val k vk hb s3 E' Ny _ LZ ⟨T,t',a',x,hvT,F1,Hi,LO,DQ⟩ _ _ _ _
  subst hvT
  rw [ah,aq] at Hi
  obtain⟨xi,Nf,rfl⟩:=Hi
  refine Fx.pair (d:=.int k) (e:=.int xi) ro.hand LZ DQ (.inl (At_int.mpr ⟨_,F1,rfl⟩)) (.inl (Scal.move rfl LO)) rfl rfl hk (lc _ (.inl rfl)) (lc _ (.inr (.inl rfl))) (by decide) λh4 t4 Ic l4 Og=>?_
  generalize HR:ik (gu B') mid k=Gm at *
  have MO:6<=Gm.length:=by rw [<-HR,iw];simp [gu]
  have HP:(k:Int).fmod 6=((k%6:Nat):Int):=by rw [d7 _ (by decide)];rfl
  have OA:((k:Int).fmod 6).toNat=k%6:=by rw [HP];exact er _
  have hk6:k%6<6:=kR _ (by decide)
  refine rD (a:=a) (ds:=Gm.map .int) (k:=(k:Int).fmod 6) (c:=xi.fmod 144) (old:=Gm.getD (k%6) 0) Ic 2 rfl ?_ ?_ ?_ ?_ ?_ hk rfl (by intros;rfl) λs5 IB k5=>?_
  ·exact bH (oG _ _ (by decide)) (Ev.int (an (cu 1 rfl hk))) br
  ·exact bH (oG _ _ (by decide)) (Ev.int (an (cu 0 rfl hk))) br
  ·rw [HP];exact nq
  ·rw [HP];exact cV 0x6219148000000000000000819715 (k%(6:Nat)) rfl (modC 6 (by decide) k).1
  ·rw [OA]
   have:k%6<Gm.length:=b6 0x621a149621109a14 Gm.length (k%(6:Nat)) rfl MO (modC 6 (by decide) k).1
   simp [aw,this]
  ·refine aH ⟨trivial,?_,?_⟩
   ·have hb:(Gm.map Dt.int).set ((k:Int).fmod 6).toNat (.int (Gm.getD (k%6) 0+xi.fmod 144))=(wd Gm k xi).map .int:=by rw [OA];simp [wd,List.map_set]
    rw [hb] at IB
    show Fx s env (a+1) [(a,(wd (ik (gu B') mid k) k (mid.getD k 0)).map .int)] _ s5
    have:mid.getD k 0=xi:=by rw [aw,Nf];rfl
    rw [HR,this]
    exact IB.pick [3]
   ·intro b o hb e
    exact k5 b o (λq=>hb (.inr ⟨_,by rw [q];exact ak.mpr rfl⟩)) (Og b o (λq=>hb (.inl q)) e)
 ·intro F9 _ _ Fu
  have K6:=Fu.freeze 0 rfl QC (bX 0x136314031192218ab10 L lo s.heap.objs.size rfl DZ hL) D4 top
  generalize Hd:ik (gu B') mid (mid.map Dt.int).length=nums at K6
  have UE:nums.length<=12:=by rw [<-Hd,iw];simp [gu];exact wx
  have MJ:aS B'=nums.mapIdx λk x=>[x.fmod 12,(x.fdiv 12).fmod 12,(k:Int)]:=by
   unfold aS;rw [J4,<-Hd,bR]
  refine au (cL (wW (G:=hO s.heap env lo [] (("numbers",.lst (nums.map .int))::[("numbers",.is (.ref a))])) ro.hand glE (an (cu 0 rfl hk)) (sY UE) rfl ?_ ?_ ?_ ?_ ?_ ?_ ?_ ?_ K6.fx K6.t λll items T DB TK h' t' g' l' rt=>?_))
  ·rfl
  ·rfl
  ·decide
  ·intro C;rfl
  ·intro C;rfl
  ·intro C;rfl
  ·intro e C Jz es
   simp only [aQ,cb,or_false] at Jz
   rcases Jz with rfl|rfl|rfl<;>rfl
  ·intro _;rfl
  ·have Sa:=K6.gr
   have:=hQ ll items T DB TK h' t' (Sa.trans g') (ab K6.tk l') (by rw [MJ,<-hL];exact rt.low Sa.sz)
   rw [<-nY K6.same] at this
   exact this
structure TcK(K:Frag):Prop where
 mak:makesIn K 309=true
 ini:findIn K (.ref 309) "__init__"=some (some (.ref 299))
 ity:typeIn K (.ref 299)=some (.type "function")
 sa:findIn K (.ref 309) "__setattr__"=some (some (.builtin "object.__setattr__"))
 po:plainOver K 309=true
 tk:takerIn K 309 "comp_select_list"=some none
 hd:(clsIn K 309).any (·.hasDict)=true
 kp:keepIn K (.ref 309)=true
 rk:keepIn K (.ref 278)=true
theorem zE{x dx:Nat}{ox:Obj}{v:Value}{Q:Unit->Shared->Prop}(X:K.In s.heap)(hx:s.heap.get? x=some ox)(KV:ox.cls=.ref C)(Nr:notCls ox=true)(KQ:ox.dict=some dx)(hd:s.heap.get? dx=some emptyDict)
  (hs:findIn K (.ref C) "__setattr__"=some (some (.builtin "object.__setattr__"))) (hp:plainOver K C=true) (ht:takerIn K C name=some none) (hh:(clsIn K C).any (·.hasDict)=true)
  (h:∀h' t',h'.Ns1 dx (λy=>if y=name then some v else none)->(∀(b:Nat) o,¬b=dx->s.heap.get? b=some o->h'.get? b=some o)->h'.objs.size=s.heap.objs.size->s.toks<=t'->Q () {s with heap:=h',toks:=t'}):
  wpAny (model prog w) A (setAttr (.ref x) name v) Q E s:=by
 obtain⟨Nn,gn,dr,tk0,os⟩:=s
 dsimp only at X hx hd h
 have I:InstAt Nn x ox C (some emptyDict):=⟨hx,KV,Nr,by rw [KQ];exact hd⟩
 refine set_plain X I hs ?_
 refine osa_open (s:=⟨Nn,gn,dr,tk0+1,os⟩) X I hp ht λb=>?_
 refine ci (any_some hh) λcd hc D1=>?_
 obtain⟨oc,odi,oda,osl⟩:=ox
 dsimp only at KV KQ Nr
 subst KV KQ
 refine aa (ai (aa (aa (wpAny_loadPart hx (aa ((looks_clsIn X hc).here ?_))))))
 rw [D1]
 refine ai (a:=some dx) (aa (ai (aa ?_)))
 unfold nsSet
 refine aa (aa (fF (ai (aa (wpAny_mkText (aa (wpAny_loadPart hd ?_)))))))
 rw [show emptyDict.data=.dict #[] 0 from rfl]
 dsimp only
 rw [aRefKeyMayBeTheName_at,if_neg (by simp)]
 refine wpAny_updatePart (s:=⟨Nn,gn,dr,tk0+1+1,os⟩) hd ?_
 have J2:∀Hv k,Obj.putName name Hv k v emptyDict={emptyDict with data:=.dict #[⟨Hv,k,v⟩] 1}:=λHv k=>by rw [Obj.putName_eq];simp [Obj.putNameByArray,emptyDict]
 have GC:∀Hv k,(Nn.update dx (Obj.putName name Hv k v)).get? dx=some (Obj.putName name Hv k v emptyDict):=λHv k=>bv _ hd (by rw [J2];rfl)
 refine aa (wpAny_lookBehind (GC _ _) (by rw [J2];rfl) ?_)
 refine ai (h _ _ ⟨_,#[⟨_,.str name _,v⟩],1,GC _ _,by rw [J2],?_,?_,λy=>?_⟩ (λb o hb e=>(bJ _ _ (λq=>hb q.symm)).trans e) (bQ _ _ _) (by show tk0<=tk0+1+1;exact wv))
 ·intro e he
  simp at he;subst he;exact⟨_,_,rfl⟩
 ·unfold UniqKeys;simp
 ·unfold nsFind findBy
  dsimp only
  by_cases hy:y=name
  ·subst hy
   rw [if_pos rfl]
   simp [Value.isStr]
  ·rw [if_neg hy]
   have:Value.isStr (.str name (tk0+1)) y=false:=by
    simp [Value.isStr]
    exact λe=>hy e.symm
   simp [this]
theorem xY{c:Nat}(r:Room A 5)(tck:TcK K)(X:K.In s.heap)(kn:Kn s.heap)(t0:0<s.toks)(hc:c<s.heap.objs.size)
  (hQ:∀(x d:Nat) h' t' (mA:Str->Option Value),Gr s.heap h'->s.toks<=t'->s.heap.objs.size<=d->s.heap.objs.size<=x->¬d=x->h'.get? x=some (instObj 309 d)->h'.Ns1 d mA->mA "comp_select_list"=some (.ref c)->mA "compare"=none->Q (.ref x) {s with heap:=h',toks:=t'}):
  wpAny (model prog w) A (call (.ref 309) [.ref c]) Q E s:=by
 obtain⟨hh,g,dr,t,os⟩:=s
 dsimp only at X kn t0 hc hQ
 refine cw (make_core (makes_of X tck.mak) (looks_findIn X tck.ini) (λself=>bind_fn X self tck.ity) (.inl rfl) ?_)
 generalize hH:(hh.push emptyDict).push (instObj 309 hh.objs.size)=H
 have hsz:H.objs.size=hh.objs.size+2:=by rw [<-hH,ao,ao]
 have gr:Gr hh H:=⟨λb o e=>by rw [<-hH];exact af _ (af _ e),b6 37495754234384 H.objs.size hh.objs.size rfl hsz⟩
 have hx:H.get? (hh.objs.size+1)=some (instObj 309 hh.objs.size):=by
  have:=am (hh.push emptyDict) (o:=instObj 309 hh.objs.size) rfl
  rw [ao,hH] at this;exact this
 have hd:H.get? hh.objs.size=some emptyDict:=by rw [<-hH];exact af _ (am _ rfl)
 have Ry:=kn.up gr.up
 refine qV (n:=3) (PB:=λb hb=>b=[(("self":Str),aM (hh.objs.size+1)),(("comp_select_list":Str),aM c)]/\hb=H) (s:=⟨H,g,dr,t,os⟩) (Room.made r) (Ry.fn 299 (me 19 0) "TupleComp.__init__" .none .none (co (by kernel_rfl))) Ry.nl
  (λpm cd doc E' Q' hq=>?_) ?_ (by decide) ?_
 ·show wpAny _ _ (pure [(("self":Str),aM (hh.objs.size+1)),(("comp_select_list":Str),aM c)]) _ _ _
  exact ai (hq _ H t ⟨rfl,rfl⟩ (Gr.refl _) (ag _))
 ·rintro _ _ ⟨rfl,rfl⟩ x hx
  simp at hx;rcases hx with rfl|rfl<;>exact .inl rfl
 rintro pm cd doc b hb C' env ⟨rfl,rfl⟩ _ he JF tk Ei ro fm top
 dsimp only at JF tk Ei fm
 have hL:@Eq Nat env.locals hb.objs.size:=by rw [he];rfl
 have hk:env.scope.kind=.function:=by subst he;rfl
 have MF:env.kindOf "self"=some .local:=by subst he;rfl
 have MG:env.kindOf "comp_select_list"=some .local:=by subst he;rfl
 have ns:=fm.ns
 have Gs:bindL env.kindOf [(("self":Str),aM (hh.objs.size+1)),(("comp_select_list":Str),aM c)] (λ_=>none) "self"=some (.ref (hh.objs.size+1)):=by subst he;rfl
 have LH:bindL env.kindOf [(("self":Str),aM (hh.objs.size+1)),(("comp_select_list":Str),aM c)] (λ_=>none) "comp_select_list"=some (.ref c):=by subst he;rfl
 refine au (plainObj_wpAny_Assign_Attribute (mY ns LH (mY ns Gs ?_ hk MF) hk MG) rfl)
 have X1:K.In C'.heap:=(X.keeps gr.up).keeps JF.up
 refine zE X1 (JF.up _ _ hx) rfl rfl rfl (JF.up _ _ hd) tck.sa tck.po tck.tk tck.hd λh' t' n1 k' z' l'=>?_
 refine aH ⟨rfl,?_⟩
 have z1:=JF.sz
 have:=hQ (hh.objs.size+1) hh.objs.size h' t' _ ⟨λb o e=>k' b o (λq=>by have:=iF e;have q':@Eq Nat b hh.objs.size:=q;exact b6 2836703518 b hh.objs.size rfl this q) (JF.up _ _ (gr.up _ _ e)),dh 0xbc1cb910221a291cca10 hb.objs.size hh.objs.size C'.heap.objs.size h'.objs.size rfl hsz z1 z'⟩ (ab tk l') (ag _) (aD _) (cV 286861598 hh.objs.size rfl) (k' _ _ (cV 319918618 hh.objs.size rfl) (JF.up _ _ hx)) n1 (by rw [if_pos rfl]) (by rw [if_neg (by decide)])
 rw [Ei]
 exact this
theorem list2{l:List α}(h:l.length=2):∃a b,l=[a,b]:=⟨_,_,List.eq_getElem_of_length_eq_two l h⟩
theorem lO{pos:Pos}(r:Room A 5)(tck:TcK K)(hX:∀h,G.p h->K.In h/\Kn h)(l:Gl env G "TupleComp" (.ref 309))(he:Ev w A env G e (tN (.lst (ks.map λp=>.tup [.int p.1,.int p.2]))))
  (Eb:starEach (e::[]) env=(false,eval e env)::starEach [] env):Ev w A env G (.Call (.Name "TupleComp" p) [e] [] pos) (tN (.comp ks)):=by
 intro s Q E g t hQ
 refine aK (cC l g (callWith_K (e:=e) (hX _ g).1 tck.kp ?_ Eb rfl))
 rw [Eb]
 refine ar (he s _ _ g t λva h1 HF u1 l1 Dv=>aA ?_)
 have g1:=G.up u1.up g
 obtain⟨X1,Lj⟩:=hX _ g1
 refine⟨X1,?_⟩
 refine fL (At.lst.mp Dv) λc items Dz hc hl Dw=>?_;subst Dz
 have Du:=Dw.length
 rw [aU,bR] at Du
 refine xY (s:={s with heap:=h1,toks:=HF}) r tck X1 Lj (ad t l1) (iG hl) λx d h2 Ma mA u2 l2 hd hx DY ho n1 m1 m2=>?_
 dsimp only at u2 l2 hd hx
 have hz:=u1.sz
 refine hQ _ h2 Ma (u1.trans u2) (ab l1 l2) ?_
 refine⟨x,d,c,instObj 309 d,mA,items,rfl,ab hz hx,ab hz hd,hc,ho,rfl,(λ_ q=>nomatch q),rfl,DY,n1,m1,m2,cU hl λo=>u2.up _ o,Du,λi q hq=>?_⟩
 have hi:i<items.size:=by rw [Du];exact(aV.mp hq).1
 have hv:items[i]?=some items[i]:=aY hi
 have DJ:=Dw.get (i:=i) (by rw [b9];exact hv) (by rw [ah,hq];rfl)
 refine fL (At.tup.mp DJ) λT DB e1 hT DQ ha=>?_
 refine Dd (list2 (show DB.toList.length=2 from ha.length)) λv1 v2 hits=>?_
 replace hits:DB=#[v1,v2]:=eR.mp hits
 subst hits
 simp only [aN,aC,aL,aR] at ha
 refine ci (At_int.mp ha.1) λt1 Lu Dz=>?_;subst Dz
 refine ci (At_int.mp ha.2.1) λt2 Ur Dz=>?_;subst Dz
 exact⟨T,t1,t2,hv.trans (by rw [e1]),hT,Lu,Ur,gq DQ λo=>u2.up _ o⟩
section
variable{l:Nat}{ns:List Int}
theorem yZ{x:Int}(h:ns[i]?=some x):(ns.take (i+1)).sum=(ns.take i).sum+x:=by
 rw [List.take_add_one,h];simp
theorem y0(hh:A.handled=none)(DY:l≠I)(Du:items.size=ns.length)(Dw:∀(i:Nat) v x,items[i]?=some v->ns[i]?=some x->pI x v)
  (Fk:∀i,i<=ns.length->-(2^63)<=(ns.take i).sum/\(ns.take i).sum<2^63) (Hz:∀x∈ns,-(2^63:Int)<=x/\x<2^63) (S:Nat) (Ft:S≠I) (HB:S≠l):
  ∀(k i:Nat) (s:Shared) (tA:Tok) (c:Nat),ns.length-i=k->i<=ns.length->s.heap.IsListIter I l i->s.heap.IsList l items->s.heap.get? S=some {cls:=.type "list",dict:=none,data:=.seq #[.int (ns.take i).sum tA] c,slots:=#[]}->tA≠0->0<s.toks ->
  (∀h' tk t',t'≠0->s.toks<=tk->(∀(b:Nat) o,¬b=I->¬b=S->s.heap.get? b=some o->h'.get? b=some o)->s.heap.objs.size<=h'.objs.size->R (.ok (.ret (.int ns.sum t'))) {s with heap:=h',toks:=tk}) ->
  codeAny (model prog w) A (.builtin "sum.loop" ⟨[.ref I,.ref S,rawInt 0,rawInt 0],[]⟩) R s:=by
 intro k
 induction k with
 |zero =>
  intro i s tA c hk hi hit hl hS ht t0 hR
  have Eg:i=ns.length:=yS hi hk
  subst Eg
  refine c7 kP ?_
  rw [dG e8 _]
  show wpAny _ A.in1 (seqItems? (.ref S) >>= _) _ _ s
  refine aa (bN hS rfl ?_)
  show wpAny _ A.in1 (tryCatch (pyNext (.ref I)) _ >>= _) _ _ s
  refine aa (lT (fc (A:=A.in1) hh hit hl (du (wu Du)) λh' o hx _ sz=>?_))
  rw [List.take_length]
  exact ai (hR h' s.toks tA ht (ag _) (λb o h1 _ e=>hx b o h1 e) sz)
 |succ k ih =>
  intro i s tA c hk hi hit hl hS ht t0 hR
  have DH:i<ns.length:=yV hk
  have hv:items[i]?=some items[i]:=aY (fv DH Du)
  have hx:ns[i]?=some ns[i]:=ae DH
  refine ci (Dw i _ _ hv hx) λtx RK F0=>?_
  rw [F0] at hv
  refine c7 kP ?_
  rw [dG e8 _]
  show wpAny _ A.in1 (seqItems? (.ref S) >>= _) _ _ s
  refine aa (bN hS rfl ?_)
  show wpAny _ A.in1 (tryCatch (pyNext (.ref I)) _ >>= _) _ _ s
  refine aa (lT (eY hit hl hv λh' EO sb=>?_))
  have Fr:∀(b:Nat) o,¬b=I->s.heap.get? b=some o->h'.get? b=some o:=λb o hb e=>sb.extBut b o hb e
  have hS':=Fr S _ Ft hS
  have st:=yZ hx
  obtain⟨f1,f2⟩:=Hz ns[i] (dY DH)
  obtain⟨f3,f4⟩:=Fk (i+1) DH
  rw [st] at f3 f4
  have hc:((decide (-(2^63)<=ns[i])&&decide (ns[i]<2^63))&&(decide (-(2^63)<=(ns.take i).sum+ns[i])&&decide ((ns.take i).sum+ns[i]<2^63)))=true:=by
   simp only [dZ,decide_eq_true_eq]
   exact⟨⟨f1,f2⟩,f3,f4⟩
  show wpAny _ A.in1 (if (_:Bool)=true then(mkInt ((ns.take i).sum+ns[i]) >>= _) else _) _ _ _
  split
  ·refine aa (wpAny_mkInt ?_)
   refine aa ?_
   have hS₂:=bv (cX λ_=>#[dH ((ns.take i).sum+ns[i]) s.toks]) hS' rfl
   have IS:∀(b:Nat) o,¬b=S->h'.get? b=some o->(h'.update S (cX λ_=>#[dH ((ns.take i).sum+ns[i]) s.toks])).get? b=some o:=λb o hb e=>(bJ _ _ (λq=>hb q.symm)).trans e
   have sz:(h'.update S (cX λ_=>#[dH ((ns.take i).sum+ns[i]) s.toks])).objs.size=s.heap.objs.size:=by rw [bQ];exact sb.1
   refine eg hS' rfl (ai ⟨dE e8 _,?_⟩)
   rw [<-st] at hS₂ IS sz ⊢
   refine ih (i+1) ⟨_,s.gens,s.drawn,s.toks+1,s.os⟩ s.toks _ (wq hk) DH (ci EO λo e r=>⟨o,IS I _ (λq=>Ft q.symm) e,r⟩) (cU hl λo e=>IS l o (λq=>HB q.symm) (Fr l o DY e)) hS₂ (aB t0) (dU _) λDN tk t' F1 Et kk Jn=>?_
   exact hR DN tk t' F1 (ab (aD _) Et) (λb o h1 h2 e=>kk b o h1 h2 (IS b o h2 (Fr b o h1 e))) (y_401 Jn sz)
  ·rename_i Qz
   exact absurd hc Qz
end
theorem qS{l:Nat}{ns:List Int}(hh:A.handled=none)(t0:0<s.toks)(hl:s.heap.IsList l items)(Du:items.size=ns.length)(Dw:∀(i:Nat) v x,items[i]?=some v->ns[i]?=some x->pI x v)
  (Fk:∀i,i<=ns.length->-(2^63)<=(ns.take i).sum/\(ns.take i).sum<2^63) (Hz:∀x∈ns,-(2^63:Int)<=x/\x<2^63)
  (hQ:∀v h' t',Gr s.heap h'->s.toks<=t'->pI ns.sum v->Q v {s with heap:=h',toks:=t'}):wpAny (model prog w) A (call (.builtin "sum") [.ref l]) Q E s:=by
 have DH:@cA Nat _ l s.heap.objs.size:=iG hl
 refine call_function_tree PySem.F.kind_sum PySem.F.plain_sum PySem.F.entry_sum (PySem.F.args_sum1 _) ?_
 delta Builtin.«sum»
 refine aa (cD (show Builtin.Builtins.bindParams "sum" ["start"] 0 {}=pure [none] from rfl) ?_)
 refine aa (cT hl ?_)
 refine aa (wpAny_mkInt ?_)
 refine aa (ai ?_)
 refine aa (aa (aa (eL (T:="int") (b:=false) (jm _ _ _) PySem.sub_int_str ?_)))
 refine ai (aa (aa (eL (T:="int") (b:=false) (jm _ _ _) PySem.sub_int_bytes ?_)))
 refine ai (aa (aa (eL (T:="int") (b:=false) (jm _ _ _) PySem.sub_int_bytearray ?_)))
 refine ai (ai ?_)
 refine aa (ce ?_)
 generalize OQ:s.heap.push {cls:=.type "list_iterator",data:=.fields #[.ref l,.int 0 0]}=h1
 have z1:h1.objs.size=s.heap.objs.size+1:=by rw [<-OQ,ao]
 have e1:h1.get? s.heap.objs.size=some {cls:=.type "list_iterator",data:=.fields #[.ref l,.int 0 0]}:=by rw [<-OQ];exact am _ rfl
 have u1:Up s.heap h1:=by rw [<-OQ];exact Up.push _ _
 have QB:l≠s.heap.objs.size:=bW DH
 refine ai ⟨dE e8 _,y0 (ns:=ns) (l:=l) hh QB Du Dw Fk Hz h1.objs.size (b6 18804056566042 h1.objs.size s.heap.objs.size rfl z1) (bX 0x111a2b1ca9149b1a l s.heap.objs.size h1.objs.size rfl DH z1) ns.length 0 _ s.toks 0 rfl (bY _) ⟨_,af _ e1,rfl,rfl⟩ (cU hl λo e=>af _ (u1 _ _ e)) (am _ rfl) (aB t0) (dU _) λh' tk t' F1 DU kk sz=>?_⟩
 rw [ao] at sz
 exact hQ _ h' tk ⟨λb o e=>kk b o (bW (aX e)) (λq=>by have:=iF e;have q':@Eq Nat b h1.objs.size:=q;exact bX 0x111a2b1ca914b91e b s.heap.objs.size h1.objs.size rfl this z1 q) (af _ (u1 b o e)),bX 0x223652395119210ab10 h1.objs.size h'.objs.size s.heap.objs.size rfl sz z1⟩ (ab (aD _) DU) ⟨t',F1,rfl⟩
theorem sj{pos:Pos}{ns:List Int}(hh:A.handled=none)(l:Gl env G "sum" (.builtin "sum"))(he:Ev w A env G e (tO (dInts ns)))
  (Fk:∀i,i<=ns.length->-(2^63)<=(ns.take i).sum/\(ns.take i).sum<2^63) (Hz:∀x∈ns,-(2^63:Int)<=x/\x<2^63) (Eb:starEach [e] env=[(false,eval e env)]):
  Ev w A env G (.Call (.Name "sum" p) [e] [] pos) (tV (pI ns.sum)):=by
 intro s Q E g t hQ
 refine aK (cC l g ?_)
 rw [Eb]
 refine bV rfl (aE (ar (he s _ _ g t λnv h1 t1 u1 l1 Dv=>aA ?_)))
 refine fL (At.lst.mp Dv) λa items Dz _ hl Dw=>?_;subst Dz
 have Du:=Dw.length
 rw [aU,bR] at Du
 refine qS (s:={s with heap:=h1,toks:=t1}) hh (ad t l1) hl Du (λi v x hv hx=>At_int.mp (Dw.get (i:=i) (by rw [b9];exact hv) (by rw [ah,hx];rfl))) Fk Hz λv h' t' u' l' hv=>?_
 exact hQ v h' t' (u1.trans u') (ab l1 l') hv
theorem LTab.at2{c:Addr}(x:LTab h c P ps)(hc:∀o,h.get? c=some o->h'.get? c=some o)(hp:∀o,h.get? P=some o->h'.get? P=some o):LTab h' c P ps :=
 ⟨by obtain⟨o,vs,file,tf,flags,tg,IU,text,tt,h1,r⟩:=x.hd;exact⟨o,vs,file,tf,flags,tg,IU,text,tt,hc _ h1,r⟩,hp _ x.tab,x.ok⟩
structure Lst(K:Frag)(A:Around)(DA:Heap)(env:Env)(lo:Nat):Prop where
 hk:env.scope.kind=.function
 frame:env.frame=some env.locals
 hand:A.handled=none
 frames:A.frames=some [env]
 code:env.code=.ref 344
 glob:env.globals=3
 kr:KR K DA
 kc:KC DA
 nb:NoneBooked DA
 tck:TcK K
 b280:DA.get? 280=none
 b342:DA.get? 342=none
 o284:∃o,DA.get? 284=some o
 o344:∃o,DA.get? 344=some o
 lt:342<lo
 n280:¬OwnB env 280
 n342:¬OwnB env 342
structure Lw(Dr:Shared)(env:Env)(lo:Nat)(Γ:Ctx)(ps:Array Value)(s:Shared):Prop where
 fx:Fx Dr env lo [] Γ s
 t280:TabOk s.heap 284 280
 t342:LTab s.heap 344 342 ps
 ga:Bare Dr.gens
section
variable{ps':Array Value}
theorem Lw.t(lw:Lw Dr env lo Γ ps s):0<s.toks:=lw.fx.t
theorem Lw.noOwn(lw:Lw Dr env lo Γ ps s){b:Nat}(h:∃o,Dr.heap.get? b=some o):¬OwnB env b:=λq=>by
 obtain⟨_,m,cm,f,g⟩:=lw.fx.fx
 obtain⟨o,e⟩:=h
 rw [f.fresh b q] at e;cases e
theorem Lw.kn(ls:Lst K A Dr.heap env lo)(lw:Lw Dr env lo Γ ps s):Kn s.heap:=by
 obtain⟨_,m,cm,f,g⟩:=lw.fx.fx
 exact ls.kr.kn.up f.base
theorem Lw.base(lw:Lw Dr env lo Γ ps s):Up Dr.heap s.heap:=by
 obtain⟨_,m,cm,f,g⟩:=lw.fx.fx
 exact f.base
theorem Lw.next(ls:Lst K A Dr.heap env lo)(lw:Lw Dr env lo Γ ps s)(D6:Fx Dr env lo [] Γ' s')(k:Kp env s.heap s'.heap):Lw Dr env lo Γ' ps s' :=
 ⟨D6,lw.t280.at2 (λo e=>k _ o (lw.noOwn ls.o284) e) (λo e=>k _ o ls.n280 e),lw.t342.at2 (λo e=>k _ o (lw.noOwn ls.o344) e) (λo e=>k _ o ls.n342 e),lw.ga⟩
theorem Lw.move(ls:Lst K A Dr.heap env lo)(lw:Lw Dr env lo Γ ps s)(u:Gr s.heap h')(l:s.toks<=t'):Lw Dr env lo Γ ps {s with heap:=h',toks:=t'} :=
 lw.next ls (lw.fx.move u.up l) (Kp.of_up u.up)
theorem Lw.sub(lw:Lw Dr env lo Γ ps s)(h:∀p∈Γ',p∈Γ):Lw Dr env lo Γ' ps s:={lw with fx:=lw.fx.weak h}
theorem Lw.add{v:Value}(lw:Lw Dr env lo Γ ps s)(i:Nat)(hi:Γ[i]?=some (x,.is v))(ho:OkV Dr.heap lo s.heap v d):Lw Dr env lo ((x,d)::Γ) ps s:={lw with fx:=lw.fx.add i hi ho}
theorem Lw.chg(ls:Lst K A Dr.heap env lo)(lw:Lw Dr env lo Γ ps s){g':Array GenState}(k:∀(b:Nat) o,¬b=280->¬b=342->¬@Eq Nat b env.locals->s.heap.get? b=some o->h'.get? b=some o)
  (hn:∀m,s.heap.Ns env.locals m->h'.Ns env.locals m) (tk:s.toks<=t') (t280:TabOk h' 284 280) (t342:LTab h' 344 342 ps') (ga:Bare g'):
  Lw {Dr with gens:=g'} env lo Γ ps' {s with heap:=h',toks:=t',gens:=g'}:=by
 obtain⟨e,m,cm,f,g⟩:=lw.fx.fx
 have DH:=ls.lt
 have D4:@cA Nat _ env.locals lo:=f.own _ (.inl rfl)
 refine⟨⟨?_,lw.fx.t0,ab lw.fx.tk tk,lw.fx.sz,lw.fx.top,λa DB h=>(nomatch h),m,cm,⟨hn m f.ns,λn c hc=>?_,f.uniq,f.apart,f.ne,f.own,λb o q=>k b o (λz=>?_) (λz=>?_) (λz=>?_) (f.base b o q),f.fresh⟩,g.upF λb o hb q=>k b o (b6 0x2a4426ac62291831a1a lo b rfl DH hb) (sV DH hb) (sV D4 hb) q⟩,t280,t342,ga⟩
 ·rw [lw.fx.same]
 ·refine ci (f.cell n c hc) λo ho hd=>?_
  have hm:=mem_of_lookup hc
  have IV:OwnB env c:=.inr ⟨n,hm⟩
  exact⟨o,k c o (λz=>ls.n280 (by rw [<-z];exact IV)) (λz=>ls.n342 (by rw [<-z];exact IV)) (f.ne n c hm) ho,hd⟩
 ·rw [z,ls.b280] at q;cases q
 ·rw [z,ls.b342] at q;cases q
 ·have z':b=env.locals:=z
  rw [z',f.fresh _ (.inl rfl)] at q;cases q
end
section
variable{Q:Flow->Shared->Prop}
theorem Lw.gl{v:Value}(ls:Lst K A Dr.heap env lo)(hx:(x,v)∈globs\/(x,v)∈blts)(hb:env.builtins=0)(hi:env.kindOf x=some .globalImplicit)(hd:(x==("__debug__":Str))=false):Gl env (hO Dr.heap env lo [] Γ) x v :=
 glF ls.kr.kn hx ls.hk hi ls.glob hb hd
theorem oO{pos:Pos}(ls:Lst K A Dr.heap env lo)(lw:Lw Dr env lo Γ ps s)(he:Ev w A env (hO Dr.heap env lo [] Γ) e (tN d))(hf:Fresh Γ x=true)(hl:env.kindOf x=some .local)
  (hs:swapsWith e (some (.Name x px)) pos.line env=pure false)
  (hQ:∀s',Lw Dr env lo ((x,d)::Γ) ps s'->Kp env s.heap s'.heap->wpAny (model prog w) A (execs rest env) Q E s'):wpAny (model prog w) A (execs (.Assign [.Name x px] e pos::rest) env) Q E s :=
 nV lw.fx he hf ls.hk hl hs λs' D6 k=>hQ s' (lw.next ls D6 k) k
theorem qE{pos:Pos}{c:Addr}(ls:Lst K A Dr.heap env lo)(lw:Lw Dr env lo Γ ps s)(he:Ev w A env (hO Dr.heap env lo [] Γ) e (tN d))(hf:Fresh Γ x=true)(hl:env.kindOf x=some .cell)(hc:env.cells.lookup x=some c)
  (hs:swapsWith e (some (.Name x px)) pos.line env=pure false)
  (hQ:∀s',Lw Dr env lo ((x,d)::Γ) ps s'->Kp env s.heap s'.heap->wpAny (model prog w) A (execs rest env) Q E s'):wpAny (model prog w) A (execs (.Assign [.Name x px] e pos::rest) env) Q E s :=
 qu lw.fx he hf ls.hk hl hc hs λs' D6 k=>hQ s' (lw.next ls D6 k) k
theorem xp{pos:Pos}{b:Bool}(ls:Lst K A Dr.heap env lo)(lw:Lw Dr env lo Γ ps s)(ht:EvT w A env (hO Dr.heap env lo [] Γ) test b)
  (h:∀s',Lw Dr env lo Γ ps s'->Gr s.heap s'.heap->wpAny (model prog w) A (execs (if b then body else orelse) env) (λf s'=>match f with|.next=>wpAny (model prog w) A (execs rest env) Q E s'|f=>Q f s') E s'):
  wpAny (model prog w) A (execs (.If test body orelse pos::rest) env) Q E s :=
 qt lw.fx ht λh' t' u l _=>h _ (lw.move ls u l) u
theorem CO{pos:Pos}(ls:Lst K A Dr.heap env lo)(lw:Lw Dr env lo Γ ps s)(ht:EvT w A env (hO Dr.heap env lo [] Γ) test false)
  (h:∀s',Lw Dr env lo Γ ps s'->Gr s.heap s'.heap->wpAny (model prog w) A (execs rest env) Q E s'):
  wpAny (model prog w) A (execs (.If test body [] pos::rest) env) Q E s :=
 Aa lw.fx ht λh' t' u l _=>h _ (lw.move ls u l) u
theorem Lw.storeL{v:Value}{Q:Unit->Shared->Prop}(ls:Lst K A Dr.heap env lo)(lw:Lw Dr env lo Γ ps s)(DJ:OkV Dr.heap lo s.heap v d)(hf:Fresh Γ x=true)(hl:env.kindOf x=some .local)
  (hQ:∀s',Lw Dr env lo ((x,d)::Γ) ps s'->Kp env s.heap s'.heap->Q () s'):wpAny (model prog w) A (storeName env x v) Q E s :=
 Fx.store lw.fx DJ hf ls.hk hl λh' t' D6 _ k=>hQ _ (lw.next ls D6 k) k
end
theorem wJ{b:Int}(hb:0<=b):∀(l:List Int),(∀x∈l,0<=x/\x<=b)->0<=l.sum/\l.sum<=b*l.length
 |[],_=>by simp
 |x::l,h=>by
  have h1:=h x aW
  have h2:=wJ hb l λy hy=>h y (az _ hy)
  rw [List.sum_cons,eQ]
  have:b*((l.length+1:Nat):Int)=b*l.length+b:=by rw [k8,fD];simp
  lia
theorem ow{b:Int}{l:List Int}{m:Nat}(hb:0<=b)(hl:l.length<=m)(h:∀x∈l,0<=x/\x<=b)(i:Nat):0<=(l.take i).sum/\(l.take i).sum<=b*m:=by
 obtain⟨h1,h2⟩:=wJ hb (l.take i) λx hx=>h x (List.mem_of_mem_take hx)
 refine⟨h1,Int.le_trans h2 (Int.mul_le_mul_of_nonneg_left ?_ hb)⟩
 have:(l.take i).length<=l.length:=by simp;exact b6 2836441360 (min i l.length) l.length rfl (kh i l.length)
 exact bX 0xba10a910b79711 ((List.take i l).length) l.length m rfl this hl
noncomputable abbrev Ba(B':List Int):Int:=Int.fmod (((B'.take 60).map fun(x:Int)=>Int.fmod x 2).sum) 2
noncomputable def eS(B':List Int):Int:=1-2*Ba B'
theorem CZ(x:Int):0<=x.fmod 2/\x.fmod 2<=1:=by
 rw [d7 _ (by decide)];exact y_575
theorem rO(B':List Int):Ba B'=0\/Ba B'=1:=by
 have:=CZ (((B'.take 60).map fun(x:Int)=>x.fmod 2).sum)
 exact y_710 this
theorem RowTok.keepL{l:Nat}(x:RowTok lo h l rows items T DB TK)(k:∀(b:Nat) o,lo<=b->h.get? b=some o->h'.get? b=some o):RowTok lo h' l rows items T DB TK :=
 {x with lst:=cU x.lst λo=>k _ o x.lol,it:=λi hi=>a3 (x.it i hi) λa b c=>⟨a,b,gq c λo=>k _ o b⟩}
section
variable{Q:Flow->Shared->Prop}
theorem Lw.rowK{l:Nat}(lw:Lw Dr env lo Γ ps s)(x:RowTok lo s.heap l rows items T DB TK)(k:Kp env s.heap s'.heap):RowTok lo s'.heap l rows items T DB TK:=by
 obtain⟨_,m,cm,f,g⟩:=lw.fx.fx
 exact x.keepL λb o hb e=>k b o (λq=>by have:=f.own b q;exact qj this hb) e
noncomputable abbrev mM(L0:Nat)(pm cd doc:Value):Env:=ky (st 26) "law" .none .none 345 L0 pm cd doc
noncomputable abbrev Bg(B':List Int)(v:Value)(ll:Nat):Ctx:=[("way",.int (eS B')),("size",.int ((aS B').length:Int)),("rows",mO (aS B')),("rows",.is (.ref ll)),("script",dInts B'),("script",.is v)]
theorem law_a{v:Value}(r:Room A 6)(ls:Lst K A Dr.heap env lo)(lw:Lw Dr env lo [("script",.is v)] ps s)(he:∃pm cd doc,env=mM L0 pm cd doc)
  (hv:At 0 Dr.heap v (dInts B')) (hsz:B'.length<=1000)
  (hQ:∀ll items T DB TK s',Lw Dr env lo (Bg B' v ll) ps s'->RowTok lo s'.heap ll (aS B') items T DB TK->wpAny (model prog w) A (execs ((gR (st 26)).drop 3) env) Q E s'):
  wpAny (model prog w) A (execs (gR (st 26)) env) Q E s:=by
 obtain⟨pm,cd,doc,he⟩:=he
 have hk:=ls.hk
 have Hb:sizeLine=16777216:=by decide
 have gl:∀{Γ x v},(x,v)∈globs\/(x,v)∈blts->env.kindOf x=some .globalImplicit->(x==("__debug__":Str))=false->Gl env (hO Dr.heap env lo [] Γ) x v:=λh1 h2 h3=>Lw.gl ls h1 (by subst he;rfl) h2 h3
 have FM:∀{Γ},Gl env (hO Dr.heap env lo [] Γ) "_law_rows" (.ref 318):=gl (.inl (co (by kernel_rfl))) (by subst he;rfl) rfl
 have Hn:∀{Γ},Gl env (hO Dr.heap env lo [] Γ) "len" (.builtin "len"):=gl (.inr (co (by kernel_rfl))) (by subst he;rfl) rfl
 have FD:∀{Γ},Gl env (hO Dr.heap env lo [] Γ) "sum" (.builtin "sum"):=gl (.inr (co (by kernel_rfl))) (by subst he;rfl) rfl
 have Hc:∀(l:List Int),∀d∈l.map Dt.int,Scal d=true:=by intro l d hd;obtain⟨i,_,rfl⟩:=bK.mp hd;rfl
 refine au (bu (aK (cC FM lw.fx.fx ?_)) rfl)
 obtain⟨o,pm',cd',V7,ho,hd,_⟩:=(lw.kn ls).fn 318 (st 21) "_law_rows" .none .none (co (by kernel_rfl))
 refine b7 (o:=o) (aE (ar (Ev.run (an (cu 0 rfl hk)) lw.fx.fx lw.t λva Dy t1 u1 l1 Dv=>aA ⟨⟨u1.up _ _ ho,hd⟩,?_⟩)))
 replace Dv:=At_is Dv
 subst Dv
 have ER:=lw.move ls u1 l1
 refine y9 (s:={s with heap:=Dy,toks:=t1}) (r.le (by decide)) (ER.kn ls) ER.t (hv.up (ER.base.from _)) (cV 0x7d0832200f424051910 B'.length rfl hsz) λll items T DB TK DE t2 u2 l2 rt=>?_
 have EH:=ER.move ls u2 l2
 have Hs:RowTok lo DE ll (aS B') items T DB TK:=rt.low ER.fx.los
 refine EH.storeL ls (d:=.is (.ref ll)) (.inl At_rfl) rfl (by subst he;rfl) λs3 Fh k3=>?_
 have Jq:=EH.rowK Hs k3
 have Fp:=((Fh.add (d:=dInts B') 1 rfl (.inr hv)).add (d:=mO (aS B')) 1 rfl (.inl Jq.at)).sub (Γ':=[("rows",mO (aS B')),("rows",.is (.ref ll)),("script",dInts B'),("script",.is va)]) (by simp)
 have OC:(aS B').length<=100:=by
  unfold aS
  rw [List.length_mapIdx,iw]
  simp [gu];exact cV 0xc432205e31910 (min (6:Nat) B'.length) rfl (dN (6:Nat) B'.length)
 refine qE (d:=.int ((aS B').length:Int)) (c:=L0+1) ls Fp (Ev.nint ((sm Hn (an (cu 0 rfl hk)) (by simp;exact cV 0x6431910800000000000000081914 ((aS B').length) rfl OC) rfl).mono λlo h v hv=>by rw [bR] at hv;exact hv)) rfl (by subst he;rfl) (by subst he;rfl) rfl λs5 GT k5=>?_
 have N6:=Fp.rowK Jq k5
 have hb:∀x∈(B'.take 60).map (λx=>x.fmod 2),0<=x/\x<=1:=λx hx=>by
  obtain⟨y,_,rfl⟩:=bK.mp hx;exact CZ y
 have Vc:=ow (b:=1) (m:=60) (by decide) (l:=(B'.take 60).map λx=>x.fmod 2) (by simp;exact wx) hb
 refine qE (d:=.int (eS B')) (c:=L0+2) ls GT (Ev.nint (bH (gV 1 _) br (bH (eU 2 _ (by decide)) br (bH (oG _ 2 (by decide)) (sj (ns:=(B'.take 60).map λx=>x.fmod 2) ls.hand FD (Ev.old ?_) (λi _=>by have:=Vc i;exact y_592 this) (λx hx=>by have:=hb x hx;exact BZ this) rfl) br)))) rfl (by subst he;rfl) (by subst he;rfl) rfl λDI Jr k6=>?_
 ·refine d8 (Lk:=True) (((B'.take 60).map λx=>x.fmod 2).map .int) [] (λhc i v _=>∃d,((B'.take 60).map Dt.int)[i]?=some d/\At 0 hc v d) ?_ ?_ ?_ ?_ ?_ ?_ ?_
  ·simp;exact cV 0x786322100000051910 (min (60:Nat) B'.length) rfl (dN (60:Nat) B'.length)
  ·rw [show (((B'.take 60).map λx=>x.fmod 2).map Dt.int).length=((B'.take 60).map Dt.int).length by simp]
   refine dD ls.hand (Ev.old ?_)
   rw [jU]
   exact xM (an (cu 3 rfl hk)) br (Hc _) (by simp;exact cV 0x7d08322100000051910 B'.length rfl hsz) (by intro _ _;rfl)
  ·intro C hc i r hr gp hC
   simp only [aP,ah,aq,bM] at hr
   obtain⟨x,hx,rfl⟩:=hr
   refine⟨_,di (d:=.int x) hC (λv h z9=>ci z9 λd D1 DJ=>?_) rfl rfl rfl,λG' good up=>?_⟩
   ·rw [ah,hx] at D1;cases D1;exact DJ
   ·exact Ev.nint (bH (oG _ _ (by decide)) (Ev.int (an good)) br)
  ·rfl
  ·rfl
  ·decide
  ·intro _;rfl
 exact hQ ll items T DB TK DI Jr (GT.rowK N6 k6)
end
noncomputable def jf(ks:List (Int×Int))(r:List Int):List Int:=ks.map λp=>p.2*r.getD p.1.toNat 0
theorem x9(r o:List Int):∀(ks:List (Int×Int)),(∀p∈ks,p.2=1\/p.2=-1)->dw ks r o=b2i (lM (jf ks r) (jf ks o))-b2i (fg (jf ks r) (jf ks o))
 |[],_=>rfl
 |(i,d)::ks,h=>by
  have ih:=x9 r o ks λp hp=>h p (az _ hp)
  have hd:=h (i,d) aW
  simp only [dw,jf,ir,lgc,lgl,lgn,lgr,lxc,lxl,lxn,lxr]
  generalize r.getD i.toNat 0=a
  generalize o.getD i.toNat 0=b
  have RC:dw ks r o=b2i (lM (ks.map λp=>p.2*r.getD p.1.toNat 0) (ks.map λp=>p.2*o.getD p.1.toNat 0))-b2i (fg (ks.map λp=>p.2*r.getD p.1.toNat 0) (ks.map λp=>p.2*o.getD p.1.toNat 0)):=ih
  rcases hd with rfl|rfl
  ·rcases fo a b with h1|h1|h1
   ·rw [if_pos h1,if_neg (by exact eW 743641955111967 a b rfl h1),if_neg (by exact eW 743641955111967 a b rfl h1),decide_eq_false (by exact eW 743640881501207 a b rfl h1),decide_eq_true (by exact eW 743641955111957 a b rfl h1)];decide
   ·rw [if_neg (by exact eW 2837293335 a b rfl h1),if_neg (by exact eW 2837027351 a b rfl h1),if_pos (by exact Cc h1),if_pos (by exact Cc h1)];exact RC
   ·rw [if_neg (by exact wo h1),if_pos h1,if_neg (by exact eW 743640881501211 b a rfl h1),if_neg (by exact eW 743640881501211 b a rfl h1),decide_eq_true (by exact eW 743641955111957 b a rfl h1),decide_eq_false (by exact eW 743640881501207 b a rfl h1)];decide
  ·rcases fo a b with h1|h1|h1
   ·rw [if_pos h1,if_neg (by exact eW 743641959306779 a b rfl h1),if_neg (by exact eW 743641959306779 a b rfl h1),decide_eq_true (by exact eW 743640885696021 a b rfl h1),decide_eq_false (by exact eW 743641959306775 a b rfl h1)];decide
   ·rw [if_neg (by exact eW 2837293335 a b rfl h1),if_neg (by exact eW 2837027351 a b rfl h1),if_pos (by exact Cb h1),if_pos (by exact Cb h1)];exact RC
   ·rw [if_neg (by exact wo h1),if_pos h1,if_neg (by exact eW 743640885696031 b a rfl h1),if_neg (by exact eW 743640885696031 b a rfl h1),decide_eq_false (by exact eW 743641959306775 b a rfl h1),decide_eq_true (by exact eW 743640885696021 b a rfl h1)];decide
theorem oC(ks:List (Int×Int))(rows:List (List Int))(h:∀p∈ks,p.2=1\/p.2=-1):de ks rows=nF (rows.map (jf ks)):=by
 unfold de nF
 simp only [aP]
 refine eF λr _=>eF λo _=>?_
 exact x9 r o ks h
theorem oD(B':List Int):∀r∈aS B',∃a b c:Int,r=[a,b,c]:=λr hr=>by
 unfold aS at hr
 obtain⟨i,hi⟩:=bE.mp hr
 rw [List.getElem?_mapIdx,aq] at hi
 obtain⟨x,_,rfl⟩:=hi
 exact⟨_,_,_,rfl⟩
theorem ii(B':List Int):6<=(aS B').length/\(aS B').length<=12:=by
 unfold aS
 rw [List.length_mapIdx,iw]
 simp [gu];exact wx
noncomputable def ks1:List (Int×Int):=[(0,-1),(1,1),(2,1)]
noncomputable def ks2(way:Int):List (Int×Int):=[(1,way),(0,way),(2,-way)]
noncomputable def ks3:List (Int×Int):=[(0,-1),(1,1)]
section
variable{Q:Flow->Shared->Prop}
theorem qQ(r:Room A 5)(KO:∀p∈ks,∀row∈rows,0<=p.1/\p.1.toNat<row.length/\p.1<2^63)(hsz:rows.length<=100):Ct2 w A Kn 323 (.comp ks) (mO rows) (uj (de ks rows)):=
 λ_ _ _ _ _ kn t h1 h2 hQ=>y7 r kn t h1 h2 KO (ab hsz (show 100<=sizeLine by decide)) hQ
theorem xX{told:List (List Int)}(r:Room A 3)(hk:∀l∈told,l.length=k)(hsz:told.length<=100):Ct1 w A Kn 328 (mO told) (sP (nF told)):=
 λ_ _ _ _ kn t h1 hQ=>De r (kn.fn 328 (st 23) "_law_due" .none .none (co (by kernel_rfl))) kn.nl t h1 hk (ab hsz (show 100<=sizeLine by decide)) hQ
theorem sh{a:Nat}{t:Stmt}{d k:Value}(m:(a,t,q,d,k)∈fns):∀h,Kn h->∃o fd,h.get? a=some o/\o.data=.func fd:=λh kn=>by
 obtain⟨o,pm,cd,doc,e,d,_⟩:=kn.fn a t q d k m
 exact⟨o,_,e,d⟩
noncomputable abbrev vX(B':List Int)(v:Value)(ll:Nat):Ctx :=
 ("alike",uj (de ks3 (aS B')))::("second",uj (de (ks2 (eS B')) (aS B')))::("first",uj (de ks1 (aS B')))::Bg B' v ll
theorem law_b{v:Value}(r:Room A 8)(ls:Lst K A Dr.heap env lo)(lw:Lw Dr env lo (Bg B' v ll) ps s)(he:∃pm cd doc,env=mM L0 pm cd doc)
  (rt:RowTok lo s.heap ll (aS B') items T DB TK)
  (hQ:∀s',Lw Dr env lo (vX B' v ll) ps s'->RowTok lo s'.heap ll (aS B') items T DB TK->wpAny (model prog w) A (execs ((gR (st 26)).drop 8) env) Q E s'):
  wpAny (model prog w) A (execs ((gR (st 26)).drop 3) env) Q E s:=by
 obtain⟨pm,cd,doc,he⟩:=he
 subst he
 have hk:=ls.hk
 have Hb:sizeLine=16777216:=by decide
 obtain⟨Ij,DF⟩:=ii B'
 have r3:=oD B'
 have II:eS B'=1\/eS B'=-1:=by have:=rO B';unfold eS;lia
 have hG:∀{Γ} h,(hO Dr.heap (mM L0 pm cd doc) lo [] Γ).p h->Kn h:=λh z9=>ls.kr.kn.up (FxH.bs z9)
 have Pd:∀{Γ} h,(hO Dr.heap (mM L0 pm cd doc) lo [] Γ).p h->K.In h/\Kn h:=λh z9=>⟨ls.kr.X.keeps (FxH.bs z9),ls.kr.kn.up (FxH.bs z9)⟩
 have FD:∀{Γ},Gl (mM L0 pm cd doc) (hO Dr.heap _ lo [] Γ) "_law_signs" (.ref 323):=Lw.gl ls (.inl (co (by kernel_rfl))) rfl rfl rfl
 have JG:∀{Γ},Gl (mM L0 pm cd doc) (hO Dr.heap _ lo [] Γ) "TupleComp" (.ref 309):=Lw.gl ls (.inl (co (by kernel_rfl))) rfl rfl rfl
 have Pm:∀{Γ},Gl (mM L0 pm cd doc) (hO Dr.heap _ lo [] Γ) "_law_due" (.ref 328):=Lw.gl ls (.inl (co (by kernel_rfl))) rfl rfl rfl
 have i0:∀{A:Around} {G:Cx} {env:Env} {i:Int} {k:Nat} {pos:Pos},Ev w A env G (.Constant (.int i) k pos) (tN (.int i)):=Ev.nint br
 have JX:∀ks:List (Int×Int),(∀p∈ks,0<=p.1/\p.1<=2)->∀p∈ks,∀row∈aS B',0<=p.1/\p.1.toNat<row.length/\p.1<2^63:=λks h p hp row Ga=>by
  obtain⟨a,b,c,rfl⟩:=r3 row Ga
  have:=h p hp
  exact y_586 this
 refine qE (c:=L0+3) ls lw (og (K:=Kn) FD hG (sh (t:=st 22) (q:="_law_signs") (d:=.none) (k:=.none) (co (by kernel_rfl))) (qQ (ks:=ks1) (r.le (by decide)) (JX ks1 (by simp [ks1])) (sY DF)) (Ev.old (lO (ks:=ks1) (r.le (by decide)) ls.tck Pd JG (mK (ds:=ks1.map λp=>.tup [.int p.1,.int p.2]) (bk (eX (ds:=[.int 0,.int (-1)]) (bk i0 (bk (Ev.nint (nW br)) ec))) (bk (eX (ds:=[.int 1,.int 1]) (bk i0 (bk i0 ec))) (bk (eX (ds:=[.int 2,.int 1]) (bk i0 (bk i0 ec))) ec))) (show 3<=sizeLine by decide)) rfl)) (an (cu 2 rfl hk)) rfl) rfl rfl rfl rfl λC' ER k1=>?_
 have N8:=lw.rowK rt k1
 have JK:∀{Γ:Ctx} (j:Nat),Γ[j]?=some (("way":Str),Dt.int (eS B'))->∀{p},Ev w A (mM L0 pm cd doc) (hO Dr.heap _ lo [] Γ) (.Name "way" p) (tV (pI (eS B'))):=fun{Γ} j hj {p}=>Ev.int (an (cu j hj hk))
 refine qE (c:=L0+4) ls ER (og (K:=Kn) FD hG (sh (t:=st 22) (q:="_law_signs") (d:=.none) (k:=.none) (co (by kernel_rfl))) (qQ (ks:=ks2 (eS B')) (r.le (by decide)) (JX _ (by simp [ks2])) (sY DF)) (Ev.old (lO (ks:=ks2 (eS B')) (r.le (by decide)) ls.tck Pd JG (mK (ds:=(ks2 (eS B')).map λp=>.tup [.int p.1,.int p.2]) (bk (eX (ds:=[.int 1,.int (eS B')]) (bk i0 (bk (Ev.nint (JK 1 rfl)) ec)) (show 2<=sizeLine by decide)) (bk (eX (ds:=[.int 0,.int (eS B')]) (bk i0 (bk (Ev.nint (JK 1 rfl)) ec)) (show 2<=sizeLine by decide)) (bk (eX (ds:=[.int 2,.int (-(eS B'))]) (bk i0 (bk (Ev.nint (nW (JK 1 rfl))) ec)) (show 2<=sizeLine by decide)) ec))) (show 3<=sizeLine by decide)) rfl)) (an (cu 3 rfl hk)) rfl) rfl rfl rfl rfl λDs EH k2=>?_
 have Hs:=ER.rowK N8 k2
 refine oO ls EH (og (K:=Kn) FD hG (sh (t:=st 22) (q:="_law_signs") (d:=.none) (k:=.none) (co (by kernel_rfl))) (qQ (ks:=ks3) (r.le (by decide)) (JX ks3 (by simp [ks3])) (sY DF)) (Ev.old (lO (ks:=ks3) (r.le (by decide)) ls.tck Pd JG (mK (ds:=ks3.map λp=>.tup [.int p.1,.int p.2]) (bk (eX (ds:=[.int 0,.int (-1)]) (bk i0 (bk (Ev.nint (nW br)) ec))) (bk (eX (ds:=[.int 1,.int 1]) (bk i0 (bk i0 ec))) ec)) (show 2<=sizeLine by decide)) rfl)) (an (cu 4 rfl hk)) rfl) rfl rfl rfl λs3 Fh k3=>?_
 have Jq:=EH.rowK Hs k3
 have JY:∀ks,(∀l∈(aS B').map (jf ks),l.length=ks.length):=λks l hl=>by
  obtain⟨x,_,rfl⟩:=bK.mp hl
  simp [jf]
 have HV:∀{hc:Heap} {i:Nat} {row:List Int} {v:Value},(aS B')[i]?=some row->(∃d,((aS B').map tI)[i]?=some d/\At 0 hc v d)->At 0 hc v (tI row):=fun{hc i row v} hx ⟨d,D1,DJ⟩=>by
  rw [ah,hx] at D1;cases D1;exact DJ
 have u0:A.units+1<cLine:=by have:=r.units;exact y_75 this
 refine xp (b:=false) ls Fh ((tZ (p:=!(de ks1 (aS B')==nF ((aS B').map (jf ks1)))) (q:=!(de ks3 (aS B')==nF ((aS B').map (jf ks3))))
   (iS (yh u0 _ _) ((an (cu 2 rfl hk)).mono λ_ _ _ h=>mW h) (Ev.old (oh (K:=Kn) Pm hG (sh (t:=st 23) (q:="_law_due") (d:=.none) (k:=.none) (co (by kernel_rfl))) (xX (r.le (by decide)) (JY ks1) (by simp;exact sY DF)) (Ev.old ?_) rfl)))
   λ_=>iS (yh u0 _ _) ((an (cu 0 rfl hk)).mono λ_ _ _ h=>mW h) (Ev.old (oh (K:=Kn) Pm hG (sh (t:=st 23) (q:="_law_due") (d:=.none) (k:=.none) (co (by kernel_rfl))) (xX (r.le (by decide)) (JY ks3) (by simp;exact sY DF)) (Ev.old ?_) rfl))).cast ?_) λs4 Fp u4=>?_
 ·refine d8 (Lk:=True) (((aS B').map (jf ks1)).map tI) [] (λhc i v _=>∃d,((aS B').map tI)[i]?=some d/\At 0 hc v d) ?_ ?_ ?_ rfl rfl (by decide) (by intro _;rfl)
  ·simp;exact cV 0x184322100000051910 ((aS B').length) rfl DF
  ·rw [show (((aS B').map (jf ks1)).map tI).length=((aS B').map tI).length by simp]
   exact dD ls.hand (an (cu 5 rfl hk))
  ·intro C hc i r' hr gp hC
   simp only [aP,ah,aq,bM] at hr
   obtain⟨row,hx,rfl⟩:=hr
   obtain⟨a,b,c,rfl⟩:=r3 row (aF hx)
   refine⟨_,di (d:=tI [a,b,c]) hC (λv h hh=>HV hx hh) rfl rfl rfl,λG' good up=>?_⟩
   have key:jf ks1 [a,b,c]=[-a,b,c]:=by simp [jf,ks1]
   rw [key]
   exact eX (ds:=[.int (-a),.int b,.int c]) (bk (Ev.nint (nW (Ev.int (iH (an good) br (by decide) (by decide) rfl λ_ _=>rfl)))) (bk (Ev.nint (Ev.int (iH (an good) br (by decide) (by decide) rfl λ_ _=>rfl))) (bk (Ev.nint (Ev.int (iH (an good) br (by decide) (by decide) rfl λ_ _=>rfl))) ec))) (show 3<=sizeLine by decide)
 ·refine d8 (Lk:=True) (((aS B').map (jf ks3)).map tI) [] (λhc i v _=>∃d,((aS B').map tI)[i]?=some d/\At 0 hc v d) ?_ ?_ ?_ rfl rfl (by decide) (by intro _;rfl)
  ·simp;exact cV 0x184322100000051910 ((aS B').length) rfl DF
  ·rw [show (((aS B').map (jf ks3)).map tI).length=((aS B').map tI).length by simp]
   exact dD ls.hand (an (cu 5 rfl hk))
  ·intro C hc i r' hr gp hC
   simp only [aP,ah,aq,bM] at hr
   obtain⟨row,hx,rfl⟩:=hr
   obtain⟨a,b,c,rfl⟩:=r3 row (aF hx)
   refine⟨_,di (d:=tI [a,b,c]) hC (λv h hh=>HV hx hh) rfl rfl rfl,λG' good up=>?_⟩
   have key:jf ks3 [a,b,c]=[-a,b]:=by simp [jf,ks3]
   rw [key]
   exact eX (ds:=[.int (-a),.int b]) (bk (Ev.nint (nW (Ev.int (iH (an good) br (by decide) (by decide) rfl λ_ _=>rfl)))) (bk (Ev.nint (Ev.int (iH (an good) br (by decide) (by decide) rfl λ_ _=>rfl))) ec)) (show 2<=sizeLine by decide)
 ·rw [oC ks1 _ (by simp [ks1]),oC ks3 _ (by simp [ks3])];simp
 refine aH ?_
 have N7:=Jq.keepL λb o _ e=>u4.up b o e
 refine xp (b:=false) ls Fp ((iS (yh u0 (de (ks2 (eS B')) (aS B')) (nF ((aS B').map (jf (ks2 (eS B')))))) ((an (cu 1 rfl hk)).mono λ_ _ _ h=>mW h) (Ev.old (oh (K:=Kn) Pm hG (sh (t:=st 23) (q:="_law_due") (d:=.none) (k:=.none) (co (by kernel_rfl))) (xX (r.le (by decide)) (JY (ks2 (eS B'))) (by simp;exact sY DF)) (Ev.old ?_) rfl))).cast ?_) λs5 GT u5=>?_
 ·refine d8 (Lk:=True) (((aS B').map (jf (ks2 (eS B')))).map tI) [("way",L0+2)] (λhc i v _=>∃d,((aS B').map tI)[i]?=some d/\At 0 hc v d) ?_ ?_ ?_ rfl rfl (by decide) (by intro _;rfl)
  ·simp;exact cV 0x184322100000051910 ((aS B').length) rfl DF
  ·rw [show (((aS B').map (jf (ks2 (eS B')))).map tI).length=((aS B').map tI).length by simp]
   exact dD ls.hand (an (cu 5 rfl hk))
  ·intro C hc i r' hr gp hC
   simp only [aP,ah,aq,bM] at hr
   obtain⟨row,hx,rfl⟩:=hr
   obtain⟨a,b,c,rfl⟩:=r3 row (aF hx)
   refine⟨_,di (d:=tI [a,b,c]) hC (λv h hh=>HV hx hh) rfl rfl rfl,λG' good up=>?_⟩
   have key:jf (ks2 (eS B')) [a,b,c]=[eS B'*b,eS B'*a,-(eS B')*c]:=by simp [jf,ks2]
   exact eX (ds:=[.int (eS B'*b),.int (eS B'*a),.int (-(eS B')*c)]) (bk (Ev.nint (bH (eU _ _ (B0 II)) (Ev.int (an ((cu (DA:=Dr.heap) (lo:=lo) (ex:=[]) (Γ:=vX B' v ll) 3 rfl hk).within gp up rfl rfl rfl rfl))) (Ev.int (iH (an good) br (by decide) (by decide) rfl λ_ _=>rfl)))) (bk (Ev.nint (bH (eU _ _ (B0 II)) (Ev.int (an ((cu (DA:=Dr.heap) (lo:=lo) (ex:=[]) (Γ:=vX B' v ll) 3 rfl hk).within gp up rfl rfl rfl rfl))) (Ev.int (iH (an good) br (by decide) (by decide) rfl λ_ _=>rfl)))) (bk (Ev.nint (bH (eU _ _ (y_565 II)) (nW (Ev.int (an ((cu (DA:=Dr.heap) (lo:=lo) (ex:=[]) (Γ:=vX B' v ll) 3 rfl hk).within gp up rfl rfl rfl rfl)))) (Ev.int (iH (an good) br (by decide) (by decide) rfl λ_ _=>rfl)))) ec))) (show 3<=sizeLine by decide)
 ·rw [oC (ks2 (eS B')) _ (by simp [ks2];exact BY II)];simp
 refine aH ?_
 exact hQ s5 GT (N7.keepL λb o _ e=>u5.up b o e)
end
noncomputable abbrev ml(rows:List (List Int))(i j:Nat):Int:=((rows[i]?).getD []).getD j 0
theorem Lw.s0eq(lw:Lw Dr env lo Γ ps s):({Dr with gens:=s.gens}:Shared)=Dr:=by
 have h:=lw.fx.same
 have hg:s.gens=Dr.gens:=by rw [h]
 rw [hg]
theorem Lw.stk(ls:Lst K A Dr.heap env lo)(lw:Lw Dr env lo Γ ps s):StkOk [env] s.heap:=λev Ez=>by
 rw [ak.mp Ez]
 obtain⟨_,m,cm,f,g⟩:=lw.fx.fx
 exact⟨by rw [ls.hk];decide,_,m,ls.frame,f.ns⟩
theorem tX(hf:env.frame=some env.locals)(b:Nat):b∈d4 [env]↔@Eq Nat b env.locals:=by
 rw [eD hf];simp [d4]
theorem Lw.neE(ls:Lst K A Dr.heap env lo)(lw:Lw Dr env lo Γ ps s){b:Nat}{o:Obj}(q:s.heap.get? b=some o)(nd:∀es ep,o.data≠.dict es ep):¬b=env.locals:=λz=>by
 have:=dC (lw.stk ls) q nd
 exact this ((tX ls.frame b).mpr z)
theorem rL{F n:Nat}{rev:Option Bool}{k0:Tok}{p0:Pos}{kz:Nat}(r:Room A 20)
  (ls:Lst K A Dr.heap env lo) (lw:Lw Dr env lo Γ ps s) (rt:RowTok lo s.heap ll rows items T DB TK) (lam:LamAt s.heap F (gw p0) (.Tuple es kz Fy)) (Jy:F2 KItem es sp) (FL:k0≠0) (hn:rows.length=n) (Gi:2<=n) (Ex:n<64)
  (Lv:0<sp.length) (HM:sp.length<=100) (hj:∀p∈sp,p.2<3) (LA:∀r∈rows,r.length=3)
  (hQ:∀v s',Lw Dr env lo Γ ps s'->RowTok lo s'.heap ll rows items T DB TK->At lo s'.heap v (pK ((aG n).map (zP (rev.getD false) n (wf sp (ml rows)))))->Q v s'):
  wpAny (model prog w) A (call (.ref 278) (uG ll F rev k0).pos (uG ll F rev k0).kw) Q E s:=by
 obtain⟨_,m,cm,f,g⟩:=id lw.fx.fx
 have D0:=ls.frame
 let B:Heap:=jh s.heap env.locals
 have M1:Up Dr.heap B:=λb o e=>by
  have hb:¬b=env.locals:=λz=>by rw [z,f.fresh _ (.inl rfl)] at e;cases e
  rw [hU _ _ _ hb];exact f.base b o e
 have On:∀{b:Nat} {o:Obj},s.heap.get? b=some o->(∀es ep,o.data≠.dict es ep)->B.get? b=some o:=fun{b o} q nd=>by
  rw [hU _ _ _ (lw.neE ls q nd)];exact q
 have bt:Bt K B s.heap:=⟨ls.kr.up M1,xU λb o _ e=>e,dj (kG _ _)⟩
 have offB:∀L∈d4 [env],B.get? L=none:=λL hL=>by
  have:L=env.locals:=(tX D0 L).mp hL
  rw [this];exact kJ _ _
 have nb:NoneBooked B:=by
  refine ci (ls.nb) λmc h1 h2=>?_
  exact⟨mc,h1.keeps M1,h2⟩
 have lamB:LamAt B F (gw p0) (.Tuple es kz Fy):=by
  obtain⟨q,pm,K8,c',ho,c2,oc,vs,t,e2,IV,hd,hv⟩:=lam
  refine⟨q,pm,K8,c',On ho (λ_ _ z=>by cases z),c2,oc,vs,t,e2,On IV (λ_ _ z=>by rw [hd] at z;cases z),hd,hv⟩
 have tupB:∀{a:Nat} {xs:Array Value},s.heap.IsTuple a xs->B.IsTuple a xs:=fun{a xs} ⟨o,e,c,k,d⟩=>⟨o,On e (λ_ _ z=>by rw [d] at z;cases z),c,k,d⟩
 have JQ:∀i,i<n->∃r,rows[i]?=some r/\r.length=3:=λi hi=>⟨_,ae (fv hi hn),LA _ (dY _)⟩
 refine cw (A3 (n:=n) (rev:=rev) (ki:=wf sp (ml rows)) (fresh:=qv sp) (rt:=y6 sp TK) r bt lw.t ls.frames (lw.stk ls) offB nb FL rt.lst (by rw [rt.sz,hn]) Gi Ex (λi row Ga=>?_) (λi j _ _=>by simp) (λi _=>by simpa using Lv) (λi j q hi GX hf e=>?_) λv h' t' DJ sl NR Md l'=>?_)
 ·have hi:i<n:=by
   have:=(bF.mp Ga).1
   rw [rt.sz,hn] at this;exact this
  refine a3 (rt.it i (fv hi hn)) λh1 h2 h3=>?_
  rw [h1] at Ga;cases Ga
  refine ci (JQ i hi) λrr Nk OC=>?_
  obtain⟨h4,h5⟩:=rt.row i rr Nk
  refine Bh lamB Jy HM (tupB h3) λp hp=>?_
  have LB:=hj p hp
  have ha:rr[p.2]?=some rr[p.2]:=ae (fv LB OC)
  obtain⟨h6,h7⟩:=h5 p.2 _ ha
  have:ml rows i p.2=rr[p.2]:=by
   simp [ml,Nk,aw,ha]
  rw [this]
  exact⟨h6,h7,cV 0x32191403e841914 p.snd rfl LB⟩
 ·by_cases DV:i=j
  ·rw [DV]
  ·exfalso
   cases hq:sp[q]? with
   |none=>simp [qv,hq] at hf
   |some p =>
    have LB:=hj p (aF hq)
    refine ci (JQ i hi) λr1 Uu FB=>?_
    refine ci (JQ j GX) λr2 Hw Ej=>?_
    refine rt.tok i j p.2 p.2 r1 r2 Uu Hw (fv LB FB) (fv LB Ej) DV ?_
    simpa [y6,hq] using e
 ·dsimp only
  have FF:∀(b:Nat) o,¬b=env.locals->s.heap.get? b=some o->h'.get? b=some o:=λb o hb q=>sl.kept b o (by simp) (λz=>hb ((tX D0 b).mp z)) q
  have nE:∀{b:Nat},(∃o,Dr.heap.get? b=some o)->¬b=env.locals:=λhb z=>lw.noOwn hb (.inl z)
  have n280:¬(280:Nat)=env.locals:=λz=>ls.n280 (.inl z)
  have n342:¬(342:Nat)=env.locals:=λz=>ls.n342 (.inl z)
  have Lh:=lw.chg ls (h':=h') (t':=t') (g':=s.gens) (ps':=ps) (λb o _ _ hb q=>FF b o hb q) (λm n=>sl.ns n (by simp)) l' (lw.t280.at2 (λo q=>FF _ o (nE ls.o284) q) λo q=>FF _ o n280 q) (lw.t342.at2 (λo q=>FF _ o (nE ls.o344) q) λo q=>FF _ o n342 q) (by have:=lw.ga;rw [lw.fx.same];exact this)
  rw [lw.s0eq] at Lh
  have D4:@cA Nat _ env.locals lo:=f.own _ (.inl rfl)
  exact hQ v _ Lh (rt.keepL λb o hb q=>FF b o (sV D4 hb) q) (DJ.weaken lw.fx.los)
section
variable{Q:Flow->Shared->Prop}
theorem Aj{body:Expr}{Q:Value->Shared->Prop}(ls:Lst K A Dr.heap env lo)(lw:Lw Dr env lo Γ ps s)(F4:codeAmong EN ps.toList=none)(DM:closureFor fO env=pure [])(GF:defaultsOf params env=([],[]))
  (hQ:∀(F:Nat) (c':Addr) s',Lw Dr env lo Γ (ps ++ #[rawInt EN.line,rawInt EN.col,.ref c']) s'->LamAt s'.heap F params body->(∀(b:Nat) o,lo<=b->s.heap.get? b=some o->s'.heap.get? b=some o)->Q (.ref F) s'):
  wpAny (model prog w) A (eval (.Lambda params body fO EN) env) Q E s:=by
 have DH:=ls.lt
 refine CM ls.code ls.glob lw.t342 F4 (ls.kc.bm.up lw.base) DM GF λF c' h' t' hx hF hsz tk lt' lam=>?_
 obtain⟨_,m,cm,f,g⟩:=id lw.fx.fx
 have n342:¬(env.locals:Nat)=342:=λz=>ls.n342 (.inl z.symm)
 have ne:∀{b:Nat},(∃o,Dr.heap.get? b=some o)->b≠342:=λhb z=>by
  obtain⟨o,e⟩:=hb
  rw [z,ls.b342] at e;cases e
 have Lh:=lw.chg ls (h':=h') (t':=t') (g':=s.gens) (λb o _ h1 _ q=>hx b o h1 q) (λm n=>n.at' λo q=>hx _ o n342 q) tk (lw.t280.at2 (λo q=>hx _ o (ne ls.o284) q) λo q=>hx _ o (by decide) q) lt' (by have:=lw.ga;rw [lw.fx.same];exact this)
 rw [lw.s0eq] at Lh
 exact hQ F c' _ Lh lam λb o hb q=>hx b o (by show ¬@Eq Nat b 342;exact sV DH hb) q
theorem uQ{p0 kp Lb sp1 pos:Pos}{n kz kk:Nat}(r:Room A 20)
  (ls:Lst K A Dr.heap env lo) (lw:Lw Dr env lo Γ ps s) (rt:RowTok lo s.heap ll rows items T DB TK) (FM:Gl env (hO Dr.heap env lo [] Γ) "_rank" (.ref 278)) (Iq:Γ[jr]?=some (("rows":Str),Dt.is (.ref ll)))
  (hf:Fresh Γ x=true) (hl:env.kindOf x=some .local) (F4:codeAmong EN ps.toList=none) (DM:closureFor fO env=pure []) (GF:defaultsOf (gw p0) env=([],[])) (Jy:F2 KItem es sp)
  (hn:rows.length=n) (Gi:2<=n) (Ex:n<64) (Lv:0<sp.length) (HM:sp.length<=100) (hj:∀p∈sp,p.2<3) (LA:∀r∈rows,r.length=3)
  (Eb:starEach [Expr.Name "rows" p2] env=[(false,eval (.Name "rows" p2) env)])
  (F3:swapsWith (.Call (.Name "_rank" p1) [.Name "rows" p2] [⟨some "key",.Lambda (gw p0) (.Tuple es kz Fy) fO EN,kp⟩,⟨some "start",.Constant (.int 0) kk Lb,sp1⟩] pos) (some (.Name x px)) apos.line env=pure false)
  (hQ:∀(c':Addr) s',Lw Dr env lo ((x,pK ((aG n).map (zP false n (wf sp (ml rows)))))::Γ) (ps ++ #[rawInt EN.line,rawInt EN.col,.ref c']) s'->RowTok lo s'.heap ll rows items T DB TK->wpAny (model prog w) A (execs rest env) Q E s'):
  wpAny (model prog w) A (execs (.Assign [.Name x px] (.Call (.Name "_rank" p1) [.Name "rows" p2] [⟨some "key",.Lambda (gw p0) (.Tuple es kz Fy) fO EN,kp⟩,⟨some "start",.Constant (.int 0) kk Lb,sp1⟩] pos) apos::rest) env) Q E s:=by
 have hk:=ls.hk
 have X:K.In s.heap:=ls.kr.X.keeps lw.base
 refine au (bu (fN (cC FM lw.fx.fx (callWith_KW X ls.tck.rk rfl ?_ rfl Eb))) F3)
 refine ar (Ev.run (an (cu jr Iq hk)) lw.fx.fx lw.t λva h1 t1 u1 l1 Dv=>aA ?_)
 replace Dv:=At_is Dv
 subst Dv
 have ER:=lw.move ls u1 l1
 refine kws_cons (Aj ls ER F4 DM GF λF c' Ds EH lam k2=>?_)
 refine kws_cons (dl (kws_nil ?_))
 have Fh:=EH.move ls (h':=Ds.heap) (t':=Ds.toks+1) (Gr.refl _) (aD _)
 refine⟨ls.kr.X.keeps Fh.base,?_⟩
 have Hs:=(rt.keepL λb o _ q=>u1.up b o q).keepL k2
 refine rL (s:={Ds with heap:=Ds.heap,toks:=Ds.toks+1}) (rev:=none) (k0:=Ds.toks) r ls Fh Hs lam Jy (aB EH.t) hn Gi Ex Lv HM hj LA λv s4 Fp N7 DJ=>?_
 refine Fp.storeL ls (.inl DJ) hf hl λs5 GT k5=>?_
 exact hQ c' s5 GT (Fp.rowK N7 k5)
theorem xx{p0 kp Lb sp1 pos w1 w2 w3 rp:Pos}{n jw kz kk Rz:Nat}{way:Int}(r:Room A 20)
  (ls:Lst K A Dr.heap env lo) (lw:Lw Dr env lo Γ ps s) (rt:RowTok lo s.heap ll rows items T DB TK) (FM:Gl env (hO Dr.heap env lo [] Γ) "_rank" (.ref 278)) (Iq:Γ[jr]?=some (("rows":Str),Dt.is (.ref ll))) (UR:Γ[jw]?=some (("way":Str),Dt.int way))
  (hf:Fresh Γ x=true) (hl:env.kindOf x=some .local) (F4:codeAmong EN ps.toList=none) (DM:closureFor fO env=pure []) (GF:defaultsOf (gw p0) env=([],[])) (Jy:F2 KItem es sp)
  (hn:rows.length=n) (Gi:2<=n) (Ex:n<64) (Lv:0<sp.length) (HM:sp.length<=100) (hj:∀p∈sp,p.2<3) (LA:∀r∈rows,r.length=3)
  (Eb:starEach [Expr.Name "rows" p2] env=[(false,eval (.Name "rows" p2) env)])
  (F3:swapsWith (.Call (.Name "_rank" p1) [.Name "rows" p2] [⟨some "key",.Lambda (gw p0) (.Tuple es kz Fy) fO EN,kp⟩,⟨some "reverse",.Compare (.Name "way" w1) [.Lt] [.Constant (.int 0) Rz w2] w3,rp⟩,⟨some "start",.Constant (.int 0) kk Lb,sp1⟩] pos) (some (.Name x px)) apos.line env=pure false)
  (hQ:∀(c':Addr) s',Lw Dr env lo ((x,pK ((aG n).map (zP (decide (way<0)) n (wf sp (ml rows)))))::Γ) (ps ++ #[rawInt EN.line,rawInt EN.col,.ref c']) s'->RowTok lo s'.heap ll rows items T DB TK->wpAny (model prog w) A (execs rest env) Q E s'):
  wpAny (model prog w) A (execs (.Assign [.Name x px] (.Call (.Name "_rank" p1) [.Name "rows" p2] [⟨some "key",.Lambda (gw p0) (.Tuple es kz Fy) fO EN,kp⟩,⟨some "reverse",.Compare (.Name "way" w1) [.Lt] [.Constant (.int 0) Rz w2] w3,rp⟩,⟨some "start",.Constant (.int 0) kk Lb,sp1⟩] pos) apos::rest) env) Q E s:=by
 have hk:=ls.hk
 have X:K.In s.heap:=ls.kr.X.keeps lw.base
 refine au (bu (fN (cC FM lw.fx.fx (callWith_KW X ls.tck.rk rfl ?_ rfl Eb))) F3)
 refine ar (Ev.run (an (cu jr Iq hk)) lw.fx.fx lw.t λva h1 t1 u1 l1 Dv=>aA ?_)
 replace Dv:=At_is Dv
 subst Dv
 have ER:=lw.move ls u1 l1
 refine kws_cons (Aj ls ER F4 DM GF λF c' Ds EH lam k2=>?_)
 refine kws_cons (Ev.run (mB (BD way 0) (Ev.int (an (cu jw UR hk))) br) EH.fx.fx EH.t λvb h3 t3 u3 l3 p3=>?_)
 have Th:vb=.bool (decide (way<0)):=p3
 subst Th
 have Fh:=EH.move ls u3 l3
 refine kws_cons (dl (kws_nil ?_))
 have Fp:=Fh.move ls (h':=h3) (t':=t3+1) (Gr.refl _) (aD _)
 refine⟨ls.kr.X.keeps Fp.base,?_⟩
 have Hs:=((rt.keepL λb o _ q=>u1.up b o q).keepL k2).keepL λb o _ q=>u3.up b o q
 refine rL (s:={Ds with heap:=h3,toks:=t3+1}) (rev:=some (decide (way<0))) (k0:=t3) r ls Fp Hs (lam.up u3.up) Jy (aB Fh.t) hn Gi Ex Lv HM hj LA λv s5 GT N6 DJ=>?_
 refine GT.storeL ls (.inl DJ) hf hl λDI Jr k6=>?_
 exact hQ c' DI Jr (GT.rowK N6 k6)
end
noncomputable def sp1:List (Bool×Nat):=[(true,0),(false,1),(false,2)]
noncomputable def sp2:List (Bool×Nat):=[(false,1),(false,0),(true,2)]
noncomputable def sp3:List (Bool×Nat):=[(true,0),(false,1)]
noncomputable def yN(b:Bool)(sp:List (Bool×Nat))(rows:List (List Int)):List Int:=(aG rows.length).map (zP b rows.length (wf sp (ml rows)))
section
variable{Q:Flow->Shared->Prop}
noncomputable abbrev Bf(B':List Int)(v:Value)(ll:Nat):Ctx :=
 ("tied",pK (yN false sp3 (aS B')))::("two",pK (yN (decide (eS B'<0)) sp2 (aS B')))::("one",pK (yN false sp1 (aS B')))::vX B' v ll
theorem law_c{v:Value}(r:Room A 20)(ls:Lst K A Dr.heap env lo)(lw:Lw Dr env lo (vX B' v ll) #[] s)(he:∃pm cd doc,env=mM L0 pm cd doc)
  (rt:RowTok lo s.heap ll (aS B') items T DB TK)
  (hQ:∀ps s',Lw Dr env lo (Bf B' v ll) ps s'->wpAny (model prog w) A (execs ((gR (st 26)).drop 11) env) Q E s'):
  wpAny (model prog w) A (execs ((gR (st 26)).drop 8) env) Q E s:=by
 refine zD (he) λpm cd doc he=>?_
 subst he
 obtain⟨Ij,DF⟩:=ii B'
 have r3:∀r∈aS B',r.length=3:=λr hr=>by obtain⟨a,b,c,rfl⟩:=oD B' r hr;rfl
 have FM:∀{Γ},Gl (mM L0 pm cd doc) (hO Dr.heap _ lo [] Γ) "_rank" (.ref 278):=Lw.gl ls (.inl (co (by kernel_rfl))) rfl rfl rfl
 refine uQ (sp:=sp1) (jr:=6) (n:=(aS B').length) r ls lw rt FM rfl rfl rfl rfl rfl rfl (.cons (.neg _ _ _ _ _ _) (.cons (.pos _ _ _ _ _) (.cons (.pos _ _ _ _ _) .nil))) rfl (cV 0x962110922110 ((aS B').length) rfl Ij) (cV 6829212816316692 ((aS B').length) rfl DF) (by decide) (by decide) (by decide) r3 rfl rfl λc1 C' ER N8=>?_
 refine xx (sp:=sp2) (jr:=7) (jw:=4) (way:=eS B') (n:=(aS B').length) r ls ER N8 FM rfl rfl rfl rfl rfl rfl rfl (.cons (.pos _ _ _ _ _) (.cons (.pos _ _ _ _ _) (.cons (.neg _ _ _ _ _ _) .nil))) rfl (cV 0x962110922110 ((aS B').length) rfl Ij) (cV 6829212816316692 ((aS B').length) rfl DF) (by decide) (by decide) (by decide) r3 rfl rfl λc2 Ds EH Hs=>?_
 refine uQ (sp:=sp3) (jr:=8) (n:=(aS B').length) r ls EH Hs FM rfl rfl rfl rfl rfl rfl (.cons (.neg _ _ _ _ _ _) (.cons (.pos _ _ _ _ _) .nil)) rfl (cV 0x962110922110 ((aS B').length) rfl Ij) (cV 6829212816316692 ((aS B').length) rfl DF) (by decide) (by decide) (by decide) r3 rfl rfl λc3 s3 Fh Jq=>?_
 exact hQ _ s3 Fh
end
theorem qf:∀{vs:List Value} {ns:List Int},AtAll lo h vs (ns.map .int)->IntsAre vs ns
 |[],[],_=>.nil
 |[],_::_,x=>by simp [aN,aC,aL,aR] at x
 |_::_,[],x=>by simp [aN,aC,aL,aR] at x
 |v::vs,n::ns,x=>by
  refine ci (At_int.mp x.1) λt _ Dz=>?_;subst Dz
  exact .cons n t (qf x.2)
theorem od{pos cp:Pos}{ns:List Int}(hx:Ev w A env G (.Name x px) (tO (.pl (ns.map .int))))
  (Fl:(apos.endLine==pos.line)=true) (Eb:starEach [Expr.Constant (.int c) k cp] env=[(false,eval (.Constant (.int c) k cp) env)]):
  Ev w A env G (.Call (.Attribute (.Name x px) "count" apos) [.Constant (.int c) k cp] [] pos) (tV (pI (ns.count c:Nat))):=by
 intro s Q E g t hQ
 refine aa (hx s _ _ g t λvk h1 t1 u1 l1 Dv=>?_)
 refine aa (ez ?_)
 have GP:methodCallForm ([Expr.Constant (.int c) k cp].length+([]:List Keyword).length) (backTo pos (starEach [Expr.Constant (.int c) k cp] env)) (backToKw pos (keywordEach [] env))=true:=by rfl
 have Ea:methodCallPos true (.Name x px) env apos pos=pure pos:=by unfold methodCallPos;simp [Fl]
 refine fL (At.pl.mp Dv) λl items Dz _ hl Dw=>?_;subst Dz
 obtain⟨n,ho⟩:=id hl
 refine aa (bp (getMethod_list_of PySem.F.slot_list_count PySem.F.type_list_count hl.isList ⟨_,ho,rfl⟩ ?_))
 refine aa (cD Ea ?_)
 have hi:=qf Dw
 refine PySem.P.count_list (dl (k:=k) (pos:=cp) ⟨items,n,isInt c,ho,λy hy=>eq_isInt c t1 hi y (by simpa using hy),?_⟩)
 rw [countP_isInt c hi]
 exact hQ _ h1 (t1+1+1) u1 (b8 (b8 l1)) ⟨_,ic _,rfl⟩
theorem uc{rs:List Dt}{c:Expr}{pos:Pos}(hh:A.handled=none)(hi:Ev w A env G iter (tO (.lst rs)))
  (test:∀(C:Nat) (hc:Heap) (i:Nat) (r:Dt),rs[i]?=some r->G.p hc->hc.objs.size<=C ->
   ∃Good:Cx->Prop,AsgOk w A (.Name x px) (gz scope cl C env) C (nC scope.names) hc (λv h=>∃d,rs[i]?=some d/\At 0 hc v d) Good/\∀G':Cx,Good G'->(∀h,G'.p h->Up hc h)->EvT w A (gz scope cl C env) G' c false)
  (DM:closureFor scope env=pure cl)
  (DK:scope.kind=.function) (DP:∀y∈scope.names,y.2=.local->scope.names.lookup y.1=some .local)
  (hs:∀x,foldedSetIterable iter env x=pure x):
  Ev w A env G (.ListComp elt [⟨.Name x px,iter,[c],0⟩] scope pos) (tN (.lst [])):=by
 intro s Q E g t hQ
 refine eA (use:=none) rfl hs DM DK DP (hi s _ _ g t λv Dy t1 G5 l1 DJ=>?_)
 refine fL (At.lst.mp DJ) λa1 items Dz _ hl Dw=>?_;subst Dz
 have Du:=Dw.length
 have g1:G.p Dy:=G.up G5.up g
 have LQ:@cA Nat _ a1 Dy.objs.size:=iG hl
 refine cT hl ?_
 generalize Gx:Dy.objs.size=It
 generalize Hm:Dy.push {cls:=.type "list_iterator",data:=.fields #[.ref a1,.int 0 0]}=H2
 have z2:H2.objs.size=It+1:=by rw [<-Hm,ao,Gx]
 have e2:H2.get? It=some {cls:=.type "list_iterator",data:=.fields #[.ref a1,.int 0 0]}:=by rw [<-Hm,<-Gx];exact am _ rfl
 have Gd:Up Dy H2:=by rw [<-Hm];exact Up.push _ _
 refine ce (oL λH4 Kt I9 Q8=>?_)
 generalize Pc:H2.push {cls:=.type "list",dict:=none,data:=.seq ([]:List Value).toArray}=H3 at Kt I9 Q8 ⊢
 have z3:H3.objs.size=It+2:=by rw [<-Pc,ao,z2]
 have e3:H3.get? (It+1)=some {cls:=.type "list",dict:=none,data:=.seq ([]:List Value).toArray}:=by rw [<-Pc,<-z2];exact am _ rfl
 have QZ:Up H2 H3:=by rw [<-Pc];exact Up.push _ _
 rw [z2]
 generalize hC:H3.objs.size=C at Kt I9 Q8 ⊢
 generalize hk:nC scope.names=k at *
 have hCI:C=It+2:=y_524 hC z3
 have old:Up Dy H4:=(Gd.trans QZ).trans Kt
 have hD4:H4.get? (It+1)=some {cls:=.type "list",dict:=none,data:=.seq ([]:List Value).toArray}:=Kt _ _ e3
 have hI4:H4.IsListIter It a1 0:=⟨_,Kt _ _ (QZ _ _ e2),rfl,rfl⟩
 have loop:codeAny (model prog w) A (.compLoop (.ListComp elt [⟨.Name x px,iter,[c],0⟩] scope pos) 0 (.ref It) (.ref (It+1)) (gz scope cl C env)) (compPost (model prog w) A E none Q (.ref (It+1)) C) {s with heap:=H4,toks:=t1}:=by
  refine codeAny_compLoop_tests (λm s'=>∃i h' tk,m=items.size+1-i/\i<=items.size/\s'={s with heap:=h',toks:=tk}/\h'.IsListIter It a1 i/\CF C k h'/\Up Dy h'/\h'.get? (It+1)=some {cls:=.type "list",dict:=none,data:=.seq ([]:List Value).toArray}/\t1<=tk) ?_ (items.size+1)
   ⟨0,H4,t1,rfl,bY _,rfl,hI4,I9,old,hD4,ag _⟩ (λ_=>rfl)
  rintro m s' ⟨i,h',tk,rfl,E0,rfl,hit,cf,up,hD,DU⟩
  have Et:h'.IsList a1 items:=cU hl λo=>up _ o
  by_cases DH:i<items.size
  ·have hv:items[i]?=some items[i]:=aY DH
   obtain⟨r,hr⟩:∃r,rs[i]?=some r:=⟨_,ae (fq DH Du)⟩
   refine eY hit Et hv λh5 QH S6=>?_
   have k5:∀(b:Nat) o,¬b=It->h'.get? b=some o->h5.get? b=some o:=λb o hb e=>S6.extBut b o hb e
   have Ks:Up Dy h5:=λb o e=>k5 b o (by have:=iF e;exact bX 0xba18a914b91e b Dy.objs.size It rfl this Gx) (up b o e)
   have PA:CF C k h5:=cf.keeps λb o h1 _ e=>k5 b o (dh 0x9b18221c2b1ca910ca1a C b H3.objs.size It rfl h1 z3 hC) e
   refine ci (test C Dy i r hr g1 (dh 0xcb18221a2b1ca918c910 Dy.objs.size It H3.objs.size C rfl Gx z3 hC)) λGood Kd MI=>?_
   refine Kd items[i] {s with heap:=h5,toks:=tk} _ _ Ks PA (ad (ad t l1) DU) ⟨r,hr,Dw.get (i:=i) (by rw [b9];exact hv) hr⟩ λG' h6 t6 good g6 SI VG Mz l6=>?_
   dsimp only at Mz l6
   refine wpAny_tests_one (MI G' good SI _ _ _ g6 (ad (ad (ad t l1) DU) l6) λh7 t7 u7 l7=>?_)
   dsimp only at u7 l7
   rw [if_neg (by decide)]
   have Oj:∀(b:Nat) o,¬(C<=b/\b<=C+k)->h5.get? b=some o->h7.get? b=some o:=λb o hb e=>u7.up b o (Mz b o hb e)
   refine⟨items.size+1-(i+1),y_92 E0,i+1,h7,t7,rfl,DH,rfl,?_,VG.keeps λb o _ _ e=>u7.up b o e,λb o e=>Oj b o (by have:=iF e;exact λu1=>gk 0xdc18221b2c1cba18a9149d12 b Dy.objs.size It H3.objs.size C rfl this Gx z3 hC u1.1) (Ks b o e),Oj _ _ (λu1=>bX 0x172304434523911a2b12 H3.objs.size It C rfl z3 hC u1.1) (k5 _ _ (cV 319918618 It rfl) hD),ab DU (ab l6 l7)⟩
   refine kF (QH) λo e c d=>?_
   exact⟨o,Oj _ _ (λu1=>bX 0xb918221a291cab12 H3.objs.size It C rfl z3 hC u1.1) e,c,d⟩
  ·have Nz:i=items.size:=vC E0 DH
   subst Nz
   refine fc hh hit Et (du (ag _)) λh5 o5 k5 q5 sz5=>?_
   obtain⟨⟨m,hm⟩,_⟩:=cf
   have UL:h5.Ns C m:=hm.at' λo e=>k5 C o (bX 0xb918221a291cab1a H3.objs.size It C rfl z3 hC) e
   refine⟨m,UL,λDN HN=>?_⟩
   have kC:∀(b:Nat) o,¬@Eq Nat b C->h5.get? b=some o->DN.get? b=some o:=λb o hb e=>HN.extBut b o hb e
   have hD'':=kC (It+1) _ (bX 0x1723044345239711a21e H3.objs.size It C rfl z3 hC) (k5 _ _ (cV 319918618 It rfl) hD)
   have Pe:@cA Nat _ (It+1) DN.objs.size:=iF hD''
   have z1:=G5.sz
   refine hQ _ DN tk ⟨λb o e=>?_,dh 0x1383196215119214ab10 It DN.objs.size s.heap.objs.size Dy.objs.size rfl Pe z1 Gx⟩ (ab l1 DU) (At.lst.mpr ⟨It+1,#[],rfl,bX 0x17431522111b2910 s.heap.objs.size Dy.objs.size It rfl z1 Gx,⟨_,hD'',rfl,_,rfl⟩,by simp [aN,aC,aL,aR]⟩)
   have e1:=G5.up b o e
   have hb:=iF e1
   exact kC b o (gk 0xdc18221b2c1cba18a914d91e b Dy.objs.size It H3.objs.size C rfl hb Gx z3 hC) (k5 b o (bX 0xba18a914b91e b Dy.objs.size It rfl hb Gx) (up b o e1))
 exact kN loop (wpAny_pyIter_listiter hI4 loop)
theorem ma(i z:Int)(hi:i.natAbs<2^50)(hz:(i*z).natAbs<2^53):OpR w A .Mult (pI i) (pF z) (pF (i*z)):=by
 rintro s _ _ Q E ht ⟨t,_,rfl⟩ ⟨x,u,_,hx,rfl⟩ hQ
 have h0:=FQ.ofInt (i:=i) (gK hi (by decide))
 refine AutoFloatOps.mul_if_1 (by rw [h0.fin.1];decide) ?_
 exact hQ _ _ (aD _) ⟨_,_,aB ht,h0.mul hx (by rw [dF]) hz,rfl⟩
theorem zj(i z:Int)(hi:i.natAbs<2^50)(hz:z.natAbs<2^50):OpR w A .Sub (pI i) (pF z) (pF (2*i-z)):=by
 rintro s _ _ Q E ht ⟨t,_,rfl⟩ ⟨x,u,_,hx,rfl⟩ hQ
 have h0:=FQ.ofInt (i:=i) (gK hi (by decide))
 refine lh (by rw [h0.fin.1];decide) ?_
 exact hQ _ _ (aD _) ⟨_,_,aB ht,h0.sub hx (Ah (xh hi) (aJ hz)),rfl⟩
theorem uL(z i:Int)(hi:i.natAbs<2^50)(hz:z.natAbs<2^50):OpR w A .Sub (pF z) (pI i) (pF (z-2*i)):=by
 rintro s _ _ Q E ht ⟨x,u,_,hx,rfl⟩ ⟨t,_,rfl⟩ hQ
 have h0:=FQ.ofInt (i:=i) (gK hi (by decide))
 refine AutoFloatOps.sub_fi_1 (by rw [h0.fin.1];decide) ?_
 exact hQ _ _ (aD _) ⟨_,_,aB ht,hx.sub h0 (Ah (aJ hz) (xh hi)),rfl⟩
theorem uN(z i:Int)(hi:i.natAbs<2^50)(hz:z.natAbs<2^50):OpR w A .Add (pF z) (pI i) (pF (z+2*i)):=by
 rintro s _ _ Q E ht ⟨x,u,_,hx,rfl⟩ ⟨t,_,rfl⟩ hQ
 have h0:=FQ.ofInt (i:=i) (gK hi (by decide))
 refine AutoFloatOps.add_fi_1 (by rw [h0.fin.1];decide) ?_
 exact hQ _ _ (aD _) ⟨_,_,aB ht,hx.add h0 (CK (aJ hz) (xh hi)),rfl⟩
theorem uo(a b:Int):(some (compare a b)==some Ordering.eq)=decide (a=b):=by
 rcases fo a b with h|h|h
 ·rw [jL.mpr h,decide_eq_false (by exact eW 2836769055 a b rfl h)];rfl
 ·rw [h];simp
 ·rw [jM.mpr h,decide_eq_false (by exact eW 2836765211 b a rfl h)];rfl
theorem yp(z i:Int):CmR w A .Eq (pF z) (pI i) (decide (z=2*i)):=by
 rintro s _ _ Q E ht ⟨x,u,_,hx,rfl⟩ ⟨t,_,rfl⟩ hQ
 refine PyProof.Rows.eq_fi ?_
 rw [hx.cmpInt,uo];exact hQ
theorem BB(z i:Int):CmR w A .NotEq (pF z) (pI i) (!decide (z=2*i)):=by
 rintro s _ _ Q E ht ⟨x,u,_,hx,rfl⟩ ⟨t,_,rfl⟩ hQ
 refine PyProof.Rows.ne_fi ?_
 rw [hx.cmpInt]
 have:(some (compare z (2*i)) != some Ordering.eq)=!(some (compare z (2*i))==some Ordering.eq):=rfl
 rw [this,uo];exact hQ
theorem yq(z u:Int):CmR w A .Eq (pF z) (pF u) (decide (z=u)):=by
 rintro s _ _ Q E ht ⟨x,t,_,hx,rfl⟩ ⟨y,t',_,hy,rfl⟩ hQ
 refine AutoFloatOps.eq_0 ?_
 rw [hx.cmp hy,uo];exact hQ
theorem zy{a b c:Expr}{pos:Pos}(ha:EvT w A env G a false)(hb:EvT w A env G b false)(hc:EvT w A env G c false):EvT w A env G (.BoolOp .Or [a,b,c] pos) false:=by
 intro s Q E g t hQ
 refine isTrue_or (ha s _ _ g t λh1 t1 u1 l1=>?_)
 have g1:=G.up u1.up g
 have Q6:=ad t l1
 refine isTrue_or (hb _ _ _ g1 Q6 λh2 t2 u2 l2=>?_)
 refine isTrue_or (hc _ _ _ (G.up u2.up g1) (ad Q6 l2) λh3 t3 u3 l3=>?_)
 exact isTrue_or_nil (hQ h3 t3 ((u1.trans u2).trans u3) (ab l1 (ab l2 l3)))
theorem v3{pos:Pos}(l:Gl env G "isinstance" (.builtin "isinstance"))(lf:Gl env G "float" (.type "float"))(he:Ev w A env G e (tV (pF z)))
  (Eb:starEach [e,.Name "float" p2] env=[(false,eval e env),(false,eval (.Name "float" p2) env)]):Ev w A env G (.Call (.Name "isinstance" p) [e,.Name "float" p2] [] pos) (tV (pB true)):=by
 intro s Q E g t hQ
 refine aK (cC l g ?_)
 rw [Eb]
 refine bV rfl (aE (ar (he s _ _ g t λva h1 t1 u1 l1 Dv=>?_)))
 refine ar (cC lf (G.up u1.up g) (aA ?_))
 refine uh (Dv) λx u _ _ Pr=>?_;subst Pr
 exact IsiPair.float_float (hQ _ h1 t1 u1 l1 rfl)
section
variable{Q:Flow->Shared->Prop}
theorem oN{pos HU:Pos}{P:Heap->Nat->Value->Heap->Prop}(rs:List Dt)(cl:List (Str×Addr))(ls:Lst K A Dr.heap env lo)(lw:Lw Dr env lo Γ ps s)(hsz:rs.length<=sizeLine)
  {Lk:Prop} (hi:EvSrc w A env (hO Dr.heap env lo [] Γ) Lk iter target rs.length P) (he:EltOk w A env (hO Dr.heap env lo [] Γ) elt target scope cl P rs) (hf:Fresh Γ x=true)
  (DM:closureFor scope env=pure cl)
  (DK:scope.kind=.function) (DP:∀y∈scope.names,y.2=.local->scope.names.lookup y.1=some .local)
  (hs:∀x,foldedSetIterable iter env x=pure x)
  (hl:env.kindOf x=some .local)
  (F3:swapsWith (.ListComp elt [⟨target,iter,[],0⟩] scope HU) (some (.Name x px)) pos.line env=pure true)
  (hQ:∀s',Lw Dr env lo ((x,.lst rs)::Γ) ps s'->Kp env s.heap s'.heap->wpAny (model prog w) A (execs rest env) Q E s'):wpAny (model prog w) A (execs (.Assign [.Name x px] (.ListComp elt [⟨target,iter,[],0⟩] scope HU) pos::rest) env) Q E s :=
 wN rs cl lw.fx hsz hi he hf DM DK DP hs ls.hk hl F3 λs' D6 k=>hQ s' (lw.next ls D6 k) k
end
noncomputable def dp(m:List (List Int)):List Int:=m.map λr=>((r.count 1:Nat):Int)
noncomputable def pC(m:List (List Int)):List Int:=m.map λr=>2*((r.count 1:Nat):Int)+((r.count 0:Nat):Int)-1
noncomputable abbrev m1(B':List Int):List (List Int):=de ks1 (aS B')
noncomputable abbrev m2(B':List Int):List (List Int):=de (ks2 (eS B')) (aS B')
noncomputable abbrev m3(B':List Int):List (List Int):=de ks3 (aS B')
noncomputable abbrev z1(B':List Int):List Int:=yN false sp1 (aS B')
noncomputable abbrev z2(B':List Int):List Int:=yN (decide (eS B'<0)) sp2 (aS B')
noncomputable abbrev z3(B':List Int):List Int:=yN false sp3 (aS B')
theorem qD(ks:List (Int×Int))(rows:List (List Int)):(de ks rows).length=rows.length:=by simp [de]
theorem wn(b:Bool)(sp:List (Bool×Nat))(rows:List (List Int)):(yN b sp rows).length=rows.length:=by simp [yN]
section
variable{Q:Flow->Shared->Prop}
noncomputable abbrev oU(B':List Int)(v:Value)(ll:Nat):Ctx :=
 ("before",dInts (dp (m2 B')))::("ahead",dInts (dp (m1 B')))::Bf B' v ll
theorem law_d{v:Value}(r:Room A 20)(ls:Lst K A Dr.heap env lo)(lw:Lw Dr env lo (Bf B' v ll) ps s)(he:∃pm cd doc,env=mM L0 pm cd doc)
  (h1:z1 B'=(dp (m1 B')).map (2*·)) (h2:z2 B'=(dp (m2 B')).map (2*·)) (h3:z3 B'=pC (m3 B')) (bz:∀z∈z3 B',z.natAbs<2^20)
  (hQ:∀ps s',Lw Dr env lo (oU B' v ll) ps s'->wpAny (model prog w) A (execs ((gR (st 26)).drop 15) env) Q E s'):
  wpAny (model prog w) A (execs ((gR (st 26)).drop 11) env) Q E s:=by
 obtain⟨pm,cd,doc,he⟩:=he
 subst he
 have hk:=ls.hk
 have Ii:sizeLine=16777216:=by decide
 obtain⟨Ij,DF⟩:=ii B'
 have l1:(m1 B').length=_:=qD ks1 (aS B')
 have l2:(m2 B').length=_:=qD (ks2 (eS B')) (aS B')
 have l3:(m3 B').length=_:=qD ks3 (aS B')
 have M8:(z1 B').length=_:=wn false sp1 (aS B')
 have Ro:(z2 B').length=_:=wn (decide (eS B'<0)) sp2 (aS B')
 have Rn:(z3 B').length=_:=wn false sp3 (aS B')
 have u0:A.units+1<cLine:=by have:=r.units;exact y_74 this
 have JS:∀{m:List (List Int)} {hc:Heap} {i:Nat} {row:List Int} {v:Value},m[i]?=some row->(∃d,(m.map λr=>Dt.pl (r.map .int))[i]?=some d/\At 0 hc v d)->At 0 hc v (.pl (row.map .int)):=fun{m hc i row v} hx ⟨d,D1,DJ⟩=>by
  rw [ah,hx] at D1;cases D1;exact DJ
 refine oN (Lk:=True) (P:=λhc i v _=>∃d,((m1 B').map λr=>Dt.pl (r.map .int))[i]?=some d/\At 0 hc v d) ((dp (m1 B')).map .int) [] ls lw (by simp [dp];exact nk DF l1) ?_ ?_ rfl rfl rfl (by decide) (by intro _;rfl) rfl rfl λC' ER k1=>?_
 ·rw [show ((dp (m1 B')).map Dt.int).length=((m1 B').map λr=>Dt.pl (r.map .int)).length by simp [dp]]
  exact dD ls.hand (an (cu 5 rfl hk))
 ·intro C hc i r' hr gp hC
  simp only [dp,aP,ah,aq,bM] at hr
  obtain⟨row,hx,rfl⟩:=hr
  exact⟨_,di (d:=.pl (row.map .int)) hC (λv h hh=>JS hx hh) rfl rfl rfl,λG' good up=>Ev.nint (od (an good) rfl rfl)⟩
 refine oN (Lk:=True) (P:=λhc i v _=>∃d,((m2 B').map λr=>Dt.pl (r.map .int))[i]?=some d/\At 0 hc v d) ((dp (m2 B')).map .int) [] ls ER (by simp [dp];exact nk DF l2) ?_ ?_ rfl rfl rfl (by decide) (by intro _;rfl) rfl rfl λDs EH k2=>?_
 ·rw [show ((dp (m2 B')).map Dt.int).length=((m2 B').map λr=>Dt.pl (r.map .int)).length by simp [dp]]
  exact dD ls.hand (an (cu 5 rfl hk))
 ·intro C hc i r' hr gp hC
  simp only [dp,aP,ah,aq,bM] at hr
  obtain⟨row,hx,rfl⟩:=hr
  exact⟨_,di (d:=.pl (row.map .int)) hC (λv h hh=>JS hx hh) rfl rfl rfl,λG' good up=>Ev.nint (od (an good) rfl rfl)⟩
 have scF:∀l:List Int,∀d∈l.map Dt.flt,Scal d=true:=by intro l d hd;obtain⟨i,_,rfl⟩:=bK.mp hd;rfl
 have scF2:∀l m:List Int,∀d∈l.map Dt.flt ++ m.map Dt.flt,Scal d=true:=by intro l m d hd;rcases eh.mp hd with h|h;exact scF _ _ h;exact scF _ _ h
 refine xp (b:=false) ls EH (zy ((iS (yi (aJ ‹_›) (z1 B') (dp (m1 B'))) (an (cu 4 rfl hk)) (an (cu 1 rfl hk))).cast (by rw [h1];simp)) ((iS (yi (aJ ‹_›) (z2 B') (dp (m2 B'))) (an (cu 3 rfl hk)) (an (cu 0 rfl hk))).cast (by rw [h2];simp))
  ((iS (Dj (aJ ‹_›) [] []) (Ev.old (uc (rs:=((z1 B').map .flt ++ (z2 B').map .flt) ++ (z3 B').map .flt) (cl:=[]) ls.hand (Ev.old (ud (Ev.old (ud (an (cu 4 rfl hk)) (an (cu 3 rfl hk)) (scF2 _ _) (by simp;exact bX 0x13631343184324100000051ba210 ((aS B').length) ((z1 B').length) ((z2 B').length) rfl DF M8 Ro))) (an (cu 2 rfl hk)) (by rw [<-fU];exact scF2 _ _) (by simp;exact y_256 DF M8 Ro Rn))) ?_ rfl rfl (by decide) (by intro _;rfl))) (Ev.old (mK ec))).cast rfl)) λs3 Fh u3=>?_
 ·intro C hc i r' hr gp hC
  obtain⟨z,rfl⟩:∃z,r'=.flt z:=by
   rw [<-fU,<-fU,ah,aq] at hr
   obtain⟨z,_,rfl⟩:=hr
   exact⟨z,rfl⟩
  refine⟨_,di (d:=.flt z) hC (λv h z9=>ci z9 λd D1 DJ=>?_) rfl rfl rfl,λG' good up=>(lN (mu (v3 (Gl.within (gvF ls.kr.kn (.inr (co (by kernel_rfl)))) gp up) (Gl.within (gvF ls.kr.kn (.inr (co (by kernel_rfl)))) gp up) (Ev.flt (an good)) rfl))).cast rfl⟩
  rw [hr] at D1;cases D1;exact DJ
 refine aH ?_
 refine xp (b:=false) ls Fh ((iS (yi (aJ ‹_›) ((z3 B').map (2*·)) (pC (m3 B'))) (Ev.old ?_) (Ev.old ?_)).cast ?_) λs4 Fp u4=>?_
 ·refine d8 (Lk:=True) (((z3 B').map (2*·)).map .flt) [] (λhc i v _=>∃d,((z3 B').map Dt.flt)[i]?=some d/\At 0 hc v d) (by simp;exact nk DF Rn) ?_ ?_ rfl rfl (by decide) (by intro _;rfl)
  ·rw [show (((z3 B').map (2*·)).map Dt.flt).length=((z3 B').map Dt.flt).length by simp]
   exact dD ls.hand (an (cu 2 rfl hk))
  ·intro C hc i r' hr gp hC
   simp only [aP,ah,aq,bM] at hr
   obtain⟨z,hx,rfl⟩:=hr
   have hb:=bz z (aF hx)
   refine⟨_,di (d:=.flt z) hC (λv h z9=>ci z9 λd D1 DJ=>?_) rfl rfl rfl,λG' good up=>Ev.nflt (bH (ma 2 z (by decide) (y_119 hb)) br (Ev.flt (an good)))⟩
   rw [ah,hx] at D1;cases D1;exact DJ
 ·refine d8 (Lk:=True) ((pC (m3 B')).map .int) [] (λhc i v _=>∃d,((m3 B').map λr=>Dt.pl (r.map .int))[i]?=some d/\At 0 hc v d) (by simp [pC];exact nk DF l3) ?_ ?_ rfl rfl (by decide) (by intro _;rfl)
  ·rw [show ((pC (m3 B')).map Dt.int).length=((m3 B').map λr=>Dt.pl (r.map .int)).length by simp [pC]]
   exact dD ls.hand (an (cu 5 rfl hk))
  ·intro C hc i r' hr gp hC
   simp only [pC,aP,ah,aq,bM] at hr
   obtain⟨row,hx,rfl⟩:=hr
   exact⟨_,di (d:=.pl (row.map .int)) hC (λv h hh=>JS hx hh) rfl rfl rfl,λG' good up=>Ev.nint (bH (gV _ 1) (bH (je _ _) (bH (eU 2 _ (by decide)) br (od (an good) rfl rfl)) (od (an good) rfl rfl)) br)⟩
 ·rw [h3];simp
 refine aH ?_
 exact hQ ps s4 Fp
end
noncomputable def tnM(a b:List (List Int)):List (List Int):=(aG a.length).map λi=>(aG a.length).map λj=>if tt a i j != tt b i j then 1 else 0
noncomputable def Df(m:List (List Int)):List Int:=m.map λr=>r.sum
noncomputable def fewL(n:Int)(d:List Int):List Int:=d.map λx=>n-1-x
noncomputable abbrev vL(B':List Int):List (List Int):=tnM (m1 B') (m2 B')
noncomputable abbrev zG(B':List Int):List Int:=Df (vL B')
noncomputable abbrev zu(B':List Int):List Int:=fewL (aS B').length (zG B')
noncomputable abbrev prS(B':List Int):Int:=(zG B').sum.fdiv 2
noncomputable abbrev otS(B':List Int):Int:=(zu B').sum.fdiv 2
noncomputable abbrev thS(B':List Int):List Int:=thK (vL B') (vL B').length
noncomputable abbrev whS(B':List Int):Int:=prS B'+otS B'+(thS B').sum
theorem nr(a b:List (List Int)):(tnM a b).length=a.length:=by simp [tnM]
theorem ql{a b:List (List Int)}(hi:i<a.length):(tnM a b)[i]?=some ((aG a.length).map λj=>if tt a i j != tt b i j then 1 else 0):=by
 simp [tnM,ah,cs,hi]
theorem wD{a b:List (List Int)}:∀r∈tnM a b,r.length=a.length/\∀x∈r,0<=x/\x<=1:=λr hr=>by
 simp only [tnM,List.mem_map] at hr
 obtain⟨i,_,rfl⟩:=hr
 refine⟨by simp,λx hx=>?_⟩
 obtain⟨j,_,rfl⟩:=bK.mp hx
 split<;>lia
theorem wC(a b:List (List Int)):Mat01 (tnM a b):=by
 refine⟨λi hi=>?_,λi j=>?_⟩
 ·rw [nr] at hi ⊢
  exact⟨_,ql hi,by simp⟩
 ·unfold tt
  by_cases hi:i<a.length
  ·rw [show (tnM a b).getD i []=_ by rw [aw,ql hi]]
   by_cases hj:j<a.length
   ·simp [aw,ah,cs,hj]
    exact Classical.em _
   ·simp [aw,ah,cs,hj]
  ·rw [show (tnM a b).getD i []=[] by rw [aw,cS (by rw [nr];exact nj hi)];rfl];simp
theorem Bz{a b:List (List Int)}{n:Nat}(h:a.length<=n):∀x∈Df (tnM a b),0<=x/\x<=(n:Int):=λx hx=>by
 obtain⟨r,hr,rfl⟩:=bK.mp hx
 obtain⟨h1,h2⟩:=wD r hr
 obtain⟨h3,h4⟩:=wJ (by decide) r h2
 exact y_585 h3 h h4 h1
theorem BG{c:List Int}{v B:Int}(h:∀x∈c,0<=x/\x<=B)(hB:0<=B):∀x∈zO c v,0<=x/\x<=B+1:=λx hx=>by
 rcases List.mem_or_eq_of_mem_set hx with hx|rfl
 ·have:=h x hx;exact y_582 this
 ·rw [aw]
  cases hg:c[v.toNat]? with
  |none=>simp;exact cN 0x24044623251111 B rfl hB
  |some y=>have:=h y (aF hg);simp;exact y_576 this
theorem zX(m:List (List Int))(j k:Nat){B:Int}(hB:0<=B):∀i c,(∀x∈c,0<=x/\x<=B)->∀x∈thI m j k i c,0<=x/\x<=B+i
 |0,c,h=>by simpa [ti0,tiS] using h
 |i+1,c,h=>λx hx=>by
  have:=BG (zX m j k hB i c h) (lL 0x9011197920111 i B rfl hB) x hx
  exact y_584 this
theorem zW(m:List (List Int))(k:Nat){B:Int}(hB:0<=B):∀j c,j<=12->(∀x∈c,0<=x/\x<=B)->∀x∈thJ m k j c,0<=x/\x<=B+12*j
 |0,c,_,h=>by simpa [tj0,tjS] using h
 |j+1,c,hj,h=>λx hx=>by
  have:=zX m j k (lL 0x9011197c24920111 j B rfl hB) j _ (zW m k hB j c (aJ ‹_›) h) x hx
  exact y_583 hj this
theorem uw(m:List (List Int)):∀k,k<=12->∀x∈thK m k,0<=x/\x<=144*(k:Int)
 |0,_=>by simp [tk0,tkS]
 |k+1,hk=>λx hx=>by
  have:=zW m k (cV 1299499450641 k rfl) k _ (aJ ‹_›) (uw m k (aJ ‹_›)) x hx
  exact y_581 hk this
theorem C7{y z:Str}{m:List (List Int)}{e:Int}{pz ps pos:Pos}(hr:m[i]?=some r)(he:r[j]?=some e)(bi:i<1000)(bj:j<1000)(lx:Ev w A env G (.Name x px) (tO (sP m)))(ly:Ld env G y (.int i))(lz:Ld env G z (.int j))
  (dy:(y==("__debug__":Str))=false) (dz:(z==("__debug__":Str))=false):
  Ev w A env G (.Subscript (.Subscript (.Name x px) (.Name y py) ps) (.Name z pz) pos) (tV (pI e)):=
 Ev.int (jN (jN (d:=dInts r) lx (Ev.int (an ly dy)) nq (cV 0x3e8419148000000000000000819715 i rfl bi) (by simp [hr]) (by intro _ _;rfl)) (Ev.int (an lz dz)) nq (cV 0x3e8419148000000000000000819715 j rfl bj) (by simp [he]) (by intro _ _;rfl))
section
variable{Q:Flow->Shared->Prop}
theorem xV{m:List (List Int)}(r:Room A 3)(hm:Mat01 m)(hsz:m.length<=100):Ct1 w A Kn 335 (sP m) (dInts (thK m m.length)):=
 λ_ _ _ _ kn t h1 hQ=>wF r kn t h1 hm (ab hsz (show 100<=sizeLine by decide)) hQ
noncomputable abbrev Ap(B':List Int)(v:Value)(ll:Nat):Ctx:=("turned",sP (vL B'))::oU B' v ll
noncomputable abbrev xw(B':List Int)(v:Value)(ll:Nat):Ctx:=("degrees",dInts (zG B'))::Ap B' v ll
noncomputable abbrev Ao(B':List Int)(v:Value)(ll:Nat):Ctx:=("fewer",dInts (zu B'))::xw B' v ll
noncomputable abbrev An(B':List Int)(v:Value)(ll:Nat):Ctx:=("pairs",.int (prS B'))::Ao B' v ll
noncomputable abbrev Am(B':List Int)(v:Value)(ll:Nat):Ctx:=("others",.int (otS B'))::An B' v ll
noncomputable abbrev Al(B':List Int)(v:Value)(ll:Nat):Ctx:=("threes",dInts (thS B'))::Am B' v ll
noncomputable abbrev uP(B':List Int)(v:Value)(ll:Nat):Ctx:=("whole",.int (whS B'))::Al B' v ll
theorem rI(hi:i<rows.length)(hj:j<rows.length):∃r,(de ks rows)[i]?=some r/\r[j]?=some (tt (de ks rows) i j):=by
 refine⟨_,by simp only [de,ah,ae hi,dv];rfl,?_⟩
 simp [tt,de,aw,ah,ae hi,ae hj]
theorem law_e{v:Value}(r:Room A 20)(ls:Lst K A Dr.heap env lo)(lw:Lw Dr env lo (oU B' v ll) ps s)(he:∃pm cd doc,env=mM L0 pm cd doc)
  (hQ:∀s',Lw Dr env lo (uP B' v ll) ps s'->wpAny (model prog w) A (execs ((gR (st 26)).drop 22) env) Q E s'):
  wpAny (model prog w) A (execs ((gR (st 26)).drop 15) env) Q E s:=by
 obtain⟨pm,cd,doc,he⟩:=he
 subst he
 have hk:=ls.hk
 have Ii:sizeLine=16777216:=by decide
 obtain⟨Ij,DF⟩:=ii B'
 have l1:(m1 B').length=_:=qD ks1 (aS B')
 have lt:(vL B').length=(aS B').length:=(nr _ _).trans l1
 have Ig:(zG B').length=(aS B').length:=by rw [<-lt];simp [Df]
 have Js:(zu B').length=(aS B').length:=by rw [<-Ig];simp [fewL]
 generalize hn:(aS B').length=n at *
 have FM:∀{Γ},∀h,(hO Dr.heap (mM L0 pm cd doc) lo [] Γ).p h->GV h "range" (.type "range"):=gvF ls.kr.kn (.inr (co (by kernel_rfl)))
 have glRL:∀{Γ},Gl (mM L0 pm cd doc) (hO Dr.heap _ lo [] Γ) "range" (.type "range"):=Lw.gl ls (.inr (co (by kernel_rfl))) rfl rfl rfl
 have FD:∀{Γ},∀h,(hO Dr.heap (mM L0 pm cd doc) lo [] Γ).p h->GV h "sum" (.builtin "sum"):=gvF ls.kr.kn (.inr (co (by kernel_rfl)))
 have Kk:∀{Γ},Gl (mM L0 pm cd doc) (hO Dr.heap _ lo [] Γ) "sum" (.builtin "sum"):=Lw.gl ls (.inr (co (by kernel_rfl))) rfl rfl rfl
 have JG:∀{Γ},Gl (mM L0 pm cd doc) (hO Dr.heap _ lo [] Γ) "_law_threes" (.ref 335):=Lw.gl ls (.inl (co (by kernel_rfl))) rfl rfl rfl
 have hG:∀{Γ} h,(hO Dr.heap (mM L0 pm cd doc) lo [] Γ).p h->Kn h:=λh z9=>ls.kr.kn.up (FxH.bs z9)
 refine oN (Lk:=False) (P:=λ_ i v _=>pI i v) ((vL B').map λr=>.lst (r.map .int)) [("size",L0+1),("second",L0+4),("first",L0+3)] ls lw (by simp;exact nk DF lt) ?_ ?_ rfl rfl rfl (by decide) (by intro _;rfl) rfl rfl λC' (ER:Lw Dr (mM L0 pm cd doc) lo (Ap B' v ll) ps C') k1=>?_
 ·rw [show ((vL B').map λr=>Dt.lst (r.map .int)).length=((n:Nat):Int).toNat by simp;exact lt]
  exact j5 (by intro _ _;rfl) ls.hand glRL (Ev.int (an (cu (Γ:=oU B' v ll) (d:=.int n) 9 (by rw [<-hn];rfl) hk))) nq (cV 0xc219104000000000000000819715 n rfl DF) rfl
 ·intro C hc i r' hr gp hC
  have hi:i<n:=by
   have:=(aV.mp hr).1
   simp only [bR] at this;exact fq this lt
  rw [ah,ql (fv hi l1)] at hr
  cases hr
  refine⟨_,rf (d:=.int i) (c:=C+1) hC (λv h hp=>At_int.mpr hp) rfl rfl rfl rfl (bo _) (ag _),λG' good up=>?_⟩
  refine d8 (Lk:=False) (((aG (m1 B').length).map λj=>if tt (m1 B') i j != tt (m2 B') i j then(1:Int) else 0).map .int) [("second",L0+4),("i",C+1),("first",L0+3)] (λ_ i v _=>pI i v) (by simp;exact nk DF l1) ?_ ?_ (by rfl) (by rfl) (by decide) (by intro _;rfl)
  ·rw [show (((aG (m1 B').length).map λj=>if tt (m1 B') i j != tt (m2 B') i j then(1:Int) else 0).map Dt.int).length=((n:Nat):Int).toNat by simp;exact l1]
   refine j5 (by intro _ _;rfl) ls.hand (Gl.within FM gp up) (Ev.int (an (by exact(cu (DA:=Dr.heap) (lo:=lo) (ex:=[]) (Γ:=oU B' v ll) (d:=.int n) 9 (by rw [<-hn];rfl) hk).within gp up rfl rfl rfl rfl))) nq (cV 0xc219104000000000000000819715 n rfl DF) rfl
  ·intro C2 Gv j r2 Hw HC LU
   have hj:j<n:=by
    have:=(aV.mp Hw).1
    simp only [bR,dJ] at this;exact fq this l1
   simp only [ah,cs (show j<(m1 B').length by exact fv hj l1),dv,eo] at Hw
   subst Hw
   refine⟨_,di (d:=.int j) LU (λv h hp=>At_int.mpr hp) rfl rfl rfl,λG2 Fn Gd=>?_⟩
   obtain⟨r1,LQ,OV⟩:=rI (ks:=ks1) (rows:=aS B') (i:=i) (j:=j) (fv hi hn) (fv hj hn)
   obtain⟨r2,Vf,GL⟩:=rI (ks:=ks2 (eS B')) (rows:=aS B') (i:=i) (j:=j) (fv hi hn) (fv hj hn)
   refine C6 (r:=tt (m1 B') i j != tt (m2 B') i j) (Lows.n _) (fJ (BC _ _)
    (C7 LQ OV (b6 0xc21a10a91403e841914 i n rfl hi DF) (b6 0xc21a10a91403e841914 j n rfl hj DF) ((an ((Ld.within ((cu (DA:=Dr.heap) (lo:=lo) (ex:=[]) (Γ:=oU B' v ll) 7 rfl hk).within gp up rfl rfl rfl rfl) HC Gd rfl rfl rfl rfl))).mono λ_ _ _ h=>mW h) (good.within HC Gd rfl rfl rfl rfl) Fn (by decide) (by decide))
    (C7 Vf GL (b6 0xc21a10a91403e841914 i n rfl hi DF) (b6 0xc21a10a91403e841914 j n rfl hj DF) ((an ((Ld.within ((cu (DA:=Dr.heap) (lo:=lo) (ex:=[]) (Γ:=oU B' v ll) 6 rfl hk).within gp up rfl rfl rfl rfl) HC Gd rfl rfl rfl rfl))).mono λ_ _ _ h=>mW h) (good.within HC Gd rfl rfl rfl rfl) Fn (by decide) (by decide))) (λh=>?_) (λh=>?_)
   ·rw [h];exact Ev.nint br
   ·rw [h];exact Ev.nint br
 have VM:∀r∈vL B',∀i,0<=(r.take i).sum/\(r.take i).sum<=12:=λr hr i=>by
  obtain⟨h1,h2⟩:=wD r hr
  have:=ow (b:=1) (m:=12) (by decide) (dh 0x9c18cb18a910ab10 n (12:Nat) r.length ((m1 B').length) rfl DF h1 l1) h2 i
  exact y_579 this
 refine oN (Lk:=True) (P:=λhc i v _=>∃d,((vL B').map λr=>Dt.lst (r.map .int))[i]?=some d/\At 0 hc v d) ((zG B').map .int) [] ls ER (by simp;exact nk DF Ig) ?_ ?_ rfl rfl rfl (by decide) (by intro _;rfl) rfl rfl λDs (EH:Lw Dr (mM L0 pm cd doc) lo (xw B' v ll) ps Ds) k2=>?_
 ·rw [show ((zG B').map Dt.int).length=((vL B').map λr=>Dt.lst (r.map .int)).length by simp;exact AF Ig lt]
  exact dD ls.hand (an (cu 0 rfl hk))
 ·intro C hc i r' hr gp hC
  simp only [Df,aP,ah,aq,bM] at hr
  obtain⟨row,hx,rfl⟩:=hr
  have hm:=aF hx
  refine⟨_,di (d:=dInts row) hC (λv h z9=>ci z9 λd D1 DJ=>?_) rfl rfl rfl,λG' good up=>Ev.nint (sj ls.hand (Gl.within FD gp up) (an good) (λi _=>by have:=VM row hm i;exact y_591 this) (λx hx=>by have:=(wD row hm).2 x hx;exact BZ this) rfl)⟩
  rw [ah,hx] at D1;cases D1;exact DJ
 have PF:=Bz (a:=m1 B') (b:=m2 B') (n:=12) (rl DF l1)
 refine oN (Lk:=True) (P:=λhc i v _=>∃d,((zG B').map Dt.int)[i]?=some d/\At 0 hc v d) ((zu B').map .int) [("size",L0+1)] ls EH (by simp;exact nk DF Js) ?_ ?_ rfl rfl rfl (by decide) (by intro _;rfl) rfl rfl λs3 (Fh:Lw Dr (mM L0 pm cd doc) lo (Ao B' v ll) ps s3) k3=>?_
 ·rw [show ((zu B').map Dt.int).length=((zG B').map Dt.int).length by simp;exact AF Js Ig]
  exact dD ls.hand (an (cu 0 rfl hk))
 ·intro C hc i r' hr gp hC
  simp only [fewL,aP,ah (f:=Dt.int∘_),aq,bM] at hr
  obtain⟨x,hx,rfl⟩:=hr
  refine⟨_,di (d:=.int x) hC (λv h z9=>ci z9 λd D1 DJ=>?_) rfl rfl rfl,λG' good up=>Ev.nint (bH (gV _ _) (bH (gV _ _) (Ev.int (an ((cu (DA:=Dr.heap) (lo:=lo) (ex:=[]) (Γ:=xw B' v ll) 11 rfl hk).within gp up rfl rfl rfl rfl))) br) (Ev.int (an good)))⟩
  rw [ah,hx] at D1;cases D1;exact DJ
 have Sq:∀x∈zu B',-12<=x/\x<=12:=λx hx=>by
  obtain⟨y,hy,rfl⟩:=bK.mp hx
  have:=PF y hy
  exact y_587 this Ij DF hn
 have S4:∀i,-144<=((zu B').take i).sum/\((zu B').take i).sum<=288:=λi=>by
  have h1:=ow (b:=24) (l:=(zu B').map (·+12)) (m:=12) (by decide) (by simp;exact rl DF Js) (λx hx=>by obtain⟨y,hy,rfl⟩:=bK.mp hx;have:=Sq y hy;exact y_577 this) i
  have h2:∀l:List Int,(l.map (·+12)).sum=l.sum+12*l.length:=λl=>by
   induction l with
   |nil=>rfl
   |cons a l ih=>simp only [ir,List.sum_cons,eQ,ih];exact y_439
  rw [<-jU,h2] at h1
  have h3:((zu B').take i).length<=12:=by rw [List.length_take];exact y_280 DF Js
  exact y_588 h3 h1
 refine oO (d:=.int (prS B')) ls Fh (Ev.nint (bH (xe _ 2 (by decide) (gJ (by decide))) (sj ls.hand Kk (an (cu 1 rfl hk)) (λi _=>by have:=ow (b:=12) (m:=12) (by decide) (l:=zG B') (rl DF Ig) PF i;exact y_593 this) (λx hx=>by have:=PF x hx;exact y_595 this) rfl) br)) rfl rfl rfl λs4 (Fp:Lw Dr (mM L0 pm cd doc) lo (An B' v ll) ps s4) k4=>?_
 refine oO (d:=.int (otS B')) ls Fp (Ev.nint (bH (xe _ 2 (by decide) (gJ (by decide))) (sj ls.hand Kk (an (cu 1 rfl hk)) (λi _=>by have:=S4 i;exact y_597 this) (λx hx=>by have:=Sq x hx;exact y_596 this) rfl) br)) rfl rfl rfl λs5 (GT:Lw Dr (mM L0 pm cd doc) lo (Am B' v ll) ps s5) k5=>?_
 refine oO (d:=dInts (thS B')) ls GT (oh (K:=Kn) JG hG (sh (t:=st 24) (q:="_law_threes") (d:=.none) (k:=.none) (co (by kernel_rfl))) (xV (r.le (by decide)) (wC _ _) (b6 0x134318432206431a10 n ((vL B').length) rfl DF lt)) (an (cu 4 rfl hk)) rfl) rfl rfl rfl λDI (Jr:Lw Dr (mM L0 pm cd doc) lo (Al B' v ll) ps DI) k6=>?_
 have GM:=uw (vL B') (vL B').length (rl DF lt)
 refine oO (d:=.int (whS B')) ls Jr (Ev.nint (bH (je _ _) (bH (je _ _) (Ev.int (an (cu 2 rfl hk))) (Ev.int (an (cu 1 rfl hk)))) (sj ls.hand Kk (an (cu 0 rfl hk)) (λi _=>by
  have:=ow (b:=1728) (m:=4) (by decide) (l:=thS B') (by rw [mH];exact cV 39184 (4:Nat) rfl) (λx hx=>by have:=GM x hx;exact y_580 DF lt this) i;exact y_594 this) (λx hx=>by have:=GM x hx;exact y_589 DF lt this) rfl))) rfl rfl rfl λG7 Ob k7=>?_
 subst hn
 exact hQ G7 Ob
end
structure CovH(zs ws:List Int)(n:Nat)(mx my q:Int):Prop where
 lz:zs.length=n
 lw:ws.length=n
 n2:2<=n
 n12:n<=12
 bz:∀z∈zs,z.natAbs<=10000
 bw:∀z∈ws,z.natAbs<=10000
 mz:mx*n=jc zs n
 mw:my*n=jc ws n
 ex:∃ps:List Int,ps.length=n/\(∀(i:Nat) u v p,zs[i]?=some u->ws[i]?=some v->ps[i]?=some p->2*p=(u-mx)*(v-my))/\q*((n:Int)-1)=jc ps n
theorem nA{B:Nat}:∀(zs:List Int) (i:Nat),(∀z∈zs,z.natAbs<=B)->(jc zs i).natAbs<=B*zs.length
 |_,0,_=>by simp [ps0,psN,psS]
 |[],_+1,_=>by simp [ps0,psN,psS]
 |z::zs,i+1,h=>by
  have h1:=nA zs i λy hy=>h y (az _ hy)
  have h2:=h z aW
  rw [jc,eQ,Nat.mul_add]
  exact y_288 h2 h1
theorem nH{m:Int}{n B:Nat}(hn:2<=n)(h:(m*n).natAbs<=B):m.natAbs<=B:=by
 rw [dt] at h
 have:m.natAbs*1<=m.natAbs*(n:Int).natAbs:=dQ _ (aJ ‹_›)
 exact bX 0x17421531510b910 (bZ m) ((bZ m)*(bZ ((n:Nat):Int))) B rfl this h
theorem CovH.prod{n:Nat}{q:Int}(c:CovH zs ws n mx my q):mx.natAbs<=120000/\my.natAbs<=120000:=by
 have h1:=nA zs n c.bz
 have h2:=nA ws n c.bw
 rw [c.lz] at h1;rw [c.lw] at h2
 rw [<-c.mz] at h1;rw [<-c.mw] at h2
 have:=c.n12
 exact⟨ab (nH c.n2 h1) (Cm this),ab (nH c.n2 h2) (Cm this)⟩
theorem KC.up(x:KC h)(u:Up h h'):KC h':=⟨oi x.cov λo pm doc a b c=>⟨o,pm,doc,u _ _ a,b,c.keeps u⟩,x.bm.up u⟩
section
variable{Q:Flow->Shared->Prop}
theorem zM{vx vy:Value}{dx dy:List Dt}{q:Int}{n:Nat}{Q:Value->Shared->Prop}(r:Room A 8)(kn:Kn s.heap)(kc:KC s.heap)(tab:TabOk s.heap 284 280)(t:0<s.toks)(LN:Bare s.gens)
  (hx:At 0 s.heap vx (.lst dx)) (hy:At 0 s.heap vy (.lst dy)) (nx:Nums dx zs) (ny:Nums dy ws) (c:CovH zs ws n mx my q)
  (hQ:∀v h' t' Gc,cY 280 s.heap h'->s.heap.objs.size<=h'.objs.size->s.toks<=t'->Bare Gc->TabOk h' 284 280->pF q v->Q v {s with heap:=h',toks:=t',gens:=Gc}):
  wpAny (model prog w) A (call (.ref 285) [vx,vy]) Q E s:=by
 refine kF (c.ex) λps GJ hp hq=>?_
 obtain⟨bx,Si⟩:=c.prod
 have n2:=c.n2
 have n12:=c.n12
 have h1:=λi=>nA zs i c.bz
 have h2:=λi=>nA ws i c.bw
 rw [c.lz] at h1;rw [c.lw] at h2
 have KJ:∀p∈ps,p.natAbs<=130000*130000:=λp LD=>by
  obtain⟨i,hi,e⟩:=List.mem_iff_getElem.mp LD
  have hu:zs[i]?=some (zs[i]'(by rw [c.lz];exact fq hi GJ)):=ae _
  have hv:ws[i]?=some (ws[i]'(by rw [c.lw];exact fq hi GJ)):=ae _
  have Uy:=hp i _ _ p hu hv (by rw [ae hi,e])
  have b1:=c.bz _ (aF hu)
  have b2:=c.bw _ (aF hv)
  have:(2*p).natAbs<=130000*130000:=by
   rw [Uy,dt]
   exact Nat.mul_le_mul (Cg b1 bx) (Cg b2 Si)
  exact y_300 this
 have h3:=λi=>nA ps i KJ
 rw [GJ] at h3
 have Uw:q.natAbs<=130000*130000*12:=by
  by_cases hn:n=2
  ·subst hn
   have:=h3 2
   have e:q=jc ps 2:=by have:=hq;simpa using this
   exact y_299 this hq
  ·have:=h3 n
   rw [<-hq,show ((n:Int)-1)=((n-1:Nat):Int) by exact y_477 n2] at this
   exact ab (nH (y_226 n2 hn) this) (y_250 n12)
 exact Dg r kn kc tab t LN hx hy nx ny c.lz c.lw GJ n2 (cV 0xc21910040041914 n rfl n12) (λz hz=>by have:=c.bz z hz;exact cV 0x4e208322001000000000071914 (bZ z) rfl this) (λz hz=>by have:=c.bw z hz;exact cV 0x4e208322001000000000071914 (bZ z) rfl this) (λi=>by have:=h1 i;exact Cr n12 this) (λi=>by have:=h2 i;exact Cr n12 this) c.mz c.mw (cV 0x1d4c051910000400000000000081914 (bZ mx) rfl bx) (cV 0x1d4c051910000400000000000081914 (bZ my) rfl Si) hp (λp LD=>by have:=KJ p LD;exact y_144 this) (λi=>by have:=h3 i;exact y_149 n12 this) hq (y_147 Uw) hQ
theorem tQ{pos:Pos}{e1:Expr}{dx dy:List Dt}{q:Int}{n:Nat}(r:Room A 8)(ls:Lst K A Dr.heap env lo)(lw:Lw Dr env lo Γ ps s)(I6:Gl env (hO Dr.heap env lo [] Γ) "covariance" (.ref 285))
  (h1:Ev w A env (hO Dr.heap env lo [] Γ) e1 (tO (.lst dx))) (h2:Ev w A env (hO Dr.heap env lo [] Γ) e2 (tO (.lst dy))) (nx:Nums dx zs) (ny:Nums dy ws) (c:CovH zs ws n mx my q) (hf:Fresh Γ x=true) (hl:env.kindOf x=some .local)
  (Eb:starEach [e1,e2] env=[(false,eval e1 env),(false,eval e2 env)]) (F3:swapsWith (.Call (.Name "covariance" p1) [e1,e2] [] pos) (some (.Name x px)) apos.line env=pure false)
  (hQ:∀g' s',Lw {Dr with gens:=g'} env lo ((x,.flt q)::Γ) ps s'->wpAny (model prog w) A (execs rest env) Q E s'):
  wpAny (model prog w) A (execs (.Assign [.Name x px] (.Call (.Name "covariance" p1) [e1,e2] [] pos) apos::rest) env) Q E s:=by
 refine au (bu (aK (cC I6 lw.fx.fx ?_)) F3)
 rw [Eb]
 have kc:=ls.kc.up lw.base
 refine oi (kc.cov) λo pm doc ho hd _=>?_
 refine b7 (o:=o) (fd:=pX (st 17) "covariance" .none .none pm (.ref 284) doc) (aE (ar (Ev.run h1 lw.fx.fx lw.t λva Dy t1 u1 l1 Dv=>ar ?_)))
 have ER:=lw.move ls u1 l1
 refine Ev.run h2 ER.fx.fx ER.t λvb DE t2 u2 l2 DD=>aA ?_
 have EH:=ER.move ls u2 l2
 dsimp only at u2 l2 DD
 refine⟨⟨u2.up _ _ (u1.up _ _ ho),hd⟩,?_⟩
 have ga:Bare s.gens:=by rw [show s.gens=Dr.gens by rw [lw.fx.same]];exact lw.ga
 refine zM (s:={s with heap:=DE,toks:=t2}) r (EH.kn ls) (kc.up (u1.up.trans u2.up)) EH.t280 EH.t ga (Dv.up (u2.up.from _)) DD nx ny c λv h3 t3 g3 k3 L5 l3 Vp SQ pv=>?_
 have JU:∀{b:Nat},(∃o,Dr.heap.get? b=some o)->¬b=280:=λhb z=>by
  obtain⟨o,e⟩:=hb
  rw [z,ls.b280] at e;cases e
 have Fh:=EH.chg ls (h':=h3) (t':=t3) (g':=g3) (λb o h1 _ _ q=>k3 b o h1 q) (λm n=>n.at' λo q=>k3 _ o (λz=>ls.n280 (.inl z.symm)) q) l3 SQ (EH.t342.at2 (λo q=>k3 _ o (JU ls.o344) q) λo q=>k3 _ o (by decide) q) Vp
 exact Lw.storeL (Dr:={Dr with gens:=g3}) ls Fh (.inl (At_flt.mpr pv)) hf hl λs4 Fp k4=>hQ g3 s4 Fp
end
theorem fk{a b:Int}{A B:Nat}(ha:a.natAbs<=A)(hb:b.natAbs<=B):(a*b).natAbs<=A*B:=by
 rw [dt];exact Nat.mul_le_mul ha hb
theorem iJ{a b:Int}{A B:Nat}(ha:a.natAbs<=A)(hb:b.natAbs<=B):(a+b).natAbs<=A+B:=y_289 ha hb
theorem rh{a b:Int}{A B:Nat}(ha:a.natAbs<=A)(hb:b.natAbs<=B):(a-b).natAbs<=A+B:=y_294 ha hb
theorem ph{a:Int}{A N:Nat}(h:a.natAbs<=A)(k:A<N:=by decide):a.natAbs<N:=bU h k
theorem r64{a:Int}{A:Nat}(h:a.natAbs<=A)(k:A<2^64:=by decide):-(2^64)<a/\a<2^64:=y_566 k h
theorem uO(l:List Int):Nums (l.map .flt) l:=by simp [Nums,nuI,nuF]
theorem n8(l:List Int):Nums (l.map .int) (l.map λd=>2*d):=by simp [Nums,nuI,nuF]
section
variable{Q:Flow->Shared->Prop}
theorem xW{one two:List Int}(r:Room A 3)(hsz:one.length<=100):Ct2 w A Kn 340 (dInts one) (dInts two) (.tup [.bool (pcT one two one.length),.bool (pcM one two one.length)]):=
 λ_ _ _ _ _ kn t h1 h2 hQ=>w8 r kn t h1 h2 (cV 0xc8632200f424051910 one.length rfl hsz) hQ
noncomputable abbrev nS(B':List Int):Int:=((aS B').length:Nat)
noncomputable abbrev we(B':List Int)(k:Nat):Int:=(thS B').getD k 0
noncomputable abbrev yI(B':List Int)(q:Int):Int:=3*nS B'*(2*whS B'-q)-2*(4*prS B'*(nS B'+prS B'))
noncomputable abbrev pH(B':List Int)(q:Int):Int:=3*nS B'*(2*whS B'+q)-2*(4*otS B'*(nS B'+otS B'))
structure LawH(B':List Int)(q1 q2 q3:Int):Prop where
 c1:∃mx my,CovH ((z1 B').map λz=>2*(nS B'-1)*z) (z2 B') (aS B').length mx my q1
 c2:∃mx my,CovH (((zG B').map λd=>nS B'*d).map λd=>2*d) (((zG B').map λd=>nS B'*(nS B'-1)*d).map λd=>2*d) (aS B').length mx my q2
 c3:∃mx my,CovH (((zu B').map λd=>nS B'*(nS B'-1)*d).map λd=>2*d) (((zu B').map λd=>nS B'*d).map λd=>2*d) (aS B').length mx my q3
 low:decide (yI B' q1=2*0)=pcT (dp (m1 B')) (dp (m2 B')) (dp (m1 B')).length
 high:decide (pH B' q1=2*0)=pcM (dp (m1 B')) (dp (m2 B')) (dp (m1 B')).length
 told:q1=2*(otS B'+we B' 0+we B' 1-prS B'-we B' 2-we B' 3)
 spread:nS B'*yI B' q1=q2+2*(4*nS B'*nS B'*we B' 2)
 rest:nS B'*pH B' q1=q3+2*(4*nS B'*nS B'*we B' 1)
 bP:(prS B').natAbs<=1000
 bO:(otS B').natAbs<=1000
 b2:q2.natAbs<2^40
 b3:q3.natAbs<2^40
noncomputable abbrev mZ(B':List Int)(v:Value)(ll:Nat)(q:Int):Ctx :=
 ("high",.flt (pH B' q))::("low",.flt (yI B' q))::("told",.flt q)::uP B' v ll
theorem law_f{v:Value}{q1 q2 q3:Int}(r:Room A 20)(ls:Lst K A Dr.heap env lo)(lw:Lw Dr env lo (uP B' v ll) ps s)(he:∃pm cd doc,env=mM L0 pm cd doc)
  (VI:∀z∈z1 B',z.natAbs<2^20) (H:LawH B' q1 q2 q3)
  (hQ:∀g' s',Lw {Dr with gens:=g'} env lo (mZ B' v ll q1) ps s'->wpAny (model prog w) A (execs ((gR (st 26)).drop 25) env) Q E s'):
  wpAny (model prog w) A (execs ((gR (st 26)).drop 22) env) Q E s:=by
 refine zD (he) λpm cd doc he=>?_
 subst he
 have hk:=ls.hk
 have Ii:sizeLine=16777216:=by decide
 obtain⟨Ij,DF⟩:=ii B'
 have M8:(z1 B').length=_:=wn false sp1 (aS B')
 have I6:∀{Γ},Gl (mM L0 pm cd doc) (hO Dr.heap _ lo [] Γ) "covariance" (.ref 285):=Lw.gl ls (.inl (co (by kernel_rfl))) rfl rfl rfl
 refine Dd (H.c1) λmx1 my1 c1=>?_
 have en:nS B'=((aS B').length:Int):=rfl
 have bn:(nS B').natAbs<=12:=Ce DF en
 have VJ:(nS B'-1).natAbs<=12:=Cj DF en
 have GM:∀k,(we B' k).natAbs<=1728:=λk=>by
  have lt:(vL B').length=(aS B').length:=(nr _ _).trans (qD ks1 (aS B'))
  show ((thS B').getD k 0).natAbs<=1728
  rw [aw]
  cases hg:(thS B')[k]? with
  |none=>simp
  |some y=>have:=uw (vL B') (vL B').length (rl DF lt) y (aF hg);exact Cf DF lt this
 have bP:=H.bP
 have bO:=H.bO
 have bw:(whS B').natAbs<=10000:=by
  have e:(thS B').sum=we B' 0+we B' 1+we B' 2+we B' 3:=by
   have h4:=mH (vL B') (vL B').length
   exact sum4 _ h4
  show (prS B'+otS B'+(thS B').sum).natAbs<=10000
  rw [e]
  exact ab (iJ (iJ bP bO) (iJ (iJ (iJ (GM 0) (GM 1)) (GM 2)) (GM 3))) (by decide)
 have bq:q1.natAbs<=20000:=by
  rw [H.told]
  exact ab (fk (A:=2) (by decide) (rh (rh (rh (iJ (iJ bO (GM 0)) (GM 1)) bP) (GM 2)) (GM 3))) (by decide)
 refine tQ (r.le (by decide)) ls lw I6 (Ev.old ?_) (an (cu 10 rfl hk)) (uO _) (uO _) c1 rfl rfl rfl rfl λg1 C' ER=>?_
 ·refine d8 (Lk:=True) (((z1 B').map λz=>2*(nS B'-1)*z).map .flt) [("size",L0+1)] (λhc i v _=>∃d,((z1 B').map Dt.flt)[i]?=some d/\At 0 hc v d) (by simp;exact nk DF M8) ?_ ?_ rfl rfl (by decide) (by intro _;rfl)
  ·rw [show (((z1 B').map λz=>2*(nS B'-1)*z).map Dt.flt).length=((z1 B').map Dt.flt).length by simp]
   exact dD ls.hand (an (cu 11 rfl hk))
  ·intro C hc i r' hr gp hC
   rw [aP,ah,aq] at hr
   refine ci (hr) λz hx Dz=>?_;subst Dz
   have hb:=VI z (aF hx)
   have b1:=fk (a:=2) (A:=2) (by decide) VJ
   have b2:=fk b1 (aJ hb)
   refine⟨_,di (d:=.flt z) hC (λv h z9=>ci z9 λd D1 DJ=>?_) rfl rfl rfl,λG' good up=>Ev.nflt (bH (ma (2*(nS B'-1)) z (ph b1) (ph b2)) (bH (eU 2 _ (by decide)) br (bH (gV _ 1) (Ev.int (an ((cu (DA:=Dr.heap) (lo:=lo) (ex:=[]) (Γ:=uP B' v ll) 16 rfl hk).within gp up rfl rfl rfl rfl))) br)) (Ev.flt (an good)))⟩
   rw [ah,hx] at D1;cases D1;exact DJ
 have NT:=fk (a:=3) (A:=3) (by decide) bn
 have Ss:=fk (a:=2) (A:=2) (by decide) bw
 have b4P:=fk (a:=4) (A:=4) (by decide) bP
 have b4O:=fk (a:=4) (A:=4) (by decide) bO
 have bA:=fk NT (rh Ss bq)
 have bB:=fk NT (iJ Ss bq)
 have bC:=fk b4P (iJ bn bP)
 have bD:=fk b4O (iJ bn bO)
 refine oO (d:=.flt (yI B' q1)) (Dr:={Dr with gens:=g1}) ls ER (Ev.nflt (bH (uL (3*nS B'*(2*whS B'-q1)) (4*prS B'*(nS B'+prS B')) (ph bC) (ph bA))
  (bH (ma (3*nS B') (2*whS B'-q1) (ph NT) (ph bA)) (bH (eU 3 _ (by decide)) br (Ev.int (an (cu 17 rfl hk)))) (bH (zj (whS B') q1 (ph bw) (ph bq)) (Ev.int (an (cu 1 rfl hk))) (Ev.flt (an (cu 0 rfl hk)))))
  (bH (eU _ _ (r64 b4P)) (bH (eU 4 _ (by decide)) br (Ev.int (an (cu 4 rfl hk)))) (bH (je _ _) (Ev.int (an (cu 17 rfl hk))) (Ev.int (an (cu 4 rfl hk))))))) rfl rfl rfl λDs EH k2=>?_
 refine oO (d:=.flt (pH B' q1)) (Dr:={Dr with gens:=g1}) ls EH (Ev.nflt (bH (uL (3*nS B'*(2*whS B'+q1)) (4*otS B'*(nS B'+otS B')) (ph bD) (ph bB))
  (bH (ma (3*nS B') (2*whS B'+q1) (ph NT) (ph bB)) (bH (eU 3 _ (by decide)) br (Ev.int (an (cu 18 rfl hk)))) (bH (uM (whS B') q1 (ph bw) (ph bq)) (Ev.int (an (cu 2 rfl hk))) (Ev.flt (an (cu 1 rfl hk)))))
  (bH (eU _ _ (r64 b4O)) (bH (eU 4 _ (by decide)) br (Ev.int (an (cu 4 rfl hk)))) (bH (je _ _) (Ev.int (an (cu 18 rfl hk))) (Ev.int (an (cu 4 rfl hk))))))) rfl rfl rfl λs3 Fh k3=>?_
 exact hQ g1 s3 Fh
end
section
variable{Q:Flow->Shared->Prop}
noncomputable abbrev CP(B':List Int)(v:Value)(ll:Nat)(q1 q2 q3:Int):Ctx:=("rest",.flt q3)::("spread",.flt q2)::mZ B' v ll q1
theorem law_g{v:Value}{q1 q2 q3:Int}(r:Room A 20)(ls:Lst K A Dr.heap env lo)(lw:Lw Dr env lo (mZ B' v ll q1) ps s)(he:∃pm cd doc,env=mM L0 pm cd doc)
  (H:LawH B' q1 q2 q3)
  (hQ:∀g' s',Lw {Dr with gens:=g'} env lo (CP B' v ll q1 q2 q3) ps s'->Q (.ret (.bool true)) s'):
  wpAny (model prog w) A (execs ((gR (st 26)).drop 25) env) Q E s:=by
 obtain⟨pm,cd,doc,he⟩:=he
 subst he
 have hk:=ls.hk
 have Ii:sizeLine=16777216:=by decide
 obtain⟨Ij,DF⟩:=ii B'
 have l1:(m1 B').length=_:=qD ks1 (aS B')
 have lt:(vL B').length=(aS B').length:=(nr _ _).trans l1
 have Ig:(zG B').length=(aS B').length:=by rw [<-lt];simp [Df]
 have Js:(zu B').length=(aS B').length:=by rw [<-Ig];simp [fewL]
 have en:nS B'=((aS B').length:Int):=rfl
 have u0:A.units+1<cLine:=by have:=r.units;exact y_74 this
 have hG:∀{Γ} h,(hO Dr.heap (mM L0 pm cd doc) lo [] Γ).p h->Kn h:=λh z9=>ls.kr.kn.up (FxH.bs z9)
 have I6:∀{Γ},Gl (mM L0 pm cd doc) (hO Dr.heap _ lo [] Γ) "covariance" (.ref 285):=Lw.gl ls (.inl (co (by kernel_rfl))) rfl rfl rfl
 have JH:∀{Γ},Gl (mM L0 pm cd doc) (hO Dr.heap _ lo [] Γ) "_law_pieces" (.ref 340):=Lw.gl ls (.inl (co (by kernel_rfl))) rfl rfl rfl
 have SL:=mH (vL B') (vL B').length
 have Kv:∀k:Nat,k<4->((thS B').map Dt.int)[(k:Int).toNat]?=some (.int (we B' k)):=λk UQ=>by
  have:(thS B')[k]?=some ((thS B')[k]'(by rw [SL];exact UQ)):=ae _
  rw [ah,show (k:Int).toNat=k by exact y_501,this]
  simp [we,aw,this]
 refine CO ls lw ((iS (Di (aJ ‹_›) (decide (yI B' q1=2*0)) (decide (pH B' q1=2*0)) (pcT (dp (m1 B')) (dp (m2 B')) (dp (m1 B')).length) (pcM (dp (m1 B')) (dp (m2 B')) (dp (m1 B')).length))
  (Ev.old (eX (ds:=[.bool _,.bool _]) (bk (Ev.nbool (mB (yp _ 0) (Ev.flt (an (cu 1 rfl hk))) br)) (bk (Ev.nbool (mB (yp _ 0) (Ev.flt (an (cu 0 rfl hk))) br)) ec)) (show 2<=sizeLine by decide)))
  (Ev.old (og (K:=Kn) JH hG (sh (t:=st 25) (q:="_law_pieces") (d:=.none) (k:=.none) (co (by kernel_rfl))) (xW (r.le (by decide)) (by simp [dp];exact b6 0x134318432206431a10 ((aS B').length) ((m1 B').length) rfl DF l1)) (an (cu 11 rfl hk)) (an (cu 10 rfl hk)) rfl))).cast (by rw [H.low,H.high];simp)) λC' ER u1=>?_
 refine xp (b:=false) ls ER ((fJ (BB q1 (otS B'+we B' 0+we B' 1-prS B'-we B' 2-we B' 3)) (Ev.flt (an (cu 2 rfl hk)))
  (bH (gV _ _) (bH (gV _ _) (bH (gV _ _) (bH (je _ _) (bH (je _ _) (Ev.int (an (cu 5 rfl hk)))
   (Ev.int (jN (an (cu 4 rfl hk)) br (by decide) (by decide) (Kv 0 (by decide)) (by intro _ _;rfl))))
   (Ev.int (jN (an (cu 4 rfl hk)) br (by decide) (by decide) (Kv 1 (by decide)) (by intro _ _;rfl))))
   (Ev.int (an (cu 6 rfl hk))))
   (Ev.int (jN (an (cu 4 rfl hk)) br (by decide) (by decide) (Kv 2 (by decide)) (by intro _ _;rfl))))
   (Ev.int (jN (an (cu 4 rfl hk)) br (by decide) (by decide) (Kv 3 (by decide)) (by intro _ _;rfl))))).cast (by rw [<-H.told];simp)) λDs EH u2=>?_
 refine aH ?_
 dsimp only
 obtain⟨mx2,my2,c2⟩:=H.c2
 obtain⟨mx3,my3,c3⟩:=H.c3
 have bn:(nS B').natAbs<=12:=Ce DF en
 have Sm:(nS B'*(nS B'-1)).natAbs<=144:=fk (A:=12) (B:=12) ‹_› (Cj DF en)
 refine tQ (r.le (by decide)) ls EH I6 (Ev.old ?_) (Ev.old ?_) (n8 _) (n8 _) c2 rfl rfl rfl rfl λg3 VY Fh=>?_
 ·refine d8 (Lk:=True) (((zG B').map λd=>nS B'*d).map .int) [("size",L0+1)] (λhc i v _=>∃d,((zG B').map Dt.int)[i]?=some d/\At 0 hc v d) (by simp;exact nk DF Ig) ?_ ?_ rfl rfl (by decide) (by intro _;rfl)
  ·rw [show (((zG B').map λd=>nS B'*d).map Dt.int).length=((zG B').map Dt.int).length by simp]
   exact dD ls.hand (an (cu 8 rfl hk))
  ·intro C hc i r' hr gp hC
   rw [aP,ah,aq] at hr
   obtain⟨z,hx,rfl⟩:=hr
   refine⟨_,di (d:=.int z) hC (λv h z9=>ci z9 λd D1 DJ=>?_) rfl rfl rfl,λG' good up=>Ev.nint (bH (eU (nS B') z (r64 bn)) (Ev.int (an ((cu (DA:=Dr.heap) (lo:=lo) (ex:=[]) (Γ:=mZ B' v ll q1) 19 rfl hk).within gp up rfl rfl rfl rfl))) (Ev.int (an good)))⟩
   rw [ah,hx] at D1;cases D1;exact DJ
 ·refine d8 (Lk:=True) (((zG B').map λd=>nS B'*(nS B'-1)*d).map .int) [("size",L0+1)] (λhc i v _=>∃d,((zG B').map Dt.int)[i]?=some d/\At 0 hc v d) (by simp;exact nk DF Ig) ?_ ?_ rfl rfl (by decide) (by intro _;rfl)
  ·rw [show (((zG B').map λd=>nS B'*(nS B'-1)*d).map Dt.int).length=((zG B').map Dt.int).length by simp]
   exact dD ls.hand (an (cu 8 rfl hk))
  ·intro C hc i r' hr gp hC
   rw [aP,ah,aq] at hr
   obtain⟨z,hx,rfl⟩:=hr
   refine⟨_,di (d:=.int z) hC (λv h z9=>ci z9 λd D1 DJ=>?_) rfl rfl rfl,λG' good up=>Ev.nint (bH (eU (nS B'*(nS B'-1)) z (r64 Sm)) (bH (eU (nS B') (nS B'-1) (r64 bn)) (Ev.int (an ((cu (DA:=Dr.heap) (lo:=lo) (ex:=[]) (Γ:=mZ B' v ll q1) 19 rfl hk).within gp up rfl rfl rfl rfl))) (bH (gV _ 1) (Ev.int (an ((cu (DA:=Dr.heap) (lo:=lo) (ex:=[]) (Γ:=mZ B' v ll q1) 19 rfl hk).within gp up rfl rfl rfl rfl))) br)) (Ev.int (an good)))⟩
   rw [ah,hx] at D1;cases D1;exact DJ
 refine tQ (Dr:={Dr with gens:=g3}) (r.le (by decide)) ls Fh I6 (Ev.old ?_) (Ev.old ?_) (n8 _) (n8 _) c3 rfl rfl rfl rfl λg4 s4 Fp=>?_
 ·refine d8 (Lk:=True) (((zu B').map λd=>nS B'*(nS B'-1)*d).map .int) [("size",L0+1)] (λhc i v _=>∃d,((zu B').map Dt.int)[i]?=some d/\At 0 hc v d) (by simp;exact nk DF Js) ?_ ?_ rfl rfl (by decide) (by intro _;rfl)
  ·rw [show (((zu B').map λd=>nS B'*(nS B'-1)*d).map Dt.int).length=((zu B').map Dt.int).length by simp]
   exact dD ls.hand (an (cu 8 rfl hk))
  ·intro C hc i r' hr gp hC
   rw [aP,ah,aq] at hr
   obtain⟨z,hx,rfl⟩:=hr
   refine⟨_,di (d:=.int z) hC (λv h z9=>ci z9 λd D1 DJ=>?_) rfl rfl rfl,λG' good up=>Ev.nint (bH (eU (nS B'*(nS B'-1)) z (r64 Sm)) (bH (eU (nS B') (nS B'-1) (r64 bn)) (Ev.int (an ((cu (DA:=Dr.heap) (lo:=lo) (ex:=[]) (Γ:=("spread",.flt q2)::mZ B' v ll q1) 20 rfl hk).within gp up rfl rfl rfl rfl))) (bH (gV _ 1) (Ev.int (an ((cu (DA:=Dr.heap) (lo:=lo) (ex:=[]) (Γ:=("spread",.flt q2)::mZ B' v ll q1) 20 rfl hk).within gp up rfl rfl rfl rfl))) br)) (Ev.int (an good)))⟩
   rw [ah,hx] at D1;cases D1;exact DJ
 ·refine d8 (Lk:=True) (((zu B').map λd=>nS B'*d).map .int) [("size",L0+1)] (λhc i v _=>∃d,((zu B').map Dt.int)[i]?=some d/\At 0 hc v d) (by simp;exact nk DF Js) ?_ ?_ rfl rfl (by decide) (by intro _;rfl)
  ·rw [show (((zu B').map λd=>nS B'*d).map Dt.int).length=((zu B').map Dt.int).length by simp]
   exact dD ls.hand (an (cu 8 rfl hk))
  ·intro C hc i r' hr gp hC
   rw [aP,ah,aq] at hr
   obtain⟨z,hx,rfl⟩:=hr
   refine⟨_,di (d:=.int z) hC (λv h z9=>ci z9 λd D1 DJ=>?_) rfl rfl rfl,λG' good up=>Ev.nint (bH (eU (nS B') z (r64 bn)) (Ev.int (an ((cu (DA:=Dr.heap) (lo:=lo) (ex:=[]) (Γ:=("spread",.flt q2)::mZ B' v ll q1) 20 rfl hk).within gp up rfl rfl rfl rfl))) (Ev.int (an good)))⟩
   rw [ah,hx] at D1;cases D1;exact DJ
 have GM:∀k,(we B' k).natAbs<=1728:=λk=>by
  show ((thS B').getD k 0).natAbs<=1728
  rw [aw]
  cases hg:(thS B')[k]? with
  |none=>simp
  |some y=>have:=uw (vL B') (vL B').length (rl DF lt) y (aF hg);simp;exact Cf DF lt this
 have b4:=fk (a:=4) (A:=4) (by decide) bn
 have NS:=fk b4 bn
 have Id:=fk NS (GM 2)
 have Ho:=fk NS (GM 1)
 have h2:=aJ H.b2
 have h3:=aJ H.b3
 have QV:=fk (a:=2) (A:=2) (by decide) Id
 have QW:=fk (a:=2) (A:=2) (by decide) Ho
 have s2:=H.spread
 have s3:=H.rest
 have bl:(nS B'*yI B' q1).natAbs<2^50:=by rw [s2];exact ph (iJ h2 QV)
 have bh:(nS B'*pH B' q1).natAbs<2^50:=by rw [s3];exact ph (iJ h3 QW)
 refine au (cL (Ev.run (T:=tV (pB true)) (so (Lows.v _)
  ((mB (yq (nS B'*yI B' q1) (q2+2*(4*nS B'*nS B'*we B' 2))) (bH (ma (nS B') (yI B' q1) (ph bn) (gK bl (by decide))) (Ev.int (an (cu 21 rfl hk))) (Ev.flt (an (cu 3 rfl hk))))
   (bH (uN q2 _ (ph Id) (ph h2)) (Ev.flt (an (cu 1 rfl hk))) (bH (eU _ _ (r64 NS)) (bH (eU _ _ (r64 b4)) (bH (eU 4 _ (by decide)) br (Ev.int (an (cu 21 rfl hk)))) (Ev.int (an (cu 21 rfl hk)))) (Ev.int (jN (an (cu 6 rfl hk)) br (by decide) (by decide) (Kv 2 (by decide)) (by intro _ _;rfl)))))).mono λ_ _ _ h=>by rw [decide_eq_true s2] at h;exact h)
  (uZ ((mB (yq (nS B'*pH B' q1) (q3+2*(4*nS B'*nS B'*we B' 1))) (bH (ma (nS B') (pH B' q1) (ph bn) (gK bh (by decide))) (Ev.int (an (cu 21 rfl hk))) (Ev.flt (an (cu 2 rfl hk))))
   (bH (uN q3 _ (ph Ho) (ph h3)) (Ev.flt (an (cu 0 rfl hk))) (bH (eU _ _ (r64 NS)) (bH (eU _ _ (r64 b4)) (bH (eU 4 _ (by decide)) br (Ev.int (an (cu 21 rfl hk)))) (Ev.int (an (cu 21 rfl hk)))) (Ev.int (jN (an (cu 6 rfl hk)) br (by decide) (by decide) (Kv 1 (by decide)) (by intro _ _;rfl)))))).mono λ_ _ _ h=>by rw [decide_eq_true s3] at h;exact h)))
  Fp.fx.fx Fp.t λv' h' t' u' l' p'=>?_))
 have Tj:v'=.bool true:=p'
 subst Tj
 exact hQ g4 _ (Lw.move (Dr:={Dr with gens:=g4}) ls Fp u' l')
end
noncomputable def c6:Nat->(Nat->Int)->Int
 |0,_=>0
 |n+1,f=>c6 n f+f n
theorem sm0:c6 0 f=0:=rfl
theorem smS{n:Nat}:c6 (n+1) f=c6 n f+f n:=rfl
theorem cG{g:Nat->Int}:∀n,(∀i,i<n->f i=g i)->c6 n f=c6 n g
 |0,_=>rfl
 |n+1,h=>by simp only [sm0,smS];rw [cG n λi hi=>h i (mP hi),h n (ag _)]
theorem dT(f g:Nat->Int):∀n,c6 n (λi=>f i+g i)=c6 n f+c6 n g
 |0=>rfl
 |n+1=>by simp only [sm0,smS];rw [dT f g n];exact y_442
theorem qq(f:Nat->Int):∀n,c6 n (λi=>-f i)=-c6 n f
 |0=>rfl
 |n+1=>by simp only [sm0,smS];rw [qq f n];exact y_451
theorem qp(f g:Nat->Int)(n:Nat):c6 n (λi=>f i-g i)=c6 n f-c6 n g:=by
 have:=dT f (λi=>-g i) n
 rw [qq] at this
 simpa [Int.sub_eq_add_neg] using this
theorem el(c:Int)(f:Nat->Int):∀n,c6 n (λi=>c*f i)=c*c6 n f
 |0=>by simp [sm0,smS]
 |n+1=>by simp only [sm0,smS];rw [el c f n,fD]
theorem oA(c:Int)(f:Nat->Int):∀n,c6 n (λi=>f i*c)=c6 n f*c
 |0=>by simp [sm0,smS]
 |n+1=>by simp only [sm0,smS];rw [oA c f n,iD]
theorem g7(c:Int):∀n,c6 n (λ_=>c)=n*c
 |0=>by simp [sm0,smS]
 |n+1=>by simp only [sm0,smS];rw [g7 c n,k8,iD];simp
theorem mR(n:Nat):c6 n (λ_=>0)=0:=by rw [g7];simp
theorem eV:∀n,(∀i,i<n->0<=f i)->0<=c6 n f
 |0,_=>jK _
 |n+1,h=>by
  have:=eV n λi hi=>h i (mP hi)
  have:=h n (ag _)
  exact eW 0xa011190111a920111 (c6 n f) (f n) rfl ‹_› this
theorem iu:∀n,(∀i,i<n->0<=f i)->c6 n f=0->∀i,i<n->f i=0
 |0,_,_,i,hi=>y_528 hi
 |n+1,h,e,i,hi=>by
  simp only [sm0,smS] at e
  have h1:=eV n λi hi=>h i (mP hi)
  have h2:=h n (ag _)
  by_cases Eg:i=n
  ·subst Eg;exact y_532 h2 h1 e
  ·exact iu n (λi hi=>h i (mP hi)) (y_531 h1 h2 e) i (s6 hi Eg)
noncomputable def iE(n:Nat)(f:Nat->Nat->Int):Int:=c6 n λb=>c6 b λa=>f a b
noncomputable def pS(n:Nat)(f:Nat->Nat->Nat->Int):Int:=c6 n λc=>iE c λa b=>f a b c
theorem fY{f g:Nat->Nat->Int}(n:Nat)(h:∀a b,a<b->b<n->f a b=g a b):iE n f=iE n g :=
 cG n λb hb=>cG b λa ha=>h a b ha hb
theorem j0{f g:Nat->Nat->Nat->Int}(n:Nat)(h:∀a b c,a<b->b<c->c<n->f a b c=g a b c):pS n f=pS n g :=
 cG n λc hc=>fY c λa b h1 h2=>h a b c h1 h2 hc
theorem rN(f g:Nat->Nat->Int)(n:Nat):iE n (λa b=>f a b+g a b)=iE n f+iE n g:=by
 unfold iE
 rw [<-dT]
 exact cG n λb _=>dT _ _ b
theorem j6(c:Int)(f:Nat->Nat->Int)(n:Nat):iE n (λa b=>c*f a b)=c*iE n f:=by
 unfold iE
 rw [<-el]
 exact cG n λb _=>el _ _ b
theorem n6(f g:Nat->Nat->Nat->Int)(n:Nat):pS n (λa b c=>f a b c+g a b c)=pS n f+pS n g:=by
 unfold pS
 rw [<-dT]
 exact cG n λb _=>rN _ _ b
theorem l8(c:Int)(f:Nat->Nat->Nat->Int)(n:Nat):pS n (λa b d=>c*f a b d)=c*pS n f:=by
 unfold pS
 rw [<-el]
 exact cG n λb _=>j6 _ _ b
theorem uz(f:Nat->Nat->Int):∀n,c6 n (λa=>c6 n (f a))=c6 n (λa=>f a a)+iE n (λa b=>f a b+f b a)
 |0=>rfl
 |n+1=>by
  have ih:=uz f n
  have e1:c6 (n+1) (λa=>c6 (n+1) (f a))=c6 n (λa=>c6 n (f a))+c6 n (λa=>f a n)+(c6 n (f n)+f n n):=by
   simp only [sm0,smS]
   rw [dT (λa=>c6 n (f a)) (λa=>f a n) n]
  have e2:iE (n+1) (λa b=>f a b+f b a)=iE n (λa b=>f a b+f b a)+(c6 n (λa=>f a n)+c6 n (f n)):=by
   show iE n (λa b=>f a b+f b a)+c6 n (λa=>f a n+f n a)=_
   rw [dT (λa=>f a n) (λa=>f n a) n]
  rw [e1,e2,ih]
  exact y_432
noncomputable abbrev six(s t:Nat->Nat->Int)(a b c:Nat):Int:=s a b*t a c+s a c*t a b+s b a*t b c+s b c*t b a+s c a*t c b+s c b*t c a
theorem cube(s t:Nat->Nat->Int)(hs:∀i,s i i=0)(ht:∀i,t i i=0):∀n,c6 n (λi=>c6 n (s i)*c6 n (t i))=iE n (λa b=>s a b*t a b+s b a*t b a)+pS n (six s t)
 |0=>rfl
 |n+1=>by
  have ih:=cube s t hs ht n
  have p1:iE (n+1) (λa b=>s a b*t a b+s b a*t b a)=iE n (λa b=>s a b*t a b+s b a*t b a)+(c6 n (λa=>s a n*t a n)+c6 n (λa=>s n a*t n a)):=by
   show iE n (λa b=>s a b*t a b+s b a*t b a)+c6 n (λa=>s a n*t a n+s n a*t n a)=_
   rw [dT]
  have p2:pS (n+1) (six s t)=pS n (six s t)+iE n (λa b=>six s t a b n):=rfl
  have q:c6 n (λa=>c6 n (λb=>s a b*t a n+s a n*t a b+s n a*t n b))=c6 n (λa=>s n a*t n a)+iE n (λa b=>six s t a b n):=by
   rw [uz]
   congr 1
   ·exact cG n λa _=>by rw [hs,ht];simp
   ·exact fY n λa b _ _=>by unfold six;exact y_441
  have q2:c6 n (λa=>c6 n (λb=>s a b*t a n+s a n*t a b+s n a*t n b))=c6 n (λa=>c6 n (s a)*t a n)+c6 n (λa=>s a n*c6 n (t a))+c6 n (s n)*c6 n (t n):=by
   have:∀a,c6 n (λb=>s a b*t a n+s a n*t a b+s n a*t n b)=c6 n (s a)*t a n+s a n*c6 n (t a)+s n a*c6 n (t n):=λa=>by
    rw [dT (λb=>s a b*t a n+s a n*t a b) (λb=>s n a*t n b),dT (λb=>s a b*t a n) (λb=>s a n*t a b),oA,el,el]
   rw [cG n λa _=>this a,dT (λa=>c6 n (s a)*t a n+s a n*c6 n (t a)) (λa=>s n a*c6 n (t n)),dT,oA]
  have e:c6 (n+1) (λi=>c6 (n+1) (s i)*c6 (n+1) (t i))=c6 n (λi=>c6 n (s i)*c6 n (t i))+c6 n (λa=>c6 n (s a)*t a n)+c6 n (λa=>s a n*c6 n (t a))+c6 n (λa=>s a n*t a n)+c6 n (s n)*c6 n (t n):=by
   simp only [sm0,smS,hs,ht,dW]
   have:∀a,(c6 n (s a)+s a n)*(c6 n (t a)+t a n)=c6 n (s a)*c6 n (t a)+(c6 n (s a)*t a n+(s a n*c6 n (t a)+s a n*t a n)):=λa=>by
    rw [iD,fD,fD];exact AI
   rw [cG n λa _=>this a,dT,dT,dT]
   exact y_440
  rw [e,p1,p2,ih]
  exact y_431 q2 q
noncomputable abbrev cn(n:Nat)(p:Nat->Bool):Nat:=(aG n).countP p
section
variable{n:Nat}{p q:Nat->Bool}
theorem iI(n:Nat)(p:Nat->Bool):cn (n+1) p=cn n p+(if p n then 1 else 0):=by simp [cn,iO,List.countP_append,List.countP_cons]
theorem fP:∀n,(∀i,i<n->p i=q i)->cn n p=cn n q
 |0,_=>rfl
 |n+1,h=>by rw [iI,iI,fP n λi hi=>h i (mP hi),h n (ag _)]
theorem sv(p:Nat->Bool):∀n,c6 n (λi=>if p i then 1 else 0)=(cn n p:Int)
 |0=>rfl
 |n+1=>by rw [iI];simp only [sm0,smS];rw [sv p n];cases p n<;>simp
theorem m8(p q:Nat->Bool):∀n,cn n p=cn n (λi=>p i&&q i)+cn n (λi=>p i&&!q i)
 |0=>rfl
 |n+1=>by rw [iI,iI,iI,m8 p q n];cases p n<;>cases q n<;>simp<;>lia
theorem x7:∀n,(∀i,i<n->p i=true->q i=true)->cn n p<=cn n q
 |0,_=>ag _
 |n+1,h=>by
  rw [iI,iI]
  have:=x7 n λi hi=>h i (mP hi)
  have h2:=h n (ag _)
  revert h2
  cases p n<;>cases q n<;>simp<;>lia
theorem BA:∀n,(∀i,i<n->p i=true->q i=true)->(∃i,i<n/\q i=true/\p i=false)->cn n p<cn n q
 |0,_,⟨i,hi,_⟩=>by exact(cV 6422 i rfl hi).elim
 |n+1,h,⟨i,hi,h1,h2⟩=>by
  rw [iI,iI]
  have h3:=x7 n λi hi=>h i (mP hi)
  have h4:=h n (ag _)
  by_cases Eg:i=n
  ·subst Eg;rw [h1,h2];simp;exact b6 23236059998484 (cn i p) (cn i q) rfl h3
  ·have:=BA n (λi hi=>h i (mP hi)) ⟨i,by exact s6 hi Eg,h1,h2⟩
   revert h4
   cases p n<;>cases q n<;>simp<;>lia
theorem Aw:∀n,0<cn n p->∃i,i<n/\p i=true
 |0,h=>by simp [cn] at h
 |n+1,h=>by
  rw [iI] at h
  cases hp:p n with
  |true=>exact⟨n,by exact vF,hp⟩
  |false =>
   rw [hp] at h
   refine ci (Aw n (by simpa using h)) λi hi h=>?_
   exact⟨i,by exact mP hi,h⟩
theorem pf(n:Nat):cn n (λ_=>true)=n:=by simp [cn]
theorem sF:∀n,i<n->cn n (λj=>i==j)=1
 |0,h=>by exact y_507 h
 |n+1,h=>by
  rw [iI]
  by_cases Eg:i=n
  ·subst Eg
   have:cn i (λj=>i==j)=cn i (λ_=>false):=fP i λj hj=>by simp;exact b6 2836699674 j i rfl hj
   rw [this];simp [cn]
  ·rw [sF n (s6 h Eg)];simp [Eg]
theorem Ax{R:Nat->Nat->Bool}(hg:0<g)(sy:∀i j,i<n->j<n->R i j=true->R j i=true)(tr:∀i j k,i<n->j<n->k<n->R i j=true->R j k=true->R i k=true)(sz:∀i,i<n->cn n (R i)=g):∀f (P:Nat->Bool),cn n P<=f->(∀i j,i<n->j<n->P i=true->R i j=true->P j=true)->g∣cn n P:=by
 intro f
 induction f with
 |zero=>intro P h _;rw [show cn n P=0 by exact y_504 h];exact Nat.dvd_zero _
 |succ f ih =>
  intro P h inv
  by_cases h0:cn n P=0
  ·rw [h0];exact Nat.dvd_zero _
  refine ci (Aw n (Nat.pos_of_ne_zero h0)) λi0 LK hp=>?_
  have e1:cn n (λi=>P i&&R i0 i)=g:=by
   rw [<-sz i0 LK]
   exact fP n λj hj=>by
    cases hr:R i0 j
    ·simp
    ·rw [inv i0 j LK hj hp hr];rfl
  have e2:=m8 P (R i0) n
  rw [e1] at e2
  rw [e2]
  refine Nat.dvd_add (Nat.dvd_refl _) (ih _ (dh 0x192543911b2a1090114bc10 g (cn n P) f (cn n λi=>P i&&!R i0 i) rfl hg h e2) λi j hi hj Nm hr=>?_)
  simp only [dZ,Bool.not_eq_true'] at Nm ⊢
  refine⟨inv i j hi hj Nm.1 hr,?_⟩
  cases Uv:R i0 j
  ·rfl
  ·rw [tr i0 j i LK hj hi Uv (sy i j hi hj hr)] at Nm;simp at Nm
end
structure Bij(n:Nat)(a:Nat->Nat):Prop where
 bd:∀i,i<n->a i<n
 inj:∀i j,i<n->j<n->a i=a j->i=j
noncomputable def tu(a b:Nat->Nat)(i j:Nat):Bool:=decide (a j<a i) != decide (b j<b i)
section
variable{n:Nat}{a b:Nat->Nat}
theorem Bij.cnt(h:Bij n a)(f:Nat->Bool):cn n (λj=>f (a j))=cn n f:=(pd h.bd h.inj f).symm
theorem Bij.rank(h:Bij n a)(hi:i<n):cn n (λj=>decide (a j<a i))=a i:=by
 rw [h.cnt (λx=>decide (x<a i))]
 have:=iT (λx=>decide (x<a i)) 0 (a i) n (λq _=>by simp) (aJ (h.bd i hi)) (bY _)
 simpa using this
theorem rv(ha:Bij n a)(hb:Bij n b)(hi:i<n)(hj:j<n):tu a b i j=tu a b j i:=by
 unfold tu
 by_cases h:i=j
 ·subst h;rfl
 have h1:a i≠a j:=λe=>h (ha.inj i j hi hj e)
 have h2:b i≠b j:=λe=>h (hb.inj i j hi hj e)
 rw [show decide (a j<a i)=!decide (a i<a j) by by_cases h:a j<a i<;>simp [h]<;>lia,show decide (b j<b i)=!decide (b i<b j) by by_cases h:b j<b i<;>simp [h]<;>lia]
 cases decide (a i<a j)<;>cases decide (b i<b j)<;>rfl
theorem AQ(i:Nat):tu a b i i=false:=by simp [tu]
theorem vn(ha:Bij n a)(hb:Bij n b){d:Nat}(hi:i<n)(hd:cn n (tu a b i)=d):cn n (λj=>i==j||tu a b i j)=d+1:=by
 rw [m8 _ (tu a b i) n]
 rw [fP n (q:=tu a b i) λj _=>by cases tu a b i j<;>simp,hd,fP n (q:=λj=>i==j) λj _=>by
  by_cases h:i=j
  ·subst h;simp [AQ]
  ·cases tu a b i j<;>simp [h],sF n hi]
theorem w9(ha:Bij n a)(hb:Bij n b){d:Nat}(tr:∀i j k,i<n->j<n->k<n->i≠k->tu a b i j=true->tu a b j k=true->tu a b i k=true)(hd:∀i,i<n->cn n (tu a b i)=d):(d+1)∣n/\∀i,i<n->b i+a i=2*(a i-a i%(d+1))+d:=by
 have sy:∀i j,i<n->j<n->(i==j||tu a b i j)=true->(j==i||tu a b j i)=true:=λi j hi hj h=>by
  rw [rv ha hb hj hi]
  simp only [fW,beq_iff_eq] at h ⊢
  exact h.imp Eq.symm id
 have Q4:∀i j k,i<n->j<n->k<n->(i==j||tu a b i j)=true->(j==k||tu a b j k)=true->(i==k||tu a b i k)=true:=λi j k hi hj hk h1 h2=>by
  simp only [fW,beq_iff_eq] at h1 h2 ⊢
  rcases h1 with rfl|h1
  ·exact h2
  rcases h2 with rfl|h2
  ·exact .inr h1
  by_cases e:i=k
  ·exact .inl e
  ·exact .inr (tr i j k hi hj hk e h1 h2)
 have sz:∀i,i<n->cn n (λj=>i==j||tu a b i j)=d+1:=λi hi=>vn ha hb hi (hd i hi)
 refine⟨?_,λi hi=>?_⟩
 ·have:=Ax (R:=λi j=>i==j||tu a b i j) (dU d) sy Q4 sz n (λ_=>true) (by rw [pf];exact ag _) (λ_ _ _ _ _ _=>rfl)
  rwa [pf] at this
 ·have ea:=ha.rank hi
  have eb:=hb.rank hi
  have ed:=hd i hi
  rw [m8 _ (tu a b i) n] at ea eb
  rw [m8 _ (λj=>decide (a j<a i)) n] at ed
  rw [fP n (p:=λj=>decide (b j<b i)&&!tu a b i j) (q:=λj=>decide (a j<a i)&&!tu a b i j) λj _=>by unfold tu;cases decide (a j<a i)<;>cases decide (b j<b i)<;>rfl,fP n (p:=λj=>decide (b j<b i)&&tu a b i j) (q:=λj=>tu a b i j&&!decide (a j<a i)) λj _=>by unfold tu;cases decide (a j<a i)<;>cases decide (b j<b i)<;>rfl] at eb
  rw [fP n (p:=λj=>tu a b i j&&decide (a j<a i)) (q:=λj=>decide (a j<a i)&&tu a b i j) λj _=>by cases decide (a j<a i)<;>cases tu a b i j<;>rfl] at ed
  have hH:(d+1)∣cn n (λj=>decide (a j<a i)&&!tu a b i j):=by
   refine Ax (R:=λi j=>i==j||tu a b i j) (dU d) sy Q4 sz n _ ?_ ?_
   ·exact ab (x7 n (q:=λ_=>true) λ_ _ _=>rfl) (by rw [pf];exact ag _)
   ·intro j k hj hk hp hr
    simp only [dZ,decide_eq_true_eq,Bool.not_eq_true',fW,beq_iff_eq] at hp hr ⊢
    rcases hr with rfl|hr
    ·exact hp
    have DV:i≠j:=λe=>by subst e;exact y_768 hp
    have Lf:tu a b i k=false:=by
     cases h:tu a b i k
     ·rfl
     ·have:=tr i k j hi hk hj DV h (by rw [rv ha hb hk hj];exact hr)
      rw [hp.2] at this;cases this
    refine⟨?_,Lf⟩
    apply aO
    intro DX
    have H7:i≠k:=λe=>by
     subst e
     rw [rv ha hb hj hi,hp.2] at hr;cases hr
    have h1:a i≠a k:=λe=>H7 (ha.inj i k hi hk e)
    have h2:b i≠b k:=λe=>H7 (hb.inj i k hi hk e)
    have h3:b i≠b j:=λe=>DV (hb.inj i j hi hj e)
    have h4:=hp.2
    have h0:=hp.1
    unfold tu at h4 Lf hr
    simp only [bne_eq_false_iff_eq,bne_iff_ne,ne_eq,decide_eq_decide] at h4 Lf hr
    have g1:b j<b i:=h4.mp h0
    have g2:¬b k<b i:=λh=>by have:=Lf.mpr h;exact y_760 h Lf DX
    have g3:¬a k<a j:=y_616 DX hp
    exact hr ⟨λh=>absurd h g3,λh=>y_196 h g2 h4 hp⟩
  obtain⟨m,hm⟩:=hH
  have HP:a i%(d+1)=cn n (λj=>decide (a j<a i)&&tu a b i j):=by
   conv=>lhs;rw [<-ea,hm]
   rw [Nat.add_mul_mod_self_left,Nat.mod_eq_of_lt (y_167 ed)]
  rw [HP]
  exact y_458 ea ed eb
theorem Cy{a b:Nat->Nat}:tu a b i j=true↔((a j<a i/\¬b j<b i)\/(¬a j<a i/\b j<b i)):=by
 unfold tu
 by_cases h1:a j<a i<;>by_cases h2:b j<b i<;>simp [h1,h2]
theorem rM{q1 q2 a1 a2 r1 r2 b1 b2:Nat}(e1:g*q1+r1=a1)(e2:g*q2+r2=a2)(l1:r1<g)(l2:r2<g)(h1:b1+a1+1=2*(a1-r1)+g)(h2:b2+a2+1=2*(a2-r2)+g)(ne:a1≠a2)(m1:q1<q2->g*q1+g<=g*q2)(m2:q2<q1->g*q2+g<=g*q1):
  ((a2<a1/\¬b2<b1)\/(¬a2<a1/\b2<b1))↔q1=q2:=by
 rcases jI q1 q2 with c|c|c
 ·have:=m1 c;clear m1 m2;exact⟨λh=>y_512 l1 l2 this e1 h1 e2 h2 h,λh=>aO λu1=>b6 2836703518 q1 q2 rfl c h⟩
 ·subst c;clear m1 m2;exact⟨λ_=>rfl,λ_=>y_713 ne h2 h1 e2 e1⟩
 ·have:=m2 c;clear m1 m2;exact⟨λh=>y_513 l1 l2 this e2 h2 e1 h1 h,λh=>aO λu1=>b6 2836699674 q2 q1 rfl c h⟩
theorem xg(ha:Bij n a)(hb:Bij n b)(hg:0<g)(RZ:g∣n)(h:∀i,i<n->b i+a i+1=2*(a i-a i%g)+g):(∀i j k,i<n->j<n->k<n->i≠k->tu a b i j=true->tu a b j k=true->tu a b i k=true)/\∀i,i<n->cn n (tu a b i)+1=g:=by
 have key:∀i j,i<n->j<n->(i==j||tu a b i j)=decide (a i/g=a j/g):=λi j hi hj=>by
  by_cases e:i=j
  ·subst e;simp
  have h1:a i≠a j:=λe'=>e (ha.inj i j hi hj e')
  have ei:=iN (a i) g
  have ej:=iN (a j) g
  have li:=kR (a i) hg
  have lj:=kR (a j) hg
  have bi:=h i hi
  have bj:=h j hj
  rw [beq_eq_false_iff_ne.mpr e,Bool.false_or,dO,Cy,decide_eq_true_iff]
  generalize hq:a i/g=q1 at ei ⊢
  generalize hr:a j/g=q2 at ej ⊢
  exact rM ei ej li lj bi bj h1 (λc=>by rw [<-i3];exact dQ _ c) (λc=>by rw [<-i3];exact dQ _ c)
 refine⟨λi j k hi hj hk H7 h1 h2=>?_,λi hi=>?_⟩
 ·have e1:=key i j hi hj
  have e2:=key j k hj hk
  have e3:=key i k hi hk
  rw [h1,Bool.or_true] at e1
  rw [h2,Bool.or_true] at e2
  rw [decide_eq_true ((of_decide_eq_true e1.symm).trans (of_decide_eq_true e2.symm)),show (i==k)=false by simp [H7],Bool.false_or] at e3
  exact e3
 ·rw [<-vn ha hb hi rfl,fP n λj hj=>key i j hi hj,ha.cnt (λx=>decide (a i/g=x/g))]
  have li:=ha.bd i hi
  obtain⟨m,hm⟩:=RZ
  have hq:a i/g<m:=by rw [Nat.div_lt_iff_lt_mul hg,Nat.mul_comm,<-hm];exact li
  have E0:g*(a i/g)+g<=n:=by rw [hm,<-i3];exact dQ _ hq
  refine(iT _ (g*(a i/g)) (g*(a i/g)+g) n (λq _=>?_) E0 sX).trans y_471
  ·have eq:=iN q g
   have lq:=kR q hg
   by_cases c:a i/g=q/g
   ·rw [<-c] at eq;simp [c];rw [<-c];exact y_598 lq eq
   ·rw [decide_eq_false c]
    rcases aI c with c|c
    ·have:g*(a i/g)+g<=g*(q/g):=by rw [<-i3];exact dQ _ c
     symm;simp;intro;exact dh 0xcba218a910c910 ((g*((a i)/g))+g) (g*(q/g)) (q%g) q rfl this eq
    ·have:g*(q/g)+g<=g*(a i/g):=by rw [<-i3];exact dQ _ c
     symm;simp;intro;exact(gk 0x9cd210cb14a910abd21e (g*((a i)/g)) q (q%g) g (g*(q/g)) rfl ‹_› lq this eq).elim
end
structure Sg(n:Nat)(s:Nat->Nat->Int):Prop where
 self:∀i,s i i=0
 two:∀i j,i<n->j<n->i≠j->s i j=1\/s i j=-1
 anti:∀i j,s j i=- s i j
 tr:∀i j k,i<n->j<n->k<n->s i j=1->s j k=1->s i k=1
noncomputable def up(n:Nat)(s:Nat->Nat->Int)(i:Nat):Nat:=cn n λj=>s i j==1
section
variable{n:Nat}{s t:Nat->Nat->Int}
theorem Sg.lt(h:Sg n s)(hi:i<n)(hj:j<n)(e:s i j=1):up n s j<up n s i:=by
 refine BA n (λk hk e2=>?_) ⟨j,hj,by simp [e],by simp [h.self]⟩
 simp only [beq_iff_eq] at e2 ⊢
 exact h.tr i j k hi hj hk e e2
theorem Sg.iff(h:Sg n s)(hi:i<n)(hj:j<n):s i j=if up n s j<up n s i then 1 else if up n s i<up n s j then -1 else 0:=by
 by_cases e:i=j
 ·subst e;simp [h.self]
 rcases h.two i j hi hj e with c|c
 ·rw [if_pos (h.lt hi hj c),c]
 ·have:=h.lt hj hi (by rw [h.anti,c];rfl)
  rw [if_neg (by exact b6 2836699670 (up n s i) (up n s j) rfl this),if_pos this,c]
theorem Sg.bij(h:Sg n s):Bij n (up n s):=⟨λi hi=>by
 have:=BA (n:=n) (p:=λj=>s i j==1) (q:=λ_=>true) (λ_ _ _=>rfl) ⟨i,hi,rfl,by simp [h.self]⟩
 rw [pf] at this;exact this,λi j hi hj e=>by
 apply aO
 intro ne
 have e1:=h.iff hi hj
 rw [e] at e1
 simp at e1
 have:=h.two i j hi hj ne
 exact y_767 e1 this⟩
theorem Sg.sum(h:Sg n s)(hi:i<n):c6 n (s i)=2*(up n s i:Int)-(n-1):=by
 have e:∀j,j<n->s i j=(2*(if (s i j==1)=true then 1 else 0)-1)+(if (i==j)=true then 1 else 0):=λj hj=>by
  by_cases c:i=j
  ·subst c;simp [h.self]
  ·rcases h.two i j hi hj c with d|d<;>simp [c,d]
 rw [cG n e,dT,qp,el,sv (λj=>s i j==1),sv (λj=>i==j),sF n hi,g7]
 exact y_449
noncomputable def td(s t:Nat->Nat->Int)(i j:Nat):Bool:=s i j != t i j
theorem tl(hs:Sg n s)(ht:Sg n t)(hi:i<n)(hj:j<n):td s t i j=tu (up n s) (up n t) i j:=by
 by_cases e:i=j
 ·subst e;simp [td,tu,hs.self,ht.self]
 have b1:up n s i≠up n s j:=λx=>e (hs.bij.inj i j hi hj x)
 have b2:up n t i≠up n t j:=λx=>e (ht.bij.inj i j hi hj x)
 unfold td tu
 rw [hs.iff hi hj,ht.iff hi hj]
 by_cases c1:up n s j<up n s i<;>by_cases c2:up n t j<up n t i
 ·simp [c1,c2]
 ·rw [if_pos c1,if_neg c2,if_pos (yW b2 c2)];simp [c1,c2]
 ·rw [if_neg c1,if_pos (show up n s i<up n s j by exact yW b1 c1),if_pos c2];simp [c1,c2]
 ·rw [if_neg c1,if_pos (show up n s i<up n s j by exact yW b1 c1),if_neg c2,if_pos (yW b2 c2)];simp [c1,c2]
theorem zY(hs:Sg n s)(ht:Sg n t)(i j:Nat):td s t i j=td s t j i:=by
 unfold td
 rw [hs.anti i j,ht.anti i j]
 cases h:s i j != t i j
 ·simp only [bne_eq_false_iff_eq] at h;simp [h]
 ·simp only [bne_iff_ne,ne_eq] at h;symm;simp only [bne_iff_ne,ne_eq];exact y_642 h
noncomputable def ti(s t:Nat->Nat->Int)(i j:Nat):Int:=if td s t i j then 1 else 0
noncomputable def nT(n:Nat)(s t:Nat->Nat->Int)(k:Int):Int:=pS n λa b c=>if ti s t a b+ti s t a c+ti s t b c=k then 1 else 0
noncomputable def nP(n:Nat)(s t:Nat->Nat->Int):Int:=iE n λa b=>ti s t a b
noncomputable def nO(n:Nat)(s t:Nat->Nat->Int):Int:=iE n λa b=>1-ti s t a b
theorem BK(i j:Nat):ti s t i j=0\/ti s t i j=1:=by unfold ti;split<;>simp
theorem zV(hs:Sg n s)(ht:Sg n t)(hi:i<n)(hj:j<n)(ne:i≠j):s i j*t i j=1-2*ti s t i j:=by
 unfold ti td
 rcases hs.two i j hi hj ne with a|a<;>rcases ht.two i j hi hj ne with b|b<;>simp [a,b]
noncomputable def mj(b:Bool):Int:=if b then 1 else -1
noncomputable abbrev Ag(x y:Int):Int:=if x != y then 1 else 0
noncomputable abbrev isI(x y:Int):Int:=if x=y then 1 else 0
theorem AX:∀x1 x2 x3 y1 y2 y3:Bool,(mj x1=1->mj x3=1->mj x2=1)->(mj x1=-1->mj x3=-1->mj x2=-1)->(mj y1=1->mj y3=1->mj y2=1)->(mj y1=-1->mj y3=-1->mj y2=-1) ->
 mj x1*mj y2+mj x2*mj y1+-mj x1*mj y3+mj x3*-mj y1+-mj x2*-mj y3+-mj x3*-mj y2 =
  ((2*isI (Ag (mj x1) (mj y1)+Ag (mj x2) (mj y2)+Ag (mj x3) (mj y3)) 0+2*isI (Ag (mj x1) (mj y1)+Ag (mj x2) (mj y2)+Ag (mj x3) (mj y3)) 1)+(-2)*isI (Ag (mj x1) (mj y1)+Ag (mj x2) (mj y2)+Ag (mj x3) (mj y3)) 2)+(-2)*isI (Ag (mj x1) (mj y1)+Ag (mj x2) (mj y2)+Ag (mj x3) (mj y3)) 3:=by decide +kernel
theorem CC{x1 x2 x3 y1 y2 y3:Int}(a1:x1=1\/x1=-1)(a2:x2=1\/x2=-1)(a3:x3=1\/x3=-1)(b1:y1=1\/y1=-1)(b2:y2=1\/y2=-1)(b3:y3=1\/y3=-1)(s1:x1=1->x3=1->x2=1)(s2:x1=-1->x3=-1->x2=-1)(t1:y1=1->y3=1->y2=1)(t2:y1=-1->y3=-1->y2=-1):
  x1*y2+x2*y1+-x1*y3+x3*-y1+-x2*-y3+-x3*-y2=((2*isI (Ag x1 y1+Ag x2 y2+Ag x3 y3) 0+2*isI (Ag x1 y1+Ag x2 y2+Ag x3 y3) 1)+(-2)*isI (Ag x1 y1+Ag x2 y2+Ag x3 y3) 2)+(-2)*isI (Ag x1 y1+Ag x2 y2+Ag x3 y3) 3:=by
 have f:∀{x:Int},x=1\/x=-1->x=mj (x==1):=λh=>by rcases h with rfl|rfl<;>rfl
 rw [f a1,f a2,f a3] at s1 s2 ⊢
 rw [f b1,f b2,f b3] at t1 t2 ⊢
 exact AX _ _ _ _ _ _ s1 s2 t1 t2
theorem ze(hs:Sg n s)(ht:Sg n t):c6 n (λi=>c6 n (s i)*c6 n (t i))=2*(nO n s t-nP n s t+nT n s t 0+nT n s t 1-nT n s t 2-nT n s t 3):=by
 rw [cube s t hs.self ht.self]
 have e1:iE n (λa b=>s a b*t a b+s b a*t b a)=iE n (λa b=>2*(1-ti s t a b)+(-2)*ti s t a b):=fY n λa b h1 h2=>by
  rw [zV hs ht (gm h1 h2) h2 (sZ h1),zV hs ht h2 (gm h1 h2) (aB ‹_›)]
  have:ti s t b a=ti s t a b:=by unfold ti;rw [zY hs ht]
  exact y_444 this
 have e2:pS n (six s t)=pS n (λa b c=>((2*(if ti s t a b+ti s t a c+ti s t b c=0 then 1 else 0)+2*(if ti s t a b+ti s t a c+ti s t b c=1 then 1 else 0))+(-2)*(if ti s t a b+ti s t a c+ti s t b c=2 then 1 else 0))+(-2)*(if ti s t a b+ti s t a c+ti s t b c=3 then 1 else 0)):=j0 n λa b c h1 h2 h3=>by
  have S9:=hs.two a b (jZ h1 h2 h3) (gm h2 h3) (sZ h1)
  have S8:=hs.two a c (jZ h1 h2 h3) ‹_› (bX 0xba14a914b91e a b c rfl h1 h2)
  have S5:=hs.two b c (gm h2 h3) ‹_› (sZ h2)
  have tab:=ht.two a b (jZ h1 h2 h3) (gm h2 h3) (sZ h1)
  have SU:=ht.two a c (jZ h1 h2 h3) ‹_› (bX 0xba14a914b91e a b c rfl h1 h2)
  have SN:=ht.two b c (gm h2 h3) ‹_› (sZ h2)
  have s1:=hs.tr a b c (jZ h1 h2 h3) (gm h2 h3) ‹_›
  have s2:s a b=-1->s b c=-1->s a c=-1:=λh1 h2=>by
   have:=hs.tr c b a ‹_› (gm ‹_› h3) (jZ ‹_› ‹_› h3) (by rw [hs.anti b c,h2];rfl) (by rw [hs.anti a b,h1];rfl)
   rw [hs.anti a c] at this;exact B2 this
  have t1:=ht.tr a b c (jZ h1 h2 h3) (gm h2 h3) ‹_›
  have t2:t a b=-1->t b c=-1->t a c=-1:=λh1 h2=>by
   have:=ht.tr c b a ‹_› (gm ‹_› h3) (jZ ‹_› ‹_› h3) (by rw [ht.anti b c,h2];rfl) (by rw [ht.anti a b,h1];rfl)
   rw [ht.anti a c] at this;exact B2 this
  unfold six ti td
  rw [hs.anti a b,hs.anti a c,hs.anti b c,ht.anti a b,ht.anti a c,ht.anti b c]
  exact CC S9 S8 S5 tab SU SN s1 s2 t1 t2
 rw [e1,e2,rN,j6,j6,n6,n6,n6,l8,l8,l8,l8]
 exact y_430
noncomputable def dg(n:Nat)(s t:Nat->Nat->Int)(i:Nat):Int:=c6 n (ti s t i)
theorem nR(hs:Sg n s)(ht:Sg n t)(i j:Nat):ti s t i j=ti s t j i:=by unfold ti;rw [zY hs ht]
theorem mG(hs:Sg n s)(ht:Sg n t)(i:Nat):ti s t i i=0:=by unfold ti td;simp [hs.self,ht.self]
theorem qg(hs:Sg n s)(ht:Sg n t):c6 n (dg n s t)=2*nP n s t:=by
 show c6 n (λi=>c6 n (ti s t i))=_
 rw [uz,cG n (g:=λ_=>0) λi _=>mG hs ht i,mR,fY n (g:=λa b=>2*ti s t a b) λa b _ _=>by rw [nR hs ht b a];exact y_465,j6]
 exact Ca
theorem dg_sq(hs:Sg n s)(ht:Sg n t):c6 n (λi=>dg n s t i*dg n s t i)=2*nP n s t+2*nT n s t 2+6*nT n s t 3:=by
 show c6 n (λi=>c6 n (ti s t i)*c6 n (ti s t i))=_
 rw [cube _ _ (mG hs ht) (mG hs ht),fY n (g:=λa b=>2*ti s t a b) λa b _ _=>by
  rw [nR hs ht b a];rcases BK (s:=s) (t:=t) a b with h|h<;>rw [h]<;>rfl,j6,
  j0 n (g:=λa b c=>2*(if ti s t a b+ti s t a c+ti s t b c=2 then 1 else 0)+6*(if ti s t a b+ti s t a c+ti s t b c=3 then 1 else 0)) λa b c _ _ _=>by
   unfold six
   rw [nR hs ht b a,nR hs ht c a,nR hs ht c b]
   rcases BK (s:=s) (t:=t) a b with h|h<;>rcases BK (s:=s) (t:=t) a c with h2|h2<;>rcases BK (s:=s) (t:=t) b c with h3|h3<;>rw [h,h2,h3]<;>rfl,n6,l8,l8]
 exact y_462
noncomputable def fw(n:Nat)(s t:Nat->Nat->Int)(i:Nat):Int:=n-1-dg n s t i
noncomputable abbrev ng(t:Nat->Nat->Int)(i j:Nat):Int:=- t i j
theorem Sg.neg(h:Sg n t):Sg n (ng t):=⟨λi=>by simp [h.self],λi j hi hj ne=>by have:=h.two i j hi hj ne;simp only [ng];exact BW this,λi j=>by simp only [ng];rw [h.anti],λi j k hi hj hk h1 h2=>by
 have e1:t j i=1:=by rw [h.anti i j];exact h1
 have e2:t k j=1:=by rw [h.anti j k];exact h2
 have:=h.tr k j i hk hj hi e2 e1
 have:=h.anti i k
 simp only [ng];exact y_546 ‹_› this⟩
theorem rz(hs:Sg n s)(ht:Sg n t)(hi:i<n)(hj:j<n)(ne:i≠j):ti s (ng t) i j=1-ti s t i j:=by
 unfold ti td ng
 rcases hs.two i j hi hj ne with a|a<;>rcases ht.two i j hi hj ne with b|b<;>simp [a,b]
theorem uT(hs:Sg n s)(ht:Sg n t)(hi:i<n):fw n s t i=dg n s (ng t) i:=by
 unfold fw dg
 rw [cG n (f:=ti s (ng t) i) (g:=λj=>(1-ti s t i j)-(if (i==j)=true then 1 else 0)) λj hj=>by
  by_cases c:i=j
  ·subst c;simp [mG hs ht,mG hs ht.neg]
  ·rw [rz hs ht hi hj c];simp [c],qp,qp,sv (λj=>i==j),sF n hi,g7]
 exact y_476
theorem rS(hs:Sg n s)(ht:Sg n t):nO n s t=nP n s (ng t):=fY n λa b h1 h2=>(rz hs ht (gm h1 h2) h2 (sZ h1)).symm
theorem xj(hs:Sg n s)(ht:Sg n t)(k:Int):nT n s (ng t) k=nT n s t (3-k):=j0 n λa b c h1 h2 h3=>by
 rw [rz hs ht (by exact jZ h1 h2 h3) (by exact gm h2 h3) (by exact sZ h1),rz hs ht (by exact jZ h1 h2 h3) ‹_› (by exact bX 0xba14a914b91e a b c rfl h1 h2),rz hs ht (by exact gm h2 h3) ‹_› (by exact sZ h2)]
 congr 1
 simp only [eq_iff_iff];exact y_601
end
noncomputable abbrev sgF(ks:List (Int×Int))(rows:List (List Int))(i j:Nat):Int:=dw ks (rows.getD i []) (rows.getD j [])
theorem vh(r:List Int):∀ks,dw ks r r=0
 |[]=>rfl
 |(i,d)::ks=>by rw [dw,if_neg (by exact cN 39191 (r.getD i.toNat 0) rfl),if_neg (by exact cN 39191 (r.getD i.toNat 0) rfl)];exact vh r ks
theorem vm(r o:List Int):∀ks,dw ks o r=- dw ks r o
 |[]=>rfl
 |(i,d)::ks=>by
  have ih:=vm r o ks
  simp only [dw]
  repeat' split
  all_goals lia
theorem Az(a b c:List Int):∀ks:List (Int×Int),(∀p∈ks,p.2=1\/p.2=-1)->dw ks a b=1->dw ks b c=1->dw ks a c=1
 |[],_=>by simp [dw]
 |(i,d)::ks,h=>by
  have ih:=Az a b c ks λp hp=>h p (az _ hp)
  have hd:d=1\/d=-1:=h (i,d) aW
  simp only [dw]
  intro h1 h2
  split at h1<;>split at h2<;>(try split at h1)<;>(try split at h2)<;>(try split)<;>(try split)<;>first|lia|exact ih h1 h2
theorem x8(a b:List Int):∀ks:List (Int×Int),(∀p∈ks,p.2=1\/p.2=-1)->(∃p∈ks,a.getD p.1.toNat 0≠b.getD p.1.toNat 0)->dw ks a b=1\/dw ks a b=-1
 |[],_,⟨p,hp,_⟩=>by simp at hp
 |(i,d)::ks,h,⟨p,hp,DY⟩=>by
  have hd:d=1\/d=-1:=h (i,d) aW
  simp only [dw]
  split
  ·exact BW hd
  ·split
   ·exact y_712 hd
   ·rcases aQ.mp hp with rfl|hp
    ·dsimp only at DY;exact y_711 DY ‹_› ‹_›
    ·exact x8 a b ks (λp hp=>h p (az _ hp)) ⟨p,hp,DY⟩
theorem pV(B':List Int)(hi:i<(aS B').length):((aS B').getD i []).getD 2 0=(i:Int):=by
 have h:(aS B')[i]?=some ((aS B')[i]):=ae hi
 rw [show (aS B').getD i []=(aS B')[i] by rw [aw,h];rfl]
 unfold aS
 simp
theorem CD(B':List Int)(ks:List (Int×Int))(h:∀p∈ks,p.2=1\/p.2=-1)(h2:∃p∈ks,p.1=2):Sg (aS B').length (sgF ks (aS B')):=
 ⟨λi=>vh _ _,λi j hi hj ne=>by
  refine ci (h2) λp hp e=>?_
  refine x8 _ _ ks h ⟨p,hp,?_⟩
  rw [e]
  show ((aS B').getD i []).getD 2 0≠((aS B').getD j []).getD 2 0
  rw [pV B' hi,pV B' hj];exact y_13 ne,λi j=>vm _ _ _,λi j k _ _ _=>Az _ _ _ ks h⟩
theorem xn(rows:List (List Int)):rows=(aG rows.length).map λj=>rows.getD j []:=by
 apply jJ
 intro i
 by_cases hi:i<rows.length
 ·simp [ah,cs,hi,aw]
 ·rw [cS (nj hi),cS (by simp;exact nj hi)]
theorem rK(ks:List (Int×Int))(rows:List (List Int))(r:List Int)(x:Int):(rows.map λo=>dw ks r o).count x=cn rows.length λj=>dw ks r (rows.getD j [])==x:=by
 conv=>lhs;rw [xn rows]
 rw [aP,List.count,List.countP_map]
 rfl
theorem n5(hi:i<rows.length)(hj:j<rows.length):tt (de ks rows) i j=sgF ks rows i j:=by
 simp [tt,de,sgF,aw,ah,ae hi,ae hj]
theorem yF(hi:i<rows.length):(dp (de ks rows))[i]?=some ((up rows.length (sgF ks rows) i:Nat):Int):=by
 simp only [dp,de,aP,ah,ae hi,dv,bM,rK]
 simp [up,sgF,aw,ae hi]
theorem zN{c:List Int}{v:Int}(h0:0<=v)(hk:k<c.length):(zO c v).getD k 0=c.getD k 0+if v=(k:Int) then 1 else 0:=by
 unfold zO
 by_cases e:v=k
 ·subst e
  simp [aw,List.getElem?_set,hk]
 ·rw [if_neg e,aw,List.getElem?_set_ne (y_15 h0 e),aw];simp
theorem wI{m:List (List Int)}(h:Mat01 m)(j k x:Nat):∀i c,x<c.length->(thI m j k i c).getD x 0=c.getD x 0+c6 i λa=>if tt m a j+tt m a k+tt m j k=(x:Int) then 1 else 0
 |0,c,_=>by simp [ti0,tiS,sm0,smS]
 |i+1,c,hx=>by
  have:=h.v i j;have:=h.v i k;have:=h.v j k
  rw [thI,zN (y_236 ‹_› ‹_› this) (by rw [qo];exact hx),wI h j k x i c hx,c6];exact AI
theorem wH{m:List (List Int)}(h:Mat01 m)(k x:Nat):∀j c,x<c.length->(thJ m k j c).getD x 0=c.getD x 0+c6 j λb=>c6 b λa=>if tt m a b+tt m a k+tt m b k=(x:Int) then 1 else 0
 |0,c,_=>by simp [tj0,tjS,sm0,smS]
 |j+1,c,hx=>by
  rw [thJ,wI h j k x j _ (by rw [qm];exact hx),wH h k x j c hx,c6];exact AI
theorem wG{m:List (List Int)}(h:Mat01 m)(x:Nat)(hx:x<4):∀k,(thK m k).getD x 0=pS k λa b c=>if tt m a b+tt m a c+tt m b c=(x:Int) then 1 else 0
 |0=>lt4 (P:=λx=>(thK m 0).getD x 0=0) rfl rfl rfl rfl x hx
 |k+1=>by rw [thK,wH h k x k _ (by rw [mH];exact hx),wG h x hx k];rfl
section
variable{n:Nat}{s t:Nat->Nat->Int}
theorem te{f:Nat->Nat->Nat->Int}(h:∀a b c,0<=f a b c)(n:Nat):0<=pS n f:=eV n λc _=>eV c λb _=>eV b λa _=>h a b c
theorem wB{f:Nat->Nat->Nat->Int}(h:∀a b c,0<=f a b c){n:Nat}(e:pS n f=0){a b c:Nat}(E1:a<b)(Vd:b<c)(hc:c<n):f a b c=0:=by
 have h1:=iu n (λc _=>eV c λb _=>eV b λa _=>h a b c) e c hc
 have h2:=iu c (λb _=>eV b λa _=>h a b c) h1 b Vd
 exact iu b (λa _=>h a b c) h2 a E1
theorem rR(k:Int):0<=nT n s t k:=te (λa b c=>by split<;>lia) n
theorem By(S:Sg n s)(T:Sg n t)(hi:i<n):dg n s t i=(cn n (tu (up n s) (up n t) i):Nat):=by
 unfold dg
 rw [<-sv]
 exact cG n λj hj=>by unfold ti;rw [tl S T hi hj]
theorem Af(S:Sg n s)(T:Sg n t):nT n s t 2=0↔∀i j k,i<n->j<n->k<n->i≠k->tu (up n s) (up n t) i j=true->tu (up n s) (up n t) j k=true->tu (up n s) (up n t) i k=true:=by
 constructor
 ·intro h
  have key:∀a b c,a<b->b<c->c<n->ti s t a b+ti s t a c+ti s t b c≠2:=λa b c h1 h2 h3 e=>by
   have:=wB (λa b c=>by split<;>lia) h h1 h2 h3
   simp [e] at this
  intro i j k hi hj hk H7 h1 h2
  have e1:ti s t i j=1:=by unfold ti;rw [tl S T hi hj,h1];rfl
  have e2:ti s t j k=1:=by unfold ti;rw [tl S T hj hk,h2];rfl
  have TF:i≠j:=λe=>by subst e;rw [mG S T] at e1;exact fZ 17891615 [] [] rfl e1
  have TC:j≠k:=λe=>by subst e;rw [mG S T] at e2;exact fZ 17891615 [] [] rfl e2
  have e3:ti s t i k=1:=by
   have K5:=BK (s:=s) (t:=t) i k
   have y1:=nR S T i j;have y2:=nR S T j k;have y3:=nR S T i k
   rcases aI TF with a|a<;>rcases aI TC with b|b<;>rcases aI H7 with c|c<;>first
    |lia
    |(have:=key _ _ _ a b hk;exact y_549 K5 e1 this e2)
    |(have:=key _ _ _ b a hi;exact y_553 K5 e1 e2 y3 y1 this y2)
    |(have:=key _ _ _ a c hj;lia)
    |(have:=key _ _ _ c a hj;exact y_552 K5 e1 e2 y3 this y2)
    |(have:=key _ _ _ c b hj;exact y_548 K5 e1 this e2 y2)
    |(have:=key _ _ _ b c hj;lia)
    |(have:=key _ _ _ a c hk;exact y_550 K5 e1 e2 this y1)
    |(have:=key _ _ _ b c hi;exact y_551 K5 e1 e2 y3 this y1)
    |(have:=key _ _ _ c b hi;lia)
    |(have:=key _ _ _ c a hk;lia)
  unfold ti at e3
  rw [tl S T hi hk] at e3
  cases h:tu (up n s) (up n t) i k
  ·rw [h] at e3;simp at e3
  ·rfl
 ·intro h
  have:∀a b c,a<b->b<c->c<n->(if ti s t a b+ti s t a c+ti s t b c=2 then(1:Int) else 0)=0:=λa b c h1 h2 h3=>by
   rw [if_neg]
   intro e
   have VP:=h a b c (jZ h1 h2 h3) (gm h2 h3) h3 (bX 0xba14a914b91e a b c rfl h1 h2)
   have Sv:=h a c b (jZ h1 h2 h3) h3 (gm h2 h3) (sZ h1)
   have Sr:=h b a c (gm h2 h3) (jZ h1 h2 h3) h3 (sZ h2)
   rw [rv S.bij T.bij h3 (show b<n by exact gm h2 h3)] at Sv
   rw [rv S.bij T.bij (show b<n by exact gm h2 h3) (show a<n by exact jZ h1 h2 h3)] at Sr
   unfold ti at e
   rw [tl S T (jZ h1 h2 h3) (gm h2 h3),tl S T (jZ h1 h2 h3) h3,tl S T (gm h2 h3) h3] at e
   cases h1:tu (up n s) (up n t) a b<;>cases h2:tu (up n s) (up n t) a c<;>cases h3:tu (up n s) (up n t) b c<;>simp [h1,h2,h3] at e VP Sv Sr
  show pS n _=0
  rw [j0 n (g:=λ_ _ _=>0) this]
  delta pS iE;dsimp only
  simp [mR]
theorem xq(S:Sg n s)(T:Sg n t)(hn:0<n):(nT n s t 2=0/\∀i,i<n->n*dg n s t i=2*nP n s t)↔∃g,0<g/\g<=n/\g∣n/\∀i,i<n->up n t i+up n s i+1=2*(up n s i-up n s i%g)+g:=by
 constructor
 ·rintro⟨h2,hd⟩
  have D1:∀i,i<n->cn n (tu (up n s) (up n t) i)=cn n (tu (up n s) (up n t) 0):=λi hi=>by
   have e1:=hd i hi
   have e2:=hd 0 hn
   rw [<-e2] at e1
   have:=Int.eq_of_mul_eq_mul_left (cV 9900235265819 n rfl hn) e1
   rw [By S T hi,By S T hn] at this
   exact y_519 this
  obtain⟨h1,h3⟩:=w9 S.bij T.bij ((Af S T).mp h2) D1
  exact⟨cn n (tu (up n s) (up n t) 0)+1,dU _,Nat.le_of_dvd hn h1,h1,λi hi=>by have:=h3 i hi;exact y_453 this⟩
 ·rintro⟨g,hg,RZ,U7,h⟩
  obtain⟨h1,h2⟩:=xg S.bij T.bij hg U7 h
  refine⟨(Af S T).mpr h1,λi hi=>?_⟩
  have e:∀j,j<n->dg n s t j=(g:Int)-1:=λj hj=>by
   rw [By S T hj];have:=h2 j hj;exact y_493 this
  rw [<-qg S T,cG n e,g7,e i hi]
theorem Cv(T:Sg n t)(hi:i<n):up n (ng t) i+up n t i+1=n:=by
 have h1:=T.sum hi
 have h2:=T.neg.sum hi
 rw [show c6 n (ng t i)=-c6 n (t i) from qq (t i) n,h1] at h2
 exact y_438 h2
theorem zo(S:Sg n s)(T:Sg n t)(hn:0<n):(nT n s t 1=0/\∀i,i<n->n*fw n s t i=2*nO n s t)↔∃g,0<g/\g<=n/\g∣n/\∀i,i<n->up n s i+n=up n t i+2*(up n s i-up n s i%g)+g:=by
 have:=xq S T.neg hn
 rw [xj S T,<-rS S T] at this
 refine Iff.trans (and_congr Iff.rfl (forall_congr' λi=>imp_congr_right λhi=>by rw [uT S T hi])) (this.trans ?_)
 refine exists_congr λg=>and_congr_right λ_=>and_congr_right λ_=>and_congr_right λ_=>forall_congr' λi=>imp_congr_right λhi=>?_
 have:=Cv T hi
 have h3:up n s i%g<=up n s i:=Nat.mod_le _ _
 exact y_602 this
theorem vN(f:Nat->Int)(n:Nat)(D c:Int)(h1:c6 n f=c):c6 n (λi=>(n*f i-D)*(n*f i-D))=n*n*c6 n (λi=>f i*f i)-2*n*D*c+n*(D*D):=by
 rw [cG n (g:=λi=>((n*n*(f i*f i))+(- (2*n*D))*f i)+D*D) λi _=>by grind,dT,dT,el,el,g7,h1]
 grind
theorem sr(S:Sg n s)(T:Sg n t):c6 n (λi=>(n*dg n s t i-2*nP n s t)*(n*dg n s t i-2*nP n s t))=n*n*(2*nP n s t+2*nT n s t 2+6*nT n s t 3)-4*n*(nP n s t*nP n s t):=by
 rw [vN _ _ _ _ (qg S T),dg_sq S T];grind
theorem As(S:Sg n s)(T:Sg n t):c6 n (fw n s t)=2*nO n s t:=by
 rw [cG n λi hi=>uT S T hi,qg S T.neg,rS S T]
theorem xH(S:Sg n s)(T:Sg n t):c6 n (λi=>(n*fw n s t i-2*nO n s t)*(n*fw n s t i-2*nO n s t))=n*n*(2*nO n s t+2*nT n s t 1+6*nT n s t 0)-4*n*(nO n s t*nO n s t):=by
 rw [cG n (g:=λi=>(n*dg n s (ng t) i-2*nP n s (ng t))*(n*dg n s (ng t) i-2*nP n s (ng t))) λi hi=>by rw [uT S T hi,rS S T],sr S T.neg,rS S T,xj S T,xj S T]
 rfl
end
theorem lH(f:Nat->Int):∀n,((aG n).map f).sum=c6 n f
 |0=>rfl
 |n+1=>by rw [iO,fU,List.sum_append,lH f n];simp [sm0,smS]
theorem uK:∀l:List Int,jc l l.length=l.sum
 |[]=>rfl
 |a::l=>by rw [eQ,jc,uK l,List.sum_cons]
theorem nu(f:Nat->Int)(n:Nat):jc ((aG n).map f) n=c6 n f:=by
 have:=uK ((aG n).map f)
 rw [bR,dJ,lH] at this
 exact this
theorem oX{n:Nat}(h:((aG n).map f)[i]?=some u):i<n/\f i=u:=by
 have hi:=(aV.mp h).1
 simp only [bR,dJ] at hi
 rw [ah,cs hi] at h
 exact⟨hi,by simpa using h⟩
theorem om{i d p q:Int}{o:List Int}(h:(d=1/\p=o.getD i.toNat 0/\q=r.getD i.toNat 0)\/(d=-1/\p=r.getD i.toNat 0/\q=o.getD i.toNat 0)\/(d=1/\p=-r.getD i.toNat 0/\q=-o.getD i.toNat 0)\/(d=-1/\p=-o.getD i.toNat 0/\q=-r.getD i.toNat 0)):
  (dw ((i,d)::ks) r o==1)=(if p=q then dw ks r o==1 else decide (p<q))/\(dw ((i,d)::ks) r o==0)=(p==q&&dw ks r o==0):=by
 rw [dw]
 generalize r.getD i.toNat 0=x at h ⊢
 generalize o.getD i.toNat 0=y at h ⊢
 generalize dw ks r o=e
 rcases fo x y with hl|hl|hl
 ·rw [if_pos hl,if_neg (y_696 hl h:¬p=q),beq_eq_false_iff_ne.mpr (y_40 hl h:p≠q),dO,beq_iff_eq,decide_eq_true_iff]
  exact⟨y_605 hl h,beq_eq_false_iff_ne.mpr (y_14 h)⟩
 ·rw [if_neg (by exact eW 2837293335 x y rfl hl),if_neg (by exact eW 2837027351 x y rfl hl),if_pos (by exact B1 hl h:p=q),beq_iff_eq.mpr (by exact B1 hl h:p=q)]
  exact⟨rfl,rfl⟩
 ·rw [if_neg (wo hl),if_pos hl,if_neg (y_695 hl h:¬p=q),beq_eq_false_iff_ne.mpr (y_39 hl h:p≠q),dO,beq_iff_eq,decide_eq_true_iff]
  exact⟨y_606 hl h,beq_eq_false_iff_ne.mpr (y_38 h)⟩
theorem sG{i:Int}{o ps qs:List Int}(ih:(dw ks r o==1)=fg ps qs/\(dw ks r o==0)=(ps==qs)):(dw ((i,1)::ks) r o==1)=fg (o.getD i.toNat 0::ps) (r.getD i.toNat 0::qs)/\(dw ((i,1)::ks) r o==0)=(o.getD i.toNat 0::ps==r.getD i.toNat 0::qs):=by
 have h:=om (ks:=ks) (.inl ⟨rfl,rfl,rfl⟩:(1:Int)=1/\o.getD i.toNat 0=o.getD i.toNat 0/\r.getD i.toNat 0=r.getD i.toNat 0\/_)
 rw [ih.1,ih.2] at h;exact h
theorem ya{i:Int}{o ps qs:List Int}(ih:(dw ks r o==1)=fg ps qs/\(dw ks r o==0)=(ps==qs)):(dw ((i,-1)::ks) r o==1)=fg (-o.getD i.toNat 0::ps) (-r.getD i.toNat 0::qs)/\(dw ((i,-1)::ks) r o==0)=(-o.getD i.toNat 0::ps==-r.getD i.toNat 0::qs):=by
 have h:=om (i:=i) (d:=-1) (p:=-o.getD i.toNat 0) (q:=-r.getD i.toNat 0) (r:=r) (o:=o) (ks:=ks) (.inr (.inr (.inr ⟨rfl,rfl,rfl⟩)))
 rw [ih.1,ih.2] at h;exact h
theorem Ay{i:Int}{o ps qs:List Int}(ih:(dw ks r o==1)=fg qs ps/\(dw ks r o==0)=(ps==qs)):(dw ((i,-1)::ks) r o==1)=fg (r.getD i.toNat 0::qs) (o.getD i.toNat 0::ps)/\(dw ((i,-1)::ks) r o==0)=(o.getD i.toNat 0::ps==r.getD i.toNat 0::qs):=by
 have h:=om (i:=i) (d:=-1) (p:=r.getD i.toNat 0) (q:=o.getD i.toNat 0) (r:=r) (o:=o) (ks:=ks) (.inr (.inl ⟨rfl,rfl,rfl⟩))
 rw [ih.1,ih.2,Bool.beq_comm (a:=r.getD i.toNat 0)] at h;exact h
theorem Dh{i:Int}{o ps qs:List Int}(ih:(dw ks r o==1)=fg qs ps/\(dw ks r o==0)=(ps==qs)):(dw ((i,1)::ks) r o==1)=fg (-r.getD i.toNat 0::qs) (-o.getD i.toNat 0::ps)/\(dw ((i,1)::ks) r o==0)=(-o.getD i.toNat 0::ps==-r.getD i.toNat 0::qs):=by
 have h:=om (i:=i) (d:=1) (p:=-r.getD i.toNat 0) (q:=-o.getD i.toNat 0) (r:=r) (o:=o) (ks:=ks) (.inr (.inr (.inl ⟨rfl,rfl,rfl⟩)))
 rw [ih.1,ih.2,Bool.beq_comm (a:=-r.getD i.toNat 0)] at h;exact h
theorem key1(a b c x y z:Int):(dw ks1 [a,b,c] [x,y,z]==1)=fg [-x,y,z] [-a,b,c]/\(dw ks1 [a,b,c] [x,y,z]==0)=([-x,y,z]==[-a,b,c]):=
 ya (sG (sG ⟨rfl,rfl⟩))
theorem key3(a b c x y z:Int):(dw ks3 [a,b,c] [x,y,z]==1)=fg [-x,y] [-a,b]/\(dw ks3 [a,b,c] [x,y,z]==0)=([-x,y]==[-a,b]):=
 ya (sG ⟨rfl,rfl⟩)
theorem key2{way:Int}(hw:way=1\/way=-1)(a b c x y z:Int):(dw (ks2 way) [a,b,c] [x,y,z]==1)=bf (decide (way<0)) [y,x,-z] [b,a,-c]/\(dw (ks2 way) [a,b,c] [x,y,z]==0)=([y,x,-z]==[b,a,-c]):=by
 rcases hw with rfl|rfl
 ·exact sG (sG (ya ⟨rfl,rfl⟩))
 ·exact Ay (Ay (Dh ⟨rfl,rfl⟩))
theorem mT(h3:∀r∈rows,∃a b c:Int,r=[a,b,c])(hi:i<rows.length):rows.getD i []=[ml rows i 0,ml rows i 1,ml rows i 2]:=by
 refine zD (h3 rows[i] (dY hi)) λa b c e=>?_
 simp [ml,aw,ae hi,e]
theorem AD{b:Bool}{n:Nat}(h1:∀j,j<n->bf b (ki j) (ki i)=(sgF ks rows i j==1))(h0:∀j,j<n->(ki j==ki i)=(sgF ks rows i j==0)):zP b n ki i=2*(cn n (λj=>sgF ks rows i j==1):Nat)+(cn n (λj=>sgF ks rows i j==0):Nat)-1:=by
 unfold zP
 rw [show (aG n).countP (λj=>bf b (ki j) (ki i))=_ from fP n h1,show (aG n).countP (λj=>ki j==ki i)=_ from fP n h0]
theorem Sg.like{n:Nat}{s:Nat->Nat->Int}(S:Sg n s)(hi:i<n):cn n (λj=>s i j==0)=1:=by
 rw [fP n (q:=λj=>i==j) λj hj=>?_,sF n hi]
 by_cases e:i=j
 ·subst e;simp [S.self]
 ·have:=S.two i j hi hj e
  rw [dO,beq_iff_eq,beq_iff_eq]
  constructor
  ·intro h;exact y_525 h this
  ·intro h;exact absurd h e
theorem ou(B':List Int):eS B'=1\/eS B'=-1:=by have:=rO B';unfold eS;lia
noncomputable abbrev nL(B':List Int):Nat:=(aS B').length
noncomputable abbrev sS(B':List Int):Nat->Nat->Int:=sgF ks1 (aS B')
noncomputable abbrev tS(B':List Int):Nat->Nat->Int:=sgF (ks2 (eS B')) (aS B')
theorem SS(B':List Int):Sg (nL B') (sS B'):=CD B' ks1 (by simp [ks1]) ⟨(2,1),by simp [ks1],rfl⟩
theorem TS(B':List Int):Sg (nL B') (tS B'):=CD B' _ (by have:=ou B';simp [ks2];exact BY this) ⟨(2,-(eS B')),by simp [ks2],rfl⟩
theorem i8(ks:List (Int×Int))(rows:List (List Int)):dp (de ks rows)=(aG rows.length).map λi=>((up rows.length (sgF ks rows) i:Nat):Int):=by
 apply jJ
 intro i
 by_cases hi:i<rows.length
 ·rw [yF hi,ah,cs hi];rfl
 ·rw [cS (by simp [dp,de];exact nj hi),cS (by simp;exact nj hi)]
theorem BP(B':List Int):z1 B'=(aG (nL B')).map λi=>2*((up (nL B') (sS B') i:Nat):Int):=by
 refine eF λi hi=>?_
 have GK:i<nL B':=cj.mp hi
 have e:=mT (oD B') GK
 rw [AD (ks:=ks1) (rows:=aS B') (λj hj=>?_) (λj hj=>?_),(SS B').like GK]
 ·exact B8
 ·rw [sgF,e,mT (oD B') hj,(key1 _ _ _ _ _ _).1];rfl
 ·rw [sgF,e,mT (oD B') hj,(key1 _ _ _ _ _ _).2];rfl
theorem BO(B':List Int):z2 B'=(aG (nL B')).map λi=>2*((up (nL B') (tS B') i:Nat):Int):=by
 refine eF λi hi=>?_
 have GK:i<nL B':=cj.mp hi
 have e:=mT (oD B') GK
 rw [AD (ks:=ks2 (eS B')) (rows:=aS B') (λj hj=>?_) (λj hj=>?_),(TS B').like GK]
 ·exact B8
 ·rw [sgF,e,mT (oD B') hj,(key2 (ou B') _ _ _ _ _ _).1];rfl
 ·rw [sgF,e,mT (oD B') hj,(key2 (ou B') _ _ _ _ _ _).2];rfl
theorem h1_ok(B':List Int):z1 B'=(dp (m1 B')).map (2*·):=by
 rw [BP,i8,aP];rfl
theorem h2_ok(B':List Int):z2 B'=(dp (m2 B')).map (2*·):=by
 rw [BO,i8,aP];rfl
theorem h3_ok(B':List Int):z3 B'=pC (m3 B'):=by
 apply jJ
 intro i
 by_cases hi:i<nL B'
 ·have e:=mT (oD B') hi
  have hz:(z3 B')[i]?=some (zP false (nL B') (wf sp3 (ml (aS B'))) i):=by
   show ((aG (nL B')).map _)[i]?=_
   rw [ah,cs hi];rfl
  rw [hz,AD (ks:=ks3) (rows:=aS B') (λj hj=>?_) (λj hj=>?_)]
  ·simp only [pC,m3,de,aP,ah,ae hi,dv,bM,rK]
   simp [sgF,aw,ae hi]
  ·rw [sgF,e,mT (oD B') hj,(key3 _ _ _ _ _ _).1];rfl
  ·rw [sgF,e,mT (oD B') hj,(key3 _ _ _ _ _ _).2];rfl
 ·have hi:¬i<(aS B').length:=hi
  rw [cS (by rw [wn];exact nj ‹_›),cS (by simp [pC,m3,de];exact nj ‹_›)]
theorem z_bd(b:Bool)(sp:List (Bool×Nat))(B':List Int):∀z∈yN b sp (aS B'),z.natAbs<2^20:=λz hz=>by
 refine ci (bK.mp hz) λi hi Dz=>?_;subst Dz
 have h1:=x7 (p:=λj=>bf b (wf sp (ml (aS B')) j) (wf sp (ml (aS B')) i)) (q:=λ_=>true) (aS B').length λ_ _ _=>rfl
 have h2:=x7 (p:=λj=>wf sp (ml (aS B')) j==wf sp (ml (aS B')) i) (q:=λ_=>true) (aS B').length λ_ _ _=>rfl
 rw [pf] at h1 h2
 have:=ii B'
 unfold zP
 unfold cn at h1 h2
 exact y_127 h1 h2 this
theorem AR(hi:i<nL B')(hj:j<nL B'):tt (vL B') i j=ti (sS B') (tS B') i j:=by
 have l1:(m1 B').length=nL B':=qD ks1 (aS B')
 have e:(vL B')[i]?=_:=ql (a:=m1 B') (b:=m2 B') (by rw [l1];exact hi)
 unfold tt
 rw [show (vL B').getD i []=_ by rw [aw,e]]
 simp only [aw,ah,cs (show j<(m1 B').length by rw [l1];exact hj),dv,Option.getD_some]
 rw [n5 hi hj,n5 hi hj]
 rfl
theorem nU(B':List Int)(k:Nat)(hk:k<4):we B' k=nT (nL B') (sS B') (tS B') k:=by
 have lt:(vL B').length=nL B':=(nr _ _).trans (qD ks1 (aS B'))
 show (thK (vL B') (vL B').length).getD k 0=_
 rw [wG (wC _ _) k hk,lt]
 exact j0 _ λa b c h1 h2 h3=>by rw [AR (jZ h1 h2 h3) (gm h2 h3),AR (jZ h1 h2 h3) h3,AR (gm h2 h3) h3]
theorem vf(B':List Int):zG B'=(aG (nL B')).map (dg (nL B') (sS B') (tS B')):=by
 have l1:(m1 B').length=nL B':=qD ks1 (aS B')
 show ((aG (m1 B').length).map _).map _=_
 rw [aP,l1]
 refine eF λi hi=>?_
 have GK:=cj.mp hi
 show ((aG (nL B')).map _).sum=_
 rw [lH]
 refine cG _ λj hj=>?_
 rw [n5 GK hj,n5 GK hj]
 rfl
theorem xJ(B':List Int):zu B'=(aG (nL B')).map (fw (nL B') (sS B') (tS B')):=by
 show (zG B').map _=_
 rw [vf,aP]
 rfl
theorem Ac(B':List Int):prS B'=nP (nL B') (sS B') (tS B'):=by
 show (zG B').sum.fdiv 2=_
 rw [vf,lH,qg (SS B') (TS B'),ju _ (by decide)]
 exact B6
theorem Ad(B':List Int):otS B'=nO (nL B') (sS B') (tS B'):=by
 show (zu B').sum.fdiv 2=_
 rw [xJ,lH,As (SS B') (TS B'),ju _ (by decide)]
 exact B6
theorem Cu(B':List Int):whS B'=nP (nL B') (sS B') (tS B')+nO (nL B') (sS B') (tS B')+(nT (nL B') (sS B') (tS B') 0+nT (nL B') (sS B') (tS B') 1+nT (nL B') (sS B') (tS B') 2+nT (nL B') (sS B') (tS B') 3):=by
 have e0:=nU B' 0 (by decide)
 have e1:=nU B' 1 (by decide)
 have e2:=nU B' 2 (by decide)
 have e3:=nU B' 3 (by decide)
 show prS B'+otS B'+(thS B').sum=_
 rw [Ac,Ad,sum4 _ (mH _ _)]
 simp only [we] at e0 e1 e2 e3
 rw [e0,e1,e2,e3]
 rfl
theorem xa(one two:List Int):∀k,pcT one two k=true↔∃g:Nat,0<g/\g<=k/\(one.length:Int).fmod g=0/\two=ja g one
 |0=>by simp [pt0,ptS];lia
 |k+1=>by
  simp only [pt0,ptS,fW,dZ,beq_iff_eq,xa one two k]
  constructor
  ·rintro(⟨g,h1,h2,h3⟩|⟨h1,h2⟩)
   ·exact⟨g,h1,vD h2,h3⟩
   ·exact⟨k+1,cV 4589748500 k rfl,ag _,h1,h2⟩
  ·rintro⟨g,h1,h2,h3⟩
   by_cases e:g=k+1
   ·subst e;exact .inr h3
   ·exact .inl ⟨g,h1,Cd h2 e,h3⟩
theorem xc(one two:List Int):∀k,pcM one two k=true↔∃g:Nat,0<g/\g<=k/\(one.length:Int).fmod g=0/\two=lK g one
 |0=>by simp [pm0,pmS];lia
 |k+1=>by
  simp only [pm0,pmS,fW,dZ,beq_iff_eq,xc one two k]
  constructor
  ·rintro(⟨g,h1,h2,h3⟩|⟨h1,h2⟩)
   ·exact⟨g,h1,vD h2,h3⟩
   ·exact⟨k+1,cV 4589748500 k rfl,ag _,h1,h2⟩
  ·rintro⟨g,h1,h2,h3⟩
   by_cases e:g=k+1
   ·subst e;exact .inr h3
   ·exact .inl ⟨g,h1,Cd h2 e,h3⟩
theorem uV(n g:Nat):(n:Int).fmod g=0↔g∣n:=by
 rw [d7 _ nq,<-Int.natCast_emod]
 constructor
 ·intro h;exact Nat.dvd_of_mod_eq_zero (y_505 h)
 ·intro h;rw [Nat.mod_eq_zero_of_dvd h];rfl
theorem si(a g:Nat):(a:Int).fmod g=((a%g:Nat):Int):=by
 rw [d7 _ nq,Int.natCast_emod]
theorem pZ(f h:Nat->Int)(n:Nat):(aG n).map f=(aG n).map h↔∀i,i<n->f i=h i:=by
 rw [List.map_inj_left]
 exact forall_congr' λi=>by rw [List.mem_range]
theorem zk(B':List Int):pcT (dp (m1 B')) (dp (m2 B')) (dp (m1 B')).length=true↔(nT (nL B') (sS B') (tS B') 2=0/\∀i,i<nL B'->nL B'*dg (nL B') (sS B') (tS B') i=2*nP (nL B') (sS B') (tS B')):=by
 have hn:0<nL B':=by have:=ii B';show 0<(aS B').length;exact cV 0x96211090114 ((aS B').length) rfl this.1
 rw [xq (SS B') (TS B') hn,xa,i8,i8]
 simp only [bR,dJ]
 refine exists_congr λg=>and_congr_right λhg=>and_congr_right λ_=>and_congr (uV _ _) ?_
 unfold ja
 rw [aP,pZ]
 refine forall_congr' λi=>imp_congr_right λhi=>?_
 simp only [bM,si]
 have:=Nat.mod_le (up (nL B') (sS B') i) g
 exact y_604 this
theorem xC(B':List Int):pcM (dp (m1 B')) (dp (m2 B')) (dp (m1 B')).length=true↔(nT (nL B') (sS B') (tS B') 1=0/\∀i,i<nL B'->nL B'*fw (nL B') (sS B') (tS B') i=2*nO (nL B') (sS B') (tS B')):=by
 have hn:0<nL B':=by have:=ii B';show 0<(aS B').length;exact cV 0x96211090114 ((aS B').length) rfl this.1
 rw [zo (SS B') (TS B') hn,xc,i8,i8]
 simp only [bR,dJ]
 refine exists_congr λg=>and_congr_right λhg=>and_congr_right λ_=>and_congr (uV _ _) ?_
 unfold lK
 rw [aP,pZ]
 simp only [bR,dJ]
 refine forall_congr' λi=>imp_congr_right λhi=>?_
 simp only [bM,si]
 have:=Nat.mod_le (up (nL B') (sS B') i) g
 exact y_603 this
theorem covR{n:Nat}{g p:Nat->Int}{q:Int}(h2:2<=n)(EL:n<=12)(bf:∀i,i<n->(f i).natAbs<=10000)(bg:∀i,i<n->(g i).natAbs<=10000)
  (mz:mx*n=c6 n f) (mw:my*n=c6 n g) (hp:∀i,i<n->2*p i=(f i-mx)*(g i-my)) (hq:q*((n:Int)-1)=c6 n p):CovH ((aG n).map f) ((aG n).map g) n mx my q where
 lz:=by simp
 lw:=by simp
 n2:=h2
 n12:=EL
 bz:=λz hz=>by obtain⟨i,hi,rfl⟩:=bK.mp hz;exact bf i (cj.mp hi)
 bw:=λz hz=>by obtain⟨i,hi,rfl⟩:=bK.mp hz;exact bg i (cj.mp hi)
 mz:=by rw [nu];exact mz
 mw:=by rw [nu];exact mw
 ex:=⟨(aG n).map p,by simp,λi u v w h1 h2 h3=>by
  obtain⟨hi,e1⟩:=oX h1
  obtain⟨_,e2⟩:=oX h2
  obtain⟨_,e3⟩:=oX h3
  rw [<-e1,<-e2,<-e3];exact hp i hi,by rw [nu];exact hq⟩
theorem qr{B:Nat}:∀n,(∀i,i<n->(f i).natAbs<=B)->(c6 n f).natAbs<=B*n
 |0,_=>by simp [sm0,smS]
 |n+1,h=>by
  have h1:=qr n λi hi=>h i (mP hi)
  have h2:=h n vF
  rw [Nat.mul_add]
  exact y_287 h1 h2
section
variable{n:Nat}{s t:Nat->Nat->Int}
theorem zS(S:Sg n s):c6 n (λi=>2*((up n s i:Nat):Int))=n*((n:Int)-1):=by
 have e:c6 n (λi=>c6 n (s i))=0:=by
  rw [uz,cG n (g:=λ_=>0) λi _=>S.self i,mR,fY n (g:=λa b=>0*(1:Int)) λa b _ _=>by rw [S.anti a b];exact y_464,j6]
  exact y_424
 have e2:c6 n (λi=>2*((up n s i:Nat):Int))=c6 n (λi=>c6 n (s i)+((n:Int)-1)):=cG n λi hi=>by rw [S.sum hi];exact y_555
 rw [e2,dT,e,g7];exact Ca
theorem Cw(S:Sg n s)(hi:i<n):up n s i<n:=S.bij.bd i hi
theorem zF(n:Nat)(s t:Nat->Nat->Int)(i:Nat):(dg n s t i).natAbs<=n:=by
 have:=qr (B:=1) n (f:=ti s t i) λj _=>by have:=BK (s:=s) (t:=t) i j;exact y_296 this
 unfold dg;exact b6 1448629807376 (bZ (c6 n (ti s t i))) n rfl this
theorem CV(S:Sg n s)(T:Sg n t)(hi:i<n):(fw n s t i).natAbs<=n:=by rw [uT S T hi];exact zF _ _ _ _
theorem CL(S:Sg n s)(T:Sg n t)(EL:n<=12):(nP n s t).natAbs<=72:=by
 have h:=qg S T
 have:=qr (B:=12) n (f:=dg n s t) λi _=>by have:=zF n s t i;exact rm this EL
 exact y_298 EL this h
theorem cov1(S:Sg n s)(T:Sg n t)(h2:2<=n)(EL:n<=12):CovH ((aG n).map λi=>2*((n:Int)-1)*(2*((up n s i:Nat):Int))) ((aG n).map λi=>2*((up n t i:Nat):Int)) n (2*((n:Int)-1)*((n:Int)-1)) ((n:Int)-1) (c6 n λi=>c6 n (s i)*c6 n (t i)):=by
 refine covR (p:=λi=>((n:Int)-1)*(c6 n (s i)*c6 n (t i))) h2 EL (λi hi=>?_) (λi hi=>?_) ?_ ?_ (λi hi=>?_) ?_
 ·have:=Cw S hi
  have:=fk (a:=2*((n:Int)-1)) (b:=2*((up n s i:Nat):Int)) (A:=22) (B:=22) (y_281 EL) (y_283 this EL)
  exact y_312 this
 ·have:=Cw T hi;exact y_282 this EL
 ·rw [el,zS S];grind
 ·rw [zS T];grind
 ·rw [S.sum hi,T.sum hi];grind
 ·rw [el];grind
theorem covD(h2:2<=n)(EL:n<=12)(bf:∀i,i<n->(f i).natAbs<=n)(hs:c6 n f=2*c):
  CovH ((aG n).map λi=>2*(n*f i)) ((aG n).map λi=>2*(n*((n:Int)-1)*f i)) n (4*c) (4*((n:Int)-1)*c) (2*c6 n λi=>(n*f i-2*c)*(n*f i-2*c)) /\
  CovH ((aG n).map λi=>2*(n*((n:Int)-1)*f i)) ((aG n).map λi=>2*(n*f i)) n (4*((n:Int)-1)*c) (4*c) (2*c6 n λi=>(n*f i-2*c)*(n*f i-2*c)):=by
 have b1:∀i,i<n->(2*(n*f i)).natAbs<=10000:=λi hi=>by
  have:=fk (a:=(n:Int)) (b:=f i) (A:=12) (B:=12) (AK EL) (by have:=bf i hi;exact rm this EL)
  exact y_284 this
 have b2:∀i,i<n->(2*(n*((n:Int)-1)*f i)).natAbs<=10000:=λi hi=>by
  have h1:=fk (a:=(n:Int)) (b:=(n:Int)-1) (A:=12) (B:=12) (AK EL) (y_290 EL)
  have:=fk h1 (show (f i).natAbs<=12 by have:=bf i hi;exact rm this EL)
  exact y_285 this
 have m1:4*c*(n:Int)=c6 n λi=>2*(n*f i):=by
  rw [el,el,hs];grind
 have m2:4*((n:Int)-1)*c*(n:Int)=c6 n λi=>2*(n*((n:Int)-1)*f i):=by
  rw [el,el,hs];grind
 constructor
 ·refine covR (p:=λi=>(2*((n:Int)-1))*((n*f i-2*c)*(n*f i-2*c))) h2 EL b1 b2 m1 m2 (λi hi=>by grind) ?_
  rw [el];grind
 ·refine covR (p:=λi=>(2*((n:Int)-1))*((n*f i-2*c)*(n*f i-2*c))) h2 EL b2 b1 m2 m1 (λi hi=>by grind) ?_
  rw [el];grind
theorem rF(EL:n<=12)(bf:∀i,i<n->(f i).natAbs<=n)(bc:c.natAbs<=72):(2*c6 n λi=>(n*f i-2*c)*(n*f i-2*c)).natAbs<2^40:=by
 have:=qr (B:=288*288) n (f:=λi=>(n*f i-2*c)*(n*f i-2*c)) λi hi=>by
  have h1:=fk (a:=(n:Int)) (b:=f i) (A:=12) (B:=12) (AK EL) (by have:=bf i hi;exact rm this EL)
  exact fk (Ci bc h1) (Ci bc h1)
 exact y_118 this EL
theorem rE(x:Int):0<=x*x:=by
 rcases Int.le_total 0 x with h|h
 ·exact gO h h
 ·have:=gO (show 0<=-x by exact cN 107669356817 x rfl h) (show 0<=-x by exact cN 107669356817 x rfl h)
  rwa [Int.neg_mul_neg] at this
theorem ut{l T:Int}(hn:0<n)(hT:0<=T)(e:n*l=(2*c6 n λi=>(n*f i-2*c)*(n*f i-2*c))+2*(4*n*n*T)):l=0↔(T=0/\∀i,i<n->n*f i=2*c):=by
 have h0:=eV n (f:=λi=>(n*f i-2*c)*(n*f i-2*c)) λi _=>rE _
 have Nt:0<(n:Int)*n:=Int.mul_pos (cV 9900245057813 n rfl hn) (cV 9900245057813 n rfl hn)
 have K0:0<=(n:Int)*n*T:=gO (cN 618766336273 (((n:Nat):Int)*((n:Nat):Int)) rfl Nt) hT
 rw [show (4*n*n*T:Int)=4*((n:Int)*n*T) by grind] at e
 constructor
 ·intro h
  rw [h] at e
  have e1:(n:Int)*n*T=0:=y_530 K0 h0 e
  have e2:(c6 n λi=>(n*f i-2*c)*(n*f i-2*c))=0:=y_529 h0 K0 e
  refine⟨?_,λi hi=>?_⟩
  ·rcases e9.mp e1 with h|h
   ·exact B3 Nt h
   ·exact h
  ·have:=iu n (λi _=>rE _) e2 i hi
   rcases e9.mp this with h|h<;>exact y_561 h
 ·rintro⟨O0,hd⟩
  rw [cG n (g:=λ_=>0) λi hi=>by rw [hd i hi];grind,mR,O0] at e
  have:(n:Int)*l=0:=y_538 e
  rcases e9.mp this with h|h<;>omega
end
theorem lawH(B':List Int):∃q1 q2 q3,LawH B' q1 q2 q3:=by
 have hr:=ii B'
 have h2:2<=nL B':=by show 2<=(aS B').length;exact cV 0x962110922110 ((aS B').length) rfl hr.1
 have EL:nL B'<=12:=by show (aS B').length<=12;exact b6 2836441360 ((aS B').length) (12:Nat) rfl hr.2
 have S:=SS B'
 have T:=TS B'
 have en:nS B'=(nL B':Int):=rfl
 have d1:=covD (n:=nL B') h2 EL (λi _=>zF _ _ _ i) (qg S T)
 have d2:=covD (n:=nL B') h2 EL (λi hi=>CV S T hi) (As S T)
 have e0:we B' 0=nT (nL B') (sS B') (tS B') 0:=nU B' 0 (by decide)
 have e1:we B' 1=nT (nL B') (sS B') (tS B') 1:=nU B' 1 (by decide)
 have e2:we B' 2=nT (nL B') (sS B') (tS B') 2:=nU B' 2 (by decide)
 have e3:we B' 3=nT (nL B') (sS B') (tS B') 3:=nU B' 3 (by decide)
 have pe:=ze S T
 have ew:=Cu B'
 have eP:=Ac B'
 have eO:=Ad B'
 have bP:=CL S T EL
 have bO:=CL S T.neg EL
 rw [<-rS S T] at bO
 have sp:nS B'*yI B' (c6 (nL B') λi=>c6 (nL B') (sS B' i)*c6 (nL B') (tS B' i))=(2*c6 (nL B') λi=>(nL B'*dg (nL B') (sS B') (tS B') i-2*nP (nL B') (sS B') (tS B'))*(nL B'*dg (nL B') (sS B') (tS B') i-2*nP (nL B') (sS B') (tS B')))+2*(4*nS B'*nS B'*we B' 2):=by
  rw [sr S T,yI,pe,ew,eP,e2,en]
  grind
 have rs:nS B'*pH B' (c6 (nL B') λi=>c6 (nL B') (sS B' i)*c6 (nL B') (tS B' i))=(2*c6 (nL B') λi=>(nL B'*fw (nL B') (sS B') (tS B') i-2*nO (nL B') (sS B') (tS B'))*(nL B'*fw (nL B') (sS B') (tS B') i-2*nO (nL B') (sS B') (tS B')))+2*(4*nS B'*nS B'*we B' 1):=by
  rw [xH S T,pH,pe,ew,eO,e1,en]
  grind
 have c1:=cov1 S T h2 EL
 rw [show ((aG (nL B')).map λi=>2*((nL B':Int)-1)*(2*((up (nL B') (sS B') i:Nat):Int)))=(z1 B').map λz=>2*(nS B'-1)*z by rw [BP,aP];rfl,show ((aG (nL B')).map λi=>2*((up (nL B') (tS B') i:Nat):Int))=z2 B' from(BO B').symm] at c1
 have c2:=d1.1
 rw [show ((aG (nL B')).map λi=>2*((nL B':Int)*dg (nL B') (sS B') (tS B') i))=((zG B').map λd=>nS B'*d).map λd=>2*d by rw [vf,aP,aP];rfl,
  show ((aG (nL B')).map λi=>2*((nL B':Int)*((nL B':Int)-1)*dg (nL B') (sS B') (tS B') i))=((zG B').map λd=>nS B'*(nS B'-1)*d).map λd=>2*d by rw [vf,aP,aP];rfl] at c2
 have c3:=d2.2
 rw [show ((aG (nL B')).map λi=>2*((nL B':Int)*fw (nL B') (sS B') (tS B') i))=((zu B').map λd=>nS B'*d).map λd=>2*d by rw [xJ,aP,aP];rfl,
  show ((aG (nL B')).map λi=>2*((nL B':Int)*((nL B':Int)-1)*fw (nL B') (sS B') (tS B') i))=((zu B').map λd=>nS B'*(nS B'-1)*d).map λd=>2*d by rw [xJ,aP,aP];rfl] at c3
 refine⟨_,_,_,{c1:=⟨_,_,c1⟩,c2:=⟨_,_,c2⟩,c3:=⟨_,_,c3⟩,low:=?_,high:=?_,told:=?_,spread:=sp,rest:=rs,bP:=by rw [eP];exact cV 0x483191003e841910 (bZ (nP (nL B') (sS B') (tS B'))) rfl bP,bO:=by rw [eO];exact cV 0x483191003e841910 (bZ (nO (nL B') (sS B') (tS B'))) rfl bO,b2:=rF EL (λi _=>zF _ _ _ i) bP,b3:=rF EL (λi hi=>CV S T hi) bO}⟩
 ·have z:=ut (n:=nL B') (cV 0x92211090114 (nL B') rfl h2) (rR _) (by rw [en,e2] at sp;exact sp)
  rw [dO,zk,<-z,decide_eq_true_iff]
  rfl
 ·have z:=ut (n:=nL B') (cV 0x92211090114 (nL B') rfl h2) (rR _) (by rw [en,e1] at rs;exact rs)
  rw [dO,xC,<-z,decide_eq_true_iff]
  rfl
 ·rw [pe,e0,e1,e2,e3,eP,eO]
  grind
noncomputable def iU(h:Heap):Heap:=jh (jh h 280) 342
theorem ix{b:Nat}(h1:¬b=280)(h2:¬b=342):(iU h).get? b=h.get? b:=by unfold iU;rw [hU _ _ _ h2,hU _ _ _ h1]
theorem nc{b:Nat}{o:Obj}(e:(iU h).get? b=some o):¬b=280/\¬b=342/\h.get? b=some o:=by
 unfold iU at e
 by_cases h2:b=342
 ·rw [h2,kJ] at e;cases e
 rw [hU _ _ _ h2] at e
 by_cases h1:b=280
 ·rw [h1,kJ] at e;cases e
 rw [hU _ _ _ h1] at e
 exact⟨h1,h2,e⟩
theorem yA(h:Heap):(iU h).get? 280=none:=by
 cases e:(iU h).get? 280 with
 |none=>rfl
 |some o=>exact absurd rfl (nc e).1
theorem yz(h:Heap):(iU h).get? 342=none:=by
 cases e:(iU h).get? 342 with
 |none=>rfl
 |some o=>exact absurd rfl (nc e).2.1
theorem wc(h:Heap):(iU h).objs.size=h.objs.size:=by unfold iU;rw [kG,kG]
theorem CQ{v pm doc:Value}{o:Obj}(r:Room A 21)(D0:A.frames=some [])(ho:s.heap.get? 345=some o)(hd:o.data=.func (pX (st 26) "law" .none .none pm (.ref 344) doc))(Gu:s.heap.CodeRec (.ref 344) "law")
  (nl:s.heap.NoLimit) (kr:KR K (iU s.heap)) (kc:KC (iU s.heap)) (nb:NoneBooked (iU s.heap)) (tck:TcK K) (o284:∃o,(iU s.heap).get? 284=some o) (o344:∃o,(iU s.heap).get? 344=some o)
  (t280:TabOk s.heap 284 280) (t342:LTab s.heap 344 342 #[]) (hv:At 0 (iU s.heap) v (dInts B')) (Du:B'.length<=1000) (hg:s.gens=#[]) (t:0<s.toks)
  (hQ:∀s' ps,Up (iU s.heap) s'.heap->TabOk s'.heap 284 280->LTab s'.heap 344 342 ps->s'.os=s.os->Bare s'.gens->Q (.bool true) s'):
  wpAny (model prog w) A (call (.ref 345) [v]) Q E s:=by
 refine zD (lawH B') λq1 q2 q3 H=>?_
 refine vo (n:=20) r ho hd Gu nl (binds:=[("script",v)]) rfl (by
  intro x hx;simp at hx;subst hx;exact .inl rfl) (by decide) λC' env he gr tk Ei ro fm top E=>?_
 have D4:∀b o,s.heap.get? b=some o->¬OwnB env b:=λb o e q=>by rw [fm.fresh b q] at e;cases e
 have FR:¬OwnB env 280:=by obtain⟨ps,_,⟨_,h⟩⟩:=t280;exact D4 _ _ h
 have JU:¬OwnB env 342:=D4 _ _ t342.tab
 have Qa:342<s.heap.objs.size:=aX t342.tab
 let Dr:Shared:={s with heap:=iU s.heap}
 have HT:Dr.heap=iU s.heap:=rfl
 have HZ:env.code=.ref 344:=by rw [he];rfl
 have ls:Lst K (A.deeper env) Dr.heap env (s.heap.objs.size+1+nC (aZ (st 26)).names):=
  {hk:=by rw [he];rfl
   frame:=by rw [he];rfl
   hand:=ro.hand
   frames:=fA D0
   code:=HZ
   glob:=by rw [he];rfl
   kr:=kr
   kc:=kc
   nb:=nb
   tck:=tck
   b280:=yA _
   b342:=yz _
   o284:=o284
   o344:=o344
   lt:=bX 5949006742169876 (342:Nat) s.heap.objs.size (4:Nat) rfl Qa
   n280:=FR
   n342:=JU}
 have fx:Fx Dr env (s.heap.objs.size+1+nC (aZ (st 26)).names) [] [("script",.is v)] C':=by
  subst he
  refine⟨by rw [Ei],t,tk,by rw [HT,wc];exact b6 90489104656 s.heap.objs.size (4:Nat) rfl,ci top λb h1 h2=>⟨b,.inl h1,h2⟩,λa DB h=>(nomatch h),_,_,⟨fm.ns,fm.cell,fm.uniq,fm.apart,fm.ne,fm.own,λb o e=>fm.base b o (nc e).2.2,λb hb=>?_⟩,λi y e hy=>?_⟩
  ·cases e:Dr.heap.get? b with
   |none=>rfl
   |some o=>exact absurd hb (D4 b o (nc e).2.2)
  ·match i,hy with
   |0,hy=>cases hy;exact⟨v,.inl ⟨rfl,rfl⟩,.inl At_rfl⟩
 have lw:Lw Dr env (s.heap.objs.size+1+nC (aZ (st 26)).names) [("script",.is v)] #[] C' :=
  ⟨fx,t280.up gr.up,t342.at2 (λo e=>gr.up _ _ e) (λo e=>gr.up _ _ e),by
   rw [hg];intro x hx;simp at hx⟩
 have hex:∃pm cd doc,env=mM s.heap.objs.size pm cd doc:=⟨pm,_,doc,he⟩
 refine law_a (ro.le (fZ 5420491024 [] [] rfl)) ls lw hex hv Du λll items T DB TK Ds EH Hs=>?_
 refine law_b (ro.le (fZ 5420622096 [] [] rfl)) ls EH hex Hs λs3 Fh Jq=>?_
 refine law_c ro ls Fh hex Jq λps s4 Fp=>?_
 refine law_d ro ls Fp hex (h1_ok B') (h2_ok B') (h3_ok B') (z_bd _ _ B') λps5 s5 GT=>?_
 refine law_e ro ls GT hex λDI Jr=>?_
 refine law_f ro ls Jr hex (z_bd _ _ B') H λEF G7 Ob=>?_
 refine law_g (Dr:={Dr with gens:=EF}) ro ls Ob hex H λFW s8 Kw=>?_
 exact hQ s8 _ Kw.base Kw.t280 Kw.t342 (by rw [Kw.fx.same]) (by rw [show s8.gens=FW by rw [Kw.fx.same]];exact Kw.ga)
theorem Bx{d:Data}{es:Array DictEntry}:dicD d=some es->∃n,d=.dict es n:=by
 cases d with
 |dict x n=>exact λh=>⟨n,congrArg (Data.dict · n) (ay h)⟩
 |_=>exact nn
theorem xL{d:Data}{vs:Array Value}:fldD d=some vs->d=.fields vs:=by
 cases d with
 |fields x=>exact λh=>congrArg Data.fields (ay h)
 |_=>exact nn
theorem CY{d:Data}{f:FuncData}:fnD d=some f->d=.func f:=by
 cases d with
 |func x=>exact λh=>congrArg Data.func (ay h)
 |_=>exact nn
theorem wM{v:Value}:strV v=true->∃x t,v=.str x t:=by
 cases v with
 |str x t=>exact λ_=>⟨x,t,rfl⟩
 |_=>exact nb
theorem xB{v:Value}:intV v=true->∃x t,v=.int x t:=by
 cases v with
 |int x t=>exact λ_=>⟨x,t,rfl⟩
 |_=>exact nb
theorem BH{v:Value}:booV v=true->∃b,v=.bool b:=by
 cases v with
 |bool x=>exact λ_=>⟨x,rfl⟩
 |_=>exact nb
theorem tw{v:Value}{p:Addr}:refV v=some p->v=.ref p:=by
 cases v with
 |ref x=>exact λh=>congrArg aM (ay h)
 |_=>exact nn
theorem CA{v:Value}:stV v=some q->∃t,v=.str q t:=by
 cases v with
 |str x t=>exact λh=>⟨t,congrArg (Value.str · t) (ay h)⟩
 |_=>exact nn
theorem qB{a:Nat}(X:K.In h)(b:qO K a=true):h.Ns a (nsFind (md K a)):=
 ci ((jq _ _).mp b) λes e be=>ci (cH.mp e) λo hl hd=>et (Bx hd) λn dd =>
  ⟨o,es,n,X _ _ hl,dd,λe he=>wM (List.all_eq_true.mp be e (by simpa using he)),λname=>(congrArg (λz=>nsFind (z.getD #[]) name) e).symm⟩
noncomputable def FnK(K:Frag)(a:Nat)(t:Stmt)(q:Str)(d k:Value):Prop:=(K.lookup a).map (·.data)=some (.func (pX t q d k (tY K a).1 (tY K a).2.1 (tY K a).2.2))/\cdq K (tY K a).2.1=some q
theorem BF{v:Value}(X:K.In h)(e:cdq K v=some q):h.CodeRec v q :=
 ci (cH.mp e) λc hc e=>ci (cH.mp e) λo hl e=>ci (cH.mp e) λvs hd e=>ci (cH.mp e) λx hx e =>
  et (CA e) λt ht=>⟨c,o,vs,t,tw hc,X _ _ hl,xL hd,ht▸hx⟩
theorem FnK.at{a:Nat}{t:Stmt}{d k:Value}(X:K.In h)(x:FnK K a t q d k):∃o,h.get? a=some o/\o.data=.func (pX t q d k (tY K a).1 (tY K a).2.1 (tY K a).2.2)/\h.CodeRec (tY K a).2.1 q :=
 ci (aq.mp x.1) λo hl hd=>⟨o,X _ _ hl,hd,BF X x.2⟩
theorem Bk{v:Value}{i:Int}{t:Tok}:intO v=some (i,t)->v=.int i t:=by
 cases v with
 |int x u=>exact λh=>congrArg (λz:Int×Tok=>dH z.1 z.2) (ay h)
 |_=>exact nn
noncomputable def AU(v:Option Value):Tok:=((v.bind intO).map (·.2)).getD 0
theorem AP{v:Value}{t:String}:typV v=some t->v=.type t:=by
 cases v with
 |type x=>exact λh=>congrArg d6 (ay h)
 |_=>exact nn
theorem x5{c P:Nat}(X:K.In h)(b:x6 K c P=true)(DY:c≠P):CodeHd h c P/\(∃o vs,h.get? c=some o/\o.cls=.type "code"/\o.data=.fields vs/\vs[11]?=some (.ref P)):=by
 refine ci ((jq _ _).mp b) λo hl b=>?_
 have b:=b5.mp b
 have hc:=AP (beq_iff_eq.mp b.1)
 refine ci ((jq _ _).mp b.2) λvs hd b=>?_
 have hd:=xL hd
 have b:=b5.mp b
 refine ci (cH.mp (beq_iff_eq.mp b.1)) λp K4 hp=>?_
 rw [tw hp] at K4
 have b:=b5.mp b.2
 have hg:=tw (beq_iff_eq.mp b.1)
 have b:=b5.mp b.2
 refine Dd (wM b.1) λf4 t4 e4=>?_
 have b:=b5.mp b.2
 refine Dd (xB b.1) λf5 t5 e5=>?_
 have b:=b5.mp b.2
 refine et (BH b.1) λf6 e6=>?_
 refine Dd (xB b.2) λf7 t7 e7=>?_
 exact⟨⟨o,vs,f4,t4,f5,t5,f6,f7,t7,X _ _ hl,hc,hd,K4,hg,e4,e5,e6,e7,DY⟩,o,vs,X _ _ hl,hc,hd,K4⟩
structure KnK(K:Frag):Prop where
 d3:qO K 3=true
 gl:∀x v,(x,v)∈globs->nsFind (md K 3) x=some v
 bl:∀x v,(x,v)∈blts->nsFind (md K 3) x=none
 fn:∀a t q d k,(a,t,q,d,k)∈fns->FnK K a t q d k
 fn2:∀a t q d k,(a,t,q,d,k)∈fns2->FnK K a t q d k
 law:FnK K 345 (st 26) "law" .none .none
 c345:(tY K 345).2.1=.ref 344
 c285:(tY K 285).2.1=.ref 284
 tc:K.lookup 309=some (excClassObj "TupleComp" "TupleComp" 309 308 [.type "object"] [.type "object"] true [] [] false none none none none (some (.str "TupleComp" 753)) (some (.str "TupleComp" 761)) (some (.bool true)) "object.__new__")
 d308:qO K 308=true
 n308:nsFind (md K 308) "compare"=some (.ref 306)/\nsFind (md K 308) "__init__"=some (.ref 299)/\nsFind (md K 308) "__getattribute__"=none/\nsFind (md K 308) "__getattr__"=none/\nsFind (md K 308) "comp_select_list"=none/\nsFind (md K 308) "__setattr__"=none
 t306:(K.lookup 306).map (·.cls)=some (.type "function")
 t299:(K.lookup 299).map (·.cls)=some (.type "function")
 d92:(K.lookup 92).map (λo=>(o.cls,o.data))=some (.type "tuple",.seq #[.none])
 d190:(K.lookup 190).map (λo=>(o.cls,o.data))=some (.type "tuple",.seq #[.int 0 603,.int 1 604])
 d271:qO K 271=true
 n271:nsFind (md K 271) "reverse"=some (.bool false)/\nsFind (md K 271) "ties"=some (.str "average" 712)
 mx:nsFind (md K 3) "_MAXSIZE"=some (.int 0x7fffffffffffffff (AU (nsFind (md K 3) "_MAXSIZE")))
 mxt:(AU (nsFind (md K 3) "_MAXSIZE")==0)=false
 d2:qO K 2=true
 n2:nsFind (md K 2) sharingNotToldKey=none
 r2:nsFind (md K 2) "sys.recursionlimit"=none
 n280:K.lookup 280=none
 n342:K.lookup 342=none
 q284:x6 K 284 280=true
 q344:x6 K 344 342=true
section
variable{mb:Str->Option Value}
theorem KnK.in2(kk:KnK K)(X:K.In h):K.In (iU h):=λa o e=>by
 rw [ix (λq=>by rw [q,kk.n280] at e;cases e) (λq=>by rw [q,kk.n342] at e;cases e)]
 exact X a o e
theorem zT{a:Nat}{DB:Array Value}(X:K.In h)(e:(K.lookup a).map (λo=>(o.cls,o.data))=some (.type "tuple",.seq DB)):h.IsTuple a DB:=by
 rw [aq] at e
 refine ci (e) λo hl hd=>?_
 simp only [iq] at hd
 exact⟨o,X _ _ hl,hd.1,_,hd.2⟩
theorem kn_of(kk:KnK K)(X:K.In h)(hb:h.Ns 0 mb)(OK:∀x v,(x,v)∈blts->mb x=some v):Kn h where
 nl:=⟨_,qB X kk.d2,kk.r2⟩
 gl:=λx v m=>.inl ⟨_,qB X kk.d3,kk.gl x v m⟩
 bl:=λx v m=>.inr ⟨_,mb,qB X kk.d3,kk.bl x v m,hb,OK x v m⟩
 fn:=λa t q d k m=>kF ((kk.fn a t q d k m).at X) λo e hd c=>⟨o,_,_,_,e,hd,c⟩
 tc:=⟨_,⟨⟨_,_,_,_,_,_,_,_,_,_,_,_,X _ _ kk.tc⟩,qB X kk.d308⟩,kk.n308⟩
 tf:=λa ha=>by
  rcases ha with rfl|rfl
  ·refine ci (aq.mp kk.t306) λo hl hd=>?_
   exact⟨o,X _ _ hl,hd⟩
  ·refine ci (aq.mp kk.t299) λo hl hd=>?_
   exact⟨o,X _ _ hl,hd⟩
theorem kr_of(kk:KnK K)(sk:SK K)(X:K.In h)(kn:Kn h):KR K h where
 kn:=kn
 X:=X
 sk:=sk
 fn:=λa t q d k m=>kF ((kk.fn2 a t q d k m).at X) λo e hd c=>⟨o,_,_,_,e,hd,c⟩
 d92:=zT X kk.d92
 d190:=⟨603,604,by decide,by decide,zT X kk.d190⟩
 d271:=⟨_,712,qB X kk.d271,kk.n271⟩
 mx:=⟨AU (nsFind (md K 3) "_MAXSIZE"),(λq=>by have:=kk.mxt;rw [q] at this;cases this),.inl ⟨_,qB X kk.d3,kk.mx⟩⟩
theorem kc_of(kk:KnK K)(X:K.In h)(bm:BmOk h):KC h where
 cov:=by
  refine kF ((kk.fn 285 (st 17) "covariance" .none .none (co (by kernel_rfl))).at X) λo e hd c=>?_
  rw [kk.c285] at hd c
  exact⟨o,_,_,e,hd,c⟩
 bm:=bm
theorem oS{R:WRecords}{cl:Str->Option Addr}{P:Params}{ord:List DictEntry->List DictEntry}:∀(ns:List Int) (s:Shared) (r:List Value×Shared),layAllW R cl P ord (ofPys (ns.map eZ)) s=some r->0<s.toks->AtAll lo h r.1 (ns.map .int)
 |[],s,r,e,_=>by
  have:layAllW R cl P ord (ofPys (fC eZ [])) s=some ([],s):=by simp [ofPys,layAllW]
  rw [this] at e
  cases e
  simp [aN,aC,aL,aR]
 |n::ns,s,r,e,t=>by
  simp only [ir,ofPys,ofPy,layAllW,layW] at e
  cases q:layAllW R cl P ord (ofPys (fC eZ ns)) {s with toks:=s.toks+1} with
  |none=>rw [q] at e;cases e
  |some r' =>
   rw [q] at e
   cases e
   have z:=oS ns {s with toks:=s.toks+1} r' q (by show 0<s.toks+1;exact cV 4589748500 s.toks rfl)
   exact⟨At_int.mpr ⟨s.toks,aB t,rfl⟩,z⟩
theorem wV{R:WRecords}{ns:List Int}{a:Addr}{as:List Addr}{DB:Array Value}(L:Laid R w Dr C' [ofPy (iz (ns.map eZ))] [.ref a] as)(t:0<Dr.toks)(hL:C'.heap.IsList a DB)(ha:¬a=280)(hb:¬a=342):At 0 (iU C'.heap) (.ref a) (dInts ns):=by
 refine At.lst.mpr ⟨a,DB,rfl,bY _,hL.at λo e=>by rw [ix ha hb];exact e,?_⟩
 refine ci (L.laid) λord _ e=>?_
 simp only [ofPy,layAllW,layW] at e
 cases q:layAllW R (classAt Dr.heap) w.params ord (ofPys (fC eZ ns)) Dr with
 |none=>rw [q] at e;cases e
 |some r =>
  rw [q] at e
  simp only [eo,iq,k7,Value.ref.injEq] at e
  obtain⟨⟨ea,_⟩,es⟩:=e
  have g:C'.heap.get? a=some {cls:=.type "list",data:=.seq r.1.toArray}:=by
   rw [<-es,<-ea]
   exact am _ rfl
  obtain⟨o,ho,_,n,hd⟩:=hL
  rw [g] at ho
  cases ho
  simp only [Data.seq.injEq] at hd
  rw [<-hd.1]
  exact oS ns Dr r q t
end
theorem yy:∀x v,(x,v)∈blts->((x==("__name__":Str))=false/\bootBuiltins x=some v):=λx v h=>by
 simp only [blts,aQ,cb,or_false,iq] at h
 rcases h with ⟨rfl,rfl⟩|⟨rfl,rfl⟩|⟨rfl,rfl⟩|⟨rfl,rfl⟩|⟨rfl,rfl⟩|⟨rfl,rfl⟩|⟨rfl,rfl⟩|⟨rfl,rfl⟩|⟨rfl,rfl⟩|⟨rfl,rfl⟩|⟨rfl,rfl⟩|⟨rfl,rfl⟩|⟨rfl,rfl⟩|⟨rfl,rfl⟩|⟨rfl,rfl⟩|⟨rfl,rfl⟩|⟨rfl,rfl⟩|⟨rfl,rfl⟩
 all_goals exact⟨by kernel_rfl,by kernel_rfl⟩
theorem A9(F8:h.TableAt 284 280 #[])(F7:h.TableAt 344 342 #[])(u:Up (iU h) h')(t280:TabOk h' 284 280)(t342:LTab h' 344 342 ps):OldK h h':=by
 have key:∀(b:Nat) o,h.get? b=some o->asItWas h h' b o:=λb o e=>by
  by_cases h1:b=280
  ·subst h1
   refine kF (t280) λps' _ _ g=>?_
   rw [F8.2] at e;cases e
   exact .inr (.inl ⟨F8.isCodeTable,rfl,#[],ps',rfl,by rw [g];simp⟩)
  by_cases h2:b=342
  ·subst h2
   have g:=t342.tab
   rw [F7.2] at e;cases e
   exact .inr (.inl ⟨F7.isCodeTable,rfl,#[],ps,rfl,by rw [g];simp [tabObj]⟩)
  exact .inl (u b o (by rw [ix h1 h2];exact e))
 refine⟨key,λb o e=>?_⟩
 rcases key b o e with x|⟨_,_,_,_,_,x⟩|⟨_,_,⟨o',_,_,x,_⟩,_⟩
 ·exact⟨_,x⟩
 ·exact⟨_,x⟩
 ·exact⟨_,x⟩
theorem zl{p:Program}{loose:List Str}{PW:ExcName->Option Value}{mg mb:Str->Option Value}{c:ClaimW}{cl:Str->Option Addr}{ME:ExcName->Option Value}{R:WRecords}{ns:List Int}{l:Addr}{as:List Addr}{DB:Array Value}
  (kk:KnK K) (sk:SK K) (tck:TcK K) (X:K.In C'.heap) (F8:C'.heap.get? 280=some {cls:=.none,data:=.fields #[]}) (F7:C'.heap.get? 342=some {cls:=.none,data:=.fields #[]})
  (T:Top p loose PW mg mb C'.heap) (L:Laid R w Dr C' [ofPy (iz (ns.map eZ))] [.ref l] as) (hL:C'.heap.IsList l DB) (hs:Dr.heap.objs.size=346) (ht:Dr.toks=838) (hg:C'.gens=#[]) (Du:ns.length<=1000)
  (hr:∀cls,c.raises [ofPy (iz (ns.map eZ))] cls=false) (hp:c.post [ofPy (iz (ns.map eZ))] (.bool true) [ofPy (iz (ns.map eZ))]=true):
  wpAny (model prog w) callerA (call (.ref 345) [.ref l]) (λv s'=>GoodWG c cl ME [ofPy (iz (ns.map eZ))] C' (.ok (.ret v)) s') E C':=by
 obtain⟨Iw,Su⟩:=x5 X kk.q284 (by decide)
 obtain⟨Fs,at2⟩:=x5 X kk.q344 (by decide)
 have IE:C'.heap.TableAt 284 280 #[]:=⟨Su,F8⟩
 have G6:C'.heap.TableAt 344 342 #[]:=⟨at2,F7⟩
 have t280:TabOk C'.heap 284 280:=by
  obtain⟨o,vs,file,tf,flags,tg,IU,text,tt,h1,_,h2,_,h3,h4,h5,h6,h7,h8⟩:=Iw
  exact⟨#[],⟨o,vs,file,tf,flags,tg,IU,text,tt,_,h1,h2,h3,h4,h5,h6,h7,F8,rfl,trivial,h8⟩,IE⟩
 have t342:LTab C'.heap 344 342 #[]:=⟨Fs,F7,trivial⟩
 have hl:l=346:=by rw [(PySem.W.X.script_at L).1,hs]
 have t0:0<Dr.toks:=by rw [ht];decide
 have t1:0<C'.toks:=by have:=PySem.W.X.script_toks L ht;exact cV 0x90346411090114 C'.toks rfl this
 have hv:=wV L t0 hL (by rw [hl];decide) (by rw [hl];decide)
 have X2:=kk.in2 X
 have OK:∀x v,(x,v)∈blts->mb x=some v:=λx v m=>by
  obtain⟨h1,h2⟩:=yy x v m
  rw [T.builtins x (λq=>by rw [q] at h1;simp at h1),h2]
 have hb:(iU C'.heap).Ns 0 mb:=T.b.at' λo e=>by rw [ix (by decide) (by decide)];exact e
 have kn:=kn_of kk X2 hb OK
 have bm:BmOk (iU C'.heap):=by
  refine e2a6 (T.bmain) λbm ob h1 h2 h3 h4 h5 h6=>?_
  refine⟨mg,bm,ob,T.g.at' λo e=>by rw [ix (by decide) (by decide)];exact e,h1,h2,?_,h4,h5,h6⟩
  rw [ix (λq=>by rw [q,F8] at h3;cases h3;cases h4) (λq=>by rw [q,F7] at h3;cases h3;cases h4)]
  exact h3
 refine kF (kk.law.at X) λo ho hd Gu=>?_
 rw [kk.c345] at hd Gu
 refine CQ (B':=ns) ⟨by decide,by decide,rfl⟩ rfl ho hd Gu ⟨_,qB X kk.d2,kk.r2⟩ (kr_of kk sk X2 kn) (kc_of kk X2 bm) ⟨_,qB X2 kk.d2,kk.n2⟩ tck ?_ ?_ t280 t342 hv Du hg t1 λs' ps up a b Np bare=>?_
 ·obtain⟨o,_,e,_⟩:=Su;exact⟨o,by rw [ix (by decide) (by decide)];exact e⟩
 ·obtain⟨o,_,e,_⟩:=at2;exact⟨o,by rw [ix (by decide) (by decide)];exact e⟩
 ·exact⟨.inl ⟨_,_,[],rfl,hr,ReadsW.bool true,hp,λ_=>⟨List.nodup_nil,λ_ hm=>(nomatch hm)⟩⟩,A9 IE G6 up a b,Np,bare⟩
theorem oY{a:Addr}{o:Obj}:∀{l:List Nat},(l.filterMap λa=>(h.get? a).map λo=>(a,o)).lookup a=some o->h.get? a=some o
 |[],e=>by cases e
 |b::l,e=>by
  rw [dS] at e
  cases hb:h.get? b with
  |none=>rw [hb] at e;exact oY (l:=l) e
  |some x =>
   rw [hb] at e
   change ((b,x)::_).lookup a=some o at e
   rw [kj] at e
   split at e
   ·rename_i q;cases e;rw [beq_iff_eq.mp q];exact hb
   ·exact oY (l:=l) e
theorem Bm(h:Heap):(uU h).In h:=λ_ _ e=>oY e
theorem CX{a:Nat}{t:Stmt}{d k:Value}(h:(fnN K a,cdq K (tY K a).2.1)=(some (pX t q d k .none .none .none),some q)):FnK K a t q d k:=by
 refine⟨?_,congrArg Prod.snd h⟩
 refine ci (aq.mp (congrArg Prod.fst h)) λf hb hf=>?_
 refine ci (cH.mp hb) λo hl hd=>?_
 have hg:tY K a=(f.pyModule,f.code,f.doc):=congrArg (λz=>(Option.map (λf:FuncData=>(f.pyModule,f.code,f.doc)) z).getD (.none,.none,.none)) hb
 rw [hg,hl]
 exact congrArg some ((CY hd).trans (congrArg Data.func (congrArg (λg:FuncData=>{g with pyModule:=f.pyModule,code:=f.code,doc:=f.doc}) hf)))
theorem oM{f g:α->β}{l:List α}(h:l.map f=l.map g){x:α}(m:x∈l):f x=g x:=List.map_inj_left.mp h x m
theorem CS(y:BL K=BJ):KnK K:=by
  have yb:bL K=eN 14 true:=congrArg (λz=>z.1.1) y
  have yn:nsL K=nsV:=congrArg (λz=>z.1.2.1) y
  have ym:mxL K=some (0x7fffffffffffffff,false):=congrArg (λz=>z.1.2.2.1) y
  have yt:tyL K=tyV:=congrArg (λz=>z.1.2.2.2.2.1) y
  have yc:K.lookup 309=some tcO:=congrArg (λz=>z.1.2.2.2.2.2.1) y
  have yu:tupL K=tupV:=congrArg (λz=>z.1.2.2.2.2.2.2) y
  have yg:(globs.map λp=>nsFind (md K 3) p.1)=globs.map λp=>some p.2:=congrArg (λz=>z.2.1.1) y
  have yl:(blts.map λp=>nsFind (md K 3) p.1)=blts.map λ_=>none:=congrArg (λz=>z.2.1.2.1) y
  have yf:fnL K=fnV:=congrArg (λz=>z.2.1.2.2) y
  have b:∀i:Nat,i<14->(bL K)[i]?=some true:=λi hi=>by rw [yb,gi,if_pos hi]
  have n:∀i:Nat,(nsL K)[i]?=nsV[i]?:=λi=>by rw [yn]
  have t:∀i:Nat,(tyL K)[i]?=tyV[i]?:=λi=>by rw [yt]
  have u:∀i:Nat,(tupL K)[i]?=tupV[i]?:=λi=>by rw [yu]
  have fm:∀p∈fnsA,FnK K p.1 p.2.1 p.2.2.1 p.2.2.2.1 p.2.2.2.2:=λp hp=>CX (oM yf hp)
  have mx:∃t,nsFind (md K 3) "_MAXSIZE"=some (.int 0x7fffffffffffffff t)/\(t==0)=false:=by
    refine ci (aq.mp ym) λp e h=>?_
    refine ci (cH.mp e) λv e h2=>?_
    refine⟨p.2,?_,congrArg Prod.snd h⟩
    rw [e,Bk h2,congrArg Prod.fst h]
  refine ci (mx) λtm m1 m2=>?_
  exact{d3:=ay (b 0 (by decide)),d308:=ay (b 1 (by decide)),d271:=ay (b 2 (by decide)),d2:=ay (b 3 (by decide)),q284:=ay (b 4 (by decide)),q344:=ay (b 5 (by decide)),
          n280:=jC.mp (ay (b 6 (by decide))),n342:=jC.mp (ay (b 7 (by decide))),
          gl:=λx v h=>oM yg h,bl:=λx v h=>oM yl h,
          fn:=λa t q d k h=>fm _ (cM _ (cM _ h)),fn2:=λa t q d k h=>fm _ (cM _ (cQ _ h)),law:=fm (345,st 26,"law",.none,.none) (cQ _ aW),
          c345:=ay (ay (t 3)),c285:=ay (ay (t 4)),tc:=yc,
          n308:=⟨ay (n 0),ay (n 1),ay (n 2),ay (n 3),ay (n 4),ay (n 5)⟩,
          t306:=ay (t 0),t299:=ay (t 1),d92:=ay (u 0),d190:=ay (u 1),n271:=⟨ay (n 6),ay (n 7)⟩,
          mx:=by rw [m1];rfl,mxt:=by rw [m1];exact m2,n2:=ay (n 8),r2:=ay (n 9)}
theorem Bc{a:Addr}{m m':Str->Option Value}(x:h.Ns a m)(y:h.Ns a m')(n:Str):m n=m' n:=by
 refine Da (x) λo es ep e d _ k=>?_
 refine Da (y) λo' es' ep' e' d' _ k'=>?_
 rw [e] at e';cases e'
 rw [d] at d';cases d'
 rw [<-k,k']
theorem CR(y:BL K=BJ){mg:Str->Option Value}{fa:Addr}(X:K.In h)(g:h.Ns mainGlobals mg)(e:mg "law"=some (.ref fa)):fa=345:=by
 have yn:nsL K=nsV:=congrArg (λz=>z.1.2.1) y
 have n:(nsL K)[10]?=nsV[10]?:=by rw [yn]
 rw [Bc g (qB X (CS y).d3)] at e
 exact(Value.ref.inj (ay ((ay n).symm.trans e))).symm
theorem sk_of(y:BL K=BJ):SK K:=by
 have yb:bL K=eN 14 true:=congrArg (λz=>z.1.1) y
 have yd:fdL K=fdV:=congrArg (λz=>z.1.2.2.2.1) y
 have yr:rdL K=rdV:=congrArg (λz=>z.2.2.1) y
 have yc:clL K=clV:=congrArg (λz=>z.2.2.2.1) y
 have ym:meL K=meV:=congrArg (λz=>z.2.2.2.2) y
 have b:∀i:Nat,i<14->(bL K)[i]?=some true:=λi hi=>by rw [yb,gi,if_pos hi]
 have d:∀i:Nat,(fdL K)[i]?=fdV[i]?:=λi=>by rw [yd]
 refine⟨λC n p i h=>?_,λC h=>?_,λC n f h=>?_,ay (b 8 (by decide)),λC h=>?_,⟨ay (d 0),ay (d 1)⟩⟩
 ·have:=oM yr h
  exact⟨congrArg (λz=>z.1) this,congrArg (λz=>z.2.1) this,congrArg (λz=>z.2.2.1) this,congrArg (λz=>z.2.2.2) this⟩
 ·have:=oM yc h
  exact⟨congrArg (λz=>z.1.1) this,congrArg (λz=>z.1.2.1) this,congrArg (λz=>z.1.2.2) this,congrArg (λz=>z.2.1) this,congrArg (λz=>z.2.2.1) this⟩
 ·have:=oM ym h
  exact⟨congrArg (λz=>z.1) this,congrArg (λz=>z.2) this⟩
 ·exact congrArg (λz=>z.2.2.2) (oM yc h)
theorem Cz(y:BL K=BJ):TcK K:=by
 have yb:bL K=eN 14 true:=congrArg (λz=>z.1.1) y
 have yd:fdL K=fdV:=congrArg (λz=>z.1.2.2.2.1) y
 have yt:tyL K=tyV:=congrArg (λz=>z.1.2.2.2.2.1) y
 have b:∀i:Nat,i<14->(bL K)[i]?=some true:=λi hi=>by rw [yb,gi,if_pos hi]
 have d:∀i:Nat,(fdL K)[i]?=fdV[i]?:=λi=>by rw [yd]
 have t:∀i:Nat,(tyL K)[i]?=tyV[i]?:=λi=>by rw [yt]
 exact{mak:=ay (b 9 (by decide)),ini:=ay (d 2),ity:=ay (t 2),sa:=ay (d 3),po:=ay (b 10 (by decide)),tk:=ay (d 4),hd:=ay (b 11 (by decide)),kp:=ay (b 12 (by decide)),rk:=ay (b 13 (by decide))}
theorem A6:prog=dM:=by unfold prog;rfl
theorem main:PySem.Challenge.rw_ku0003_01.Holds:=by
 w_on
 refine holds_law (by decide +kernel) λPT=>?_
 refine holds_openX (q:=vw) (loose:=xr) (Xt:=λs=>xlAt vw [] s&&recOk (RowW.records (iL.row.toRowW)) s) (XP:=XL vw []) (Yf:=obsL) (Ya:=λ_=>valL) (N:=4898) zp (λs e=>xl_of s (b5.mp e).1) XL.keeps (by rfl) (by rfl) (by rfl) (λs e=>recFacts_of (b5.mp e).2) (by rfl) PT (by decide +kernel) ⟨rfl,rfl,rfl,rfl,rfl,by decide +kernel⟩ ?hw ?hc
 case hw=>w_witness2
 intro w Dr C' mg mb G y fa o pm cd doc dV kV ho hd Gu hD UK hg args ET as L Qo QF Ut Ul DZ
 refine Ground.open G ?_
 intro T B D TE TW
 wrow_args Qo QF Ut Ul DZ
 have yk:BL (uU Dr.heap)=BJ:=congrArg (λz=>z.2) y
 have kk:=CS yk
 have KX:(uU Dr.heap).In C'.heap:=(Bm Dr.heap).keeps L.keeps
 have U3:=CR yk KX T.g UK
 subst U3
 have F8:=L.keeps 280 _ (congrArg (λz=>z.1.2.2.1) y)
 have F7:=L.keeps 342 _ (congrArg (λz=>z.1.2.2.2) y)
 show wpAny (model dM w) callerA (call (.ref 345) _) _ _ _
 rw [<-A6]
 refine zl kk (sk_of yk) (Cz yk) KX F8 F7 T L ‹_› (congrArg (λz=>z.1.1) y) (congrArg (λz=>z.1.2.1) y) hg (by omega) (λ_=>rfl) ?hp
 first
 |wrow_post
 |rfl
 |kernel_rfl
end Mine
theorem PySem.Challenge.cw_ku0003_01_holds : PySem.Challenge.rw_ku0003_01.Holds :=
 Mine.main
