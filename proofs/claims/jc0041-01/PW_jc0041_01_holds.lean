import PyProof.Rows.All
import Wide.All
import OpenK.AllK
import Wide.FinOn
import Flt.Calls
import Lean
import PySem.Challenge.RW_jc0041_01
set_option maxRecDepth 100000
set_option maxHeartbeats 4000000
set_option Elab.async false
set_option linter.all false
set_option tactic.hygienic false
set_option backward.match.sparseCases false
set_option compiler.extract_closed false
set_option bootstrap.genMatcherCode false
set_option genCtorIdx false
set_option genSizeOf false
set_option genInjectivity false
namespace Internal.Mine
local macro_rules | `(⋯) => `(by first | kernel_rfl | decide | decide +kernel | (intros; kernel_rfl))
open Array renaming length_toList->Dt,toList_append->Ls,perm_iff_toList_perm->Q2,eq_empty_of_size_eq_zero->VO,getElem?_toList->Q3,toList_inj->NP,getElem?_eq_getElem->VP,size_setIfInBounds->VQ,toArray_toList->VR,getD_eq_getD_getElem?->bI
open Bool renaming false_ne_true->BJ,eq_false_iff->Gx,casesOn->Eh,and_eq_true->HQ,and_eq_true_iff->Lu,or_eq_false_iff->NQ,and_true->NR,or_eq_true_iff->VS,false_eq_true->VT,and_false->Q4,not_eq_true'->VU,noConfusion->VV,rec->JM,or_false->VW
open Int renaming le_trans->BA,natAbs_mul->CC,natAbs_add_le->EZ,ofNat_le->DL,sub_mul->Dj,natCast_nonneg->HF,zero_mul->DU,le_of_lt->Ec,mul_le_mul_of_nonneg_right->Qt,zero_add->Dn,ofNat_lt->DB,le_refl->DC,add_zero->Ei,mul_assoc->Fb,fmod_eq_emod_of_nonneg->NS,fdiv_eq_ediv_of_nonneg->NT,not_lt->DD,compare_eq_lt->JN,mul_one->Fc,emod_lt_of_pos->Lv,natAbs_natCast->Lw,add_mul->F3,not_le->Fd,one_mul->GU,mul_comm->HR,emod_nonneg->Lx,compare_eq_gt->NU,toNat_natCast->NV,toNat_of_nonneg->Q5,neg_nonneg_of_nonpos->VX,natAbs_sub_le->Q6,compare_eq_eq->Q7,natAbs_pos->NW,mul_ediv_add_emod->VY,sub_le_sub_right->VZ,add_le_add_right->V0,natCast_mul->Q8,lt_of_mul_lt_mul_right->bJ,ofNat_natAbs_of_nonpos->bK,lt_of_le_of_lt->V1,lt_trichotomy->V2,neg_mul->NX,mul_add->NY,dvd_of_emod_eq_zero->bL,eq_ofNat_of_zero_le->bN,ofNat->Ly,le_of_eq->Q9,le_total->Ra,natCast_pow->V3,natAbs_of_nonneg->bO,sub_nonneg_of_le->bP,pow_add->Rb,ediv_mul_cancel->bQ,add_assoc->V4,mul_zero->V5,sub_self->V6,lt_trans->V7,mul_sub->V8
open List renaming length_map->AY,mem_cons->Bc,length_append->BP,append->A8,all_eq_true->BW,mem_singleton->CL,mem_cons_self->CT,mem_cons_of_mem->Ed,lookup_cons->Dk,casesOn->B9,getD_eq_getElem?_getD->HG,mem_map->CD,append_nil->DW,getElem?_eq_getElem->HU,pairwise_cons->FL,range->Cn,append_assoc->FO,forIn_cons->FP,replicate->FQ,nodup_cons->EC,lookup->C2,getElem?_eq_none->H4,take_append_drop->H5,getElem?_map->F4,length_range->GV,mem_range->Fe,map_cons->ED,length_set->F6,getElem?_eq_some_iff->NZ,mem_append_right->Lz,map_congr_left->LA,filterMap_cons->LB,map_map->F8,mem_flatMap->JO,any_eq_true->JP,length_cons->JQ,getElem?_append_left->Rc,mem_filter->JR,mem_append_left->N0,map_inj_left->LC,size_toArray->LD,getElem_map->LF,mem_append->LH,map_append->LI,getElem?_set_ne->Rd,forIn_nil->LJ,not_mem_nil->N1,toList_toArray->Rf,sum_cons->LK,length_nil->N2,filterMap_map->Rg,getElem_range->Rh,take_succ_eq_append_getElem->bR,take_of_length_le->V9,contains_iff_mem->Wa,ext_getElem->Ri,length_drop->Rj,map_drop->N3,getElem?_concat_length->bS,getElem?_eq_none_iff->bT,take_length->Wb,getElem?_set_self->bU,range_succ_eq_map->bV,length_filter_le->bW,dropLast_eq_take->bZ,mem_of_getElem?->b7,nodup_nil->Wc,mem_map_of_mem->b8,length_reverse->b9,getElem?_range->cj,any_cons->Wd,zip_cons_cons->cq,contains_cons->cu,toArray->We,rec->N5,drop->Rk,Perm->Rl
open Nat renaming le_trans->AA,le_refl->AP,le_of_ble_eq_true->Bm,eq_of_beq_eq_true->Cb,beq->Aw,lt_of_lt_of_le->BX,le_add_right->BG,le_of_eq->Bn,lt_of_le_of_lt->CE,lt_succ_self->CF,add_le_add->B5,mul_le_mul_right->Ee,div_add_mod->Du,zero_le->Co,ble->Bf,mul_comm->Dv,le_succ->Dw,mul_le_mul_left->Jz,mod_lt->Dx,two_pow_pos->EF,add_le_add_left->GW,one_mul->C3,not_lt_zero->Ff,le_of_lt->DX,ble_eq_true_of_le->JS,mul_assoc->Fg,lt_of_succ_lt_succ->LL,ne_of_lt->EG,lt_trans->EH,lt_irrefl->F9,le_succ_of_le->JT,le_add_left->H7,add_comm->Ga,max_eq_right->JU,lt_of_mul_lt_mul_right->Rm,not_lt->EI,max_eq_left->JV,le_mul_of_pos_right->Rn,le_max_right->LM,zero_mul->H8,zero_add->Ia,beq_refl->Ib,le_max_left->LN,lt_succ_of_lt->N6,le_of_mul_le_mul_right->Wf,add_le_add_right->Ro,not_le_of_lt->N7,le_of_not_lt->N8,lt_add_of_pos_right->Wg,pow_add->JW,succ->Gb,eq_of_testBit_eq->Wh,casesOn->LO,add_mul->LP,le_antisymm->Rp,testBit_and->Rq,testBit_two_pow_mul_add->cy,succ_pos->N9,mul_lt_mul_of_pos_left->cz,mul_right_comm->Wi,cast->Ic,shiftRight_eq_div_pow->cA,le_of_lt_succ->Wj,le_of_succ_le->Wk,mul_one->Oa,succ_le_succ->Wl,le_mul_of_pos_left->cC,testBit_shiftRight->cD,lt_or_ge->Rr,le_total->Ru,le_of_sub_eq_zero->cF,pow_le_pow_right->cH,add_right_cancel->cI,testBit_or->Wm,mul_le_mul->Wo,add_lt_add_left->cJ,add_eq_zero_iff->cK,blt_eq->Rv,sub_zero->Wp,sub_self->Wq,log2_lt->Wr,blt->Ob
open PyProof.Rows renaming kwAll_nil->JX,bubble->Rw,lt_int->Ry,seqObj->DY,step_dedup->LQ,tail_any->Ie,listUpdate_at->Rz,accN->Cc,IsTup->Ej,subscriptTail->Ws
open PySem renaming wpAny_bind->Ac,wpAny_pure->An,Value->Ad,wpAny->Ae,Shared->Aj,wpAny_mono->AJ,wpAny_holding->BF,Addr->Ah,Around->AG,wpAny_newObj_type->Eu,wpAny_of_eq->Ci,wpAny_standAt->DM,Builtin->Bo,builtinsNs->C4,mainGlobals->DN,model->AW,wpAny_field->DZ,wpAt_of_wpAny->JA,wpAny_seqItems->FR,partValue->CU,NameKind->BD,wpAny_updateSeq->EJ,Heap->Ay,Stmt->Az,builtinKind->Dp,seqIndex?->Cp,sizeLine->BY,ks_wpAt_execs_cons->Ig,wpAny_call_entry->GY,wpAny_call->DE,slot_listiter_next->JY,wpAny_isInstance->Ih,plainId_quiet->Gc,wpAny_callSpecial?_slot->Oc,wpAny_attempt->GZ,keywordEach->Fh,typeIs_int->EK,wpAny_specialOf->JZ,slot_list_getitem->LR,arm_isTrue_BoolOp->LS,wpAny_rule->Gd,Program->Dq,codeAny_builtin->LU,methodCallPos->J0,codeAny_call_builtin->RA,wpAny_newTuple->LV,checkBoundCall->LW,wpAny_listPart->LX,sizeLine_eq->Ii,FuncBody->EL,typeOf->CR,Scope->BR,entryFor_of_tree->Od,checkBuiltinCall->Oe,Arguments->Ge,ks_wpAt_Return_some->RB,argsOk->C5,swappedStores->LY,backToKw->Fi,wpAny_setField_rec->RC,call_meets->Ij,isInstance->Ik,Fin->G3,wpAny_truthy_bool->RD,wpAny_pyIter_list->RE,slot_list_setitem->RF,newFunctionEnv->Of,methodCallForm->Og,wpAny_typeOf->LZ,codeAny->EM,Keyword->EN,argBest->EO,clipAt->DF,wpAny_pyIter_listiter->Wu,slot_list_append->RG,typeIs_str->J1,specialOf->Il,storeName->Im,rawInt->D0,behindInMarks->Oh,wpAny_newList->Oi,wpAny_loadName_local->Wv,wpAny_letTemporaryGo->Ww,wpAny_letGo->L4,starEach->G4,codeAny_of_tree->RH,wpAt_bind->RI,call_function_tree->Wx,wpAny_loadPart->RJ,wpAny_setField->RK,wpAt->L5,closureFor->L6,methodCall->L8,FuncData->Io,entryFor->Ip,nsFind->ER,entry_list_append->Wy,getMethod_builtin->Wz,subscripted->Oj,OsState->G6,splitId->G8,World->DG,wpAny_getItem_list_slice->cL,arm_eval_Call->RL,Comprehension->RM,annotationsOf->RN,pyIter->Fj,codeAny_call_builtin_at->cM,sub_int_bytearray->cN,wpAny_listSubscript_int->cO,args_list_append->WA,arm_allTrue_cons->WB,isSubtype->Ma,codeAmong->Mb,wpAny_mkText->RO,isTrue->RP,wpAny_load->Ol,fastLookup->Om,wpAny_execs_nil->WC,letOwnedTupleGo->WD,wpAny_tryCatch->WE,wpAny_bindName->WG,unsupported->RQ,GenState->Mc,compareOp->Oo,getMethod->Oq,notedBy->J2,sub_int_bytes->cQ,wpAny_add_int->WH,evalPart_none->WJ,call->RS,refuseLoop->RT,assignEach->RU,sub_int_str->cS,cStatics->Ot,getItem->Md,DictEntry->RV,swapsWith->RW,slicePick->RX,backTo->J4,CmpOp->G9,CmpOf->Ha,IsZip->Iq,table->Ir
open PySem.AutoFloatOps renaming gt_0->cT,lt_0->cU
open PySem.Builtin renaming bitAnd->Gf,bitXor->Ou,bitNot->Ov,divisionGoesByPylong->cV
open PySem.Builtin.List renaming listFitsIndex->Ow,listSubscript?->WK,listTooLong->WL,listSameRef->cW
open PySem.Builtin.Range renaming rangeSize->E0,small->RY,rangeFitsLong->cX
open PySem.Builtin.Str renaming occurrences->Ox,strKind->RZ
open PySem.Challenge renaming rw_jc0041_01->WM,pw_jc0041_01->cY
open PySem.F renaming plain_sum_loop->J5,slot_list_getattribute->R1,slot_str_split->R2,called_range->R3,ks_slot_super_ga->WN,args_str_split_2->WO,entry_str_split->WQ,args_list_getattribute_2->cZ,slot_tuple_iterator_next->c5,slot_list_extend->c6,slot_list_insert->c8,entry_range_new->c9,slot_list_index->da,plain_list_iadd->dc,entry_sum_loop->de,plain_list_new->df,plainAttrs_str->dh,slot_str_join->di,entry_zip_new->dj,store_object->dk,called_zip->dm
open PySem.Float64 renaming sub->Bg,mul->Cq,div->Cr,add->Dl,ofInt->Fk,cmpInt->Gg,isZero->Gh,cmp->Ek,isFinite->It,nearestOf->Me,ofInt->BH,val->Mf,dist->BO,ofFrac->WR,nearestOf->Oy,isZero->Iu,decode->J6,shift->Iv,fmod->ES
open PySem.Heap renaming get?_push_size->Bp,get?_push_of_some->B6,get?_update_other->JB,get?_update_self->Kz,lt_size->Ew,SameBut->Hb,ExtBut->Hc,size_push->Mg,IsSliceOf->WS
open PySem.Obj renaming mapSeq->C6,data_mapFields->R4,isFreed_of_fields->dq
open PySem.ScopeKind renaming isAnnotationScope->dr,function->dt
open PySem.Str renaming ofString->Gi,ofString_eq_toList->du,join->R5
open PySem.Txt renaming split->J8,slice->Oz,join->OA
open PySem.Value renaming ref->Bq,none->D1,type->Fl,str->ET,int->J9,casesOn->R6,builtin->R7
open PySem.W renaming looks_findIn->Dr,findIn->A7,Looks->AR,emptyDict->Cs,Frag->AI,clsIn->Iw,callWith_of->Iy,looks_mroIn->Iz,tabObj->D2,check_slot->Mh,typeIn->EU,looks_clsIn->OB,methodObj->OC,specialIn->OD,hasDictIn->OE,ownOf->WT,instObj->Mi,alongIn->Mj,mroIn->IA
open _root_ renaming And.intro->Fo,And.left->Fp,Classical.em->DH,Classical.byContradiction->dv,Eq.trans->Hd,Exists.elim->AH,Exists.imp->WU,ForInStep.yield->Gj,List.Nodup.length_le_of_subset->R8,List.cons.inj->Gk,Nat.succ.inj->He,Option.casesOn->BL,Option.bind_some->Gy,Option.some.inj->AQ,Prod.mk.inj->Hf,Pure.pure->R9,PySem.Around.under_plainId->Ka,PySem.AutoSeq1.wpAny_loadPart'->dw,PySem.Builtin.Int.intBits->Dy,PySem.Builtin.SmallTypes.nextOf->Sa,PySem.Calls.spliced_cons->IB,PySem.Calls.spliced_nil->Mk,PySem.Code.quiet_builtin->dA,PySem.Data.seq->Sb,PySem.Env.kindOf->Sg,PySem.Expr.casesOn->Hg,PySem.Flt.toInt->EV,PySem.Flt.Over->dB,PySem.Heap.SameBut.update->Ml,PySem.Manifest.signature?->dC,PySem.Moved.trans->WV,PySem.NameKind.cell->Mm,PySem.NameKind.local->Sh,PySem.StrLaws.glued_eq_join->WW,PySem.Value.ref.inj->CV,PySem.W.KasT.kasWp_bind->OF,PySem.W.Looks.ld->D3,PySem.W.Looks.at->Kb,PySem.callAny.viaDunder->dD,Option->Ab,congrArg->Ai,of_decide_eq_true->Bi,Bool->Aa,decide_eq_true->AU,UInt64->Al,if_neg->AD,decide_eq_false->Ct,absurd->AL,Array->AE,if_pos->Bh,String->A3,decide_eq_true_eq->Gl,beq_self_eq_true->Kc,of_decide_eq_false->Mn,ForInStep->Em,decide_eq_decide->OG,decide_eq_false_iff_not->WX,False->Cd,beq_false_of_ne->Si,Unit->Ce,PUnit->EW,or_false->OH,Decidable->Sj
noncomputable section
section
set_option genInjectivity false
set_option genSizeOf false
namespace Ar
inductive X where
 |v (i:Nat) | c (k:Nat) | ci (k:Int) | add (a b:X) | sub (a b:X) | mn (k:Nat) (a:X) | mi (k:Int) (a:X) | rn (a:X) (k:Nat) | ri (a:X) (k:Int)
 |neg (a:X) | abs (a:X) | tn (a:X) | ca (a:X) | min (a b:X) | max (a b:X)
noncomputable def tL:List Int->Nat->Int
 |[],_=>0
 |a::l,i=>match i with | 0=>a | i+1=>tL l i
noncomputable def o5:List Nat->Nat->Nat
 |[],_=>0
 |a::l,i=>match i with | 0=>a | i+1=>o5 l i
mutual
def X.N(is:List Int)(ns:List Nat):X->Nat
 |.v i=>o5 ns i
 |.c k=>k
 |.ci _=>0
 |.add a b=>a.N is ns+b.N is ns
 |.sub a b=>a.N is ns-b.N is ns
 |.mn k a=>k*a.N is ns
 |.mi _ _=>0
 |.rn a k=>a.N is ns*k
 |.ri _ _=>0
 |.neg _=>0
 |.abs a=>(a.Z is ns).natAbs
 |.tn a=>(a.Z is ns).toNat
 |.ca _=>0
 |.min a b=>Min.min (a.N is ns) (b.N is ns)
 |.max a b=>Max.max (a.N is ns) (b.N is ns)
def X.Z(is:List Int)(ns:List Nat):X->Int
 |.v i=>tL is i
 |.c _=>0
 |.ci k=>k
 |.add a b=>a.Z is ns+b.Z is ns
 |.sub a b=>a.Z is ns-b.Z is ns
 |.mn _ _=>0
 |.mi k a=>k*a.Z is ns
 |.rn _ _=>0
 |.ri a k=>a.Z is ns*k
 |.neg a => -a.Z is ns
 |.abs _=>0
 |.tn _=>0
 |.ca a=>((a.N is ns:Nat):Int)
 |.min a b=>Min.min (a.Z is ns) (b.Z is ns)
 |.max a b=>Max.max (a.Z is ns) (b.Z is ns)
end
structure Lf where
 l:List Int
 k:Int
noncomputable def OI:List Int->List Int->List Int
 |[],m=>m
 |a::l,m=>match m with | []=>a::l | b::m=>(a+b)::OI l m
def Lf.add(p q:Lf):Lf:=⟨OI p.l q.l,p.k+q.k⟩
def Lf.mul(x:Int)(p:Lf):Lf:=⟨p.l.map (x * ·),x*p.k⟩
def Lf.sub(p q:Lf):Lf:=p.add (q.mul (-1))
noncomputable def un:Nat->Aa->List Int
 |0,z=>cond z [1] [0,1]
 |i+1,z=>0::0::un i z
abbrev Alt:=List Lf×Lf
noncomputable def con(k:Int):Lf:=⟨[],k⟩
noncomputable def a1(f:Lf->List Alt)(xs:List Alt):List Alt:=xs.flatMap λp=>(f p.2).map λq=>(q.1++p.1,q.2)
noncomputable def a2(f:Lf->Lf->List Alt)(xs ys:List Alt):List Alt:=xs.flatMap λp=>ys.flatMap λq=>(f p.2 q.2).map λr=>(r.1++(p.1++q.1),r.2)
def X.al:X->Aa->List Alt
 |.v i,z=>[([],⟨un i z,0⟩)]
 |.c k,z=>[([],con (cond z 0 k))]
 |.ci k,z=>[([],con (cond z k 0))]
 |.add a b,z=>a2 (λp q=>[([],p.add q)]) (a.al z) (b.al z)
 |.sub a b,z=>a2 (λp q=>cond z [([],p.sub q)] [([p.sub q],p.sub q),([q.sub p],con 0)]) (a.al z) (b.al z)
 |.mn k a,z=>a1 (λp=>[([],p.mul (cond z 0 k))]) (a.al z)
 |.mi k a,z=>a1 (λp=>[([],p.mul (cond z k 0))]) (a.al z)
 |.rn a k,z=>a1 (λp=>[([],p.mul (cond z 0 k))]) (a.al z)
 |.ri a k,z=>a1 (λp=>[([],p.mul (cond z k 0))]) (a.al z)
 |.neg a,z=>a1 (λp=>[([],p.mul (cond z (-1) 0))]) (a.al z)
 |.abs a,z=>cond z [([],con 0)] (a1 (λp=>[([p],p),([p.mul (-1)],p.mul (-1))]) (a.al true))
 |.tn a,z=>cond z [([],con 0)] (a1 (λp=>[([p],p),([p.mul (-1)],con 0)]) (a.al true))
 |.ca a,z=>cond z (a.al false) [([],con 0)]
 |.min a b,z=>a2 (λp q=>[([q.sub p],p),([p.sub q],q)]) (a.al z) (b.al z)
 |.max a b,z=>a2 (λp q=>[([q.sub p],q),([p.sub q],p)]) (a.al z) (b.al z)
inductive Fm where
 |le (z:Aa) (a b:X) | lt (z:Aa) (a b:X) | eq (z:Aa) (a b:X) | no (f:Fm) | an (f g:Fm) | o (f g:Fm) | im (f g:Fm) | fl
def Fm.P(is:List Int)(ns:List Nat):Fm->Prop
 |.le true a b=>a.Z is ns<=b.Z is ns
 |.le false a b=>a.N is ns<=b.N is ns
 |.lt true a b=>a.Z is ns<b.Z is ns
 |.lt false a b=>a.N is ns<b.N is ns
 |.eq true a b=>a.Z is ns=b.Z is ns
 |.eq false a b=>a.N is ns=b.N is ns
 |.no f=>¬f.P is ns
 |.an f g=>f.P is ns/\g.P is ns
 |.o f g=>f.P is ns\/g.P is ns
 |.im f g=>f.P is ns->g.P is ns
 |.fl=>Cd
noncomputable def cr(xs ys:List (List Lf)):List (List Lf):=xs.flatMap λp=>ys.map λq=>p++q
def cm(z:Aa)(a b:X)(f:Lf->Lf->List (List Lf)):List (List Lf):=(a.al z).flatMap λp=>(b.al z).flatMap λq=>(f p.2 q.2).map λr=>r++(p.1++q.1)
def Fm.dn:Fm->Aa->List (List Lf)
 |.le z a b,t=>cm z a b λp q=>cond t [[q.sub p]] [[(p.sub q).add (con (-1))]]
 |.lt z a b,t=>cm z a b λp q=>cond t [[(q.sub p).add (con (-1))]] [[p.sub q]]
 |.eq z a b,t=>cm z a b λp q=>cond t [[q.sub p,p.sub q]] [[(p.sub q).add (con (-1))],[(q.sub p).add (con (-1))]]
 |.no f,t=>f.dn (!t)
 |.an f g,t=>cond t (cr (f.dn true) (g.dn true)) (f.dn false++g.dn false)
 |.o f g,t=>cond t (f.dn true++g.dn true) (cr (f.dn false) (g.dn false))
 |.im f g,t=>cond t (f.dn false++g.dn true) (cr (f.dn true) (g.dn false))
 |.fl,t=>cond t [] [[]]
def mQ:List Int->Int | []=>0 | a::_=>a
noncomputable def psI:Int->Aa | .ofNat n => !Nat.beq n 0 | .negSucc _=>false
def zK:Int->Aa | .ofNat _=>false | .negSucc _=>true
def zrI:Int->Aa | .ofNat n=>Aw n 0 | .negSucc _=>false
def zL:List Int->Aa | []=>true | _::_=>false
def Lf.tl(p:Lf):Lf:=⟨p.l.tail,p.k⟩
noncomputable def fm:Nat->List Lf->Aa
 |0,cs=>cs.any λc=>zL c.l&&zK c.k
 |n+1,cs=>fm n ((cs.filter λc=>zrI (mQ c.l)).map Lf.tl++(cs.filter λc=>psI (mQ c.l)).flatMap λp=>(cs.filter λc=>zK (mQ c.l)).map λq=>(p.tl.mul (-mQ q.l)).add (q.tl.mul (mQ p.l)))
noncomputable def nonneg:Nat->List Lf
 |0=>[]
 |q+1=>⟨un q false,0⟩::nonneg q
noncomputable def dot(ρ:Nat->Int):Nat->List Int->Int
 |_,[]=>0
 |k,a::l=>a*ρ k+dot ρ (k+1) l
def Lf.ev(ρ:Nat->Int)(k:Nat)(p:Lf):Int:=dot ρ k p.l+p.k
theorem Yr{ρ:Nat->Int}:∀{l m:List Int}{k:Nat},dot ρ k (OI l m)=dot ρ k l+dot ρ k m
 |[],m,k=>(Dn _).symm
 |a::l,[],k=>(Ei _).symm
 |a::l,b::m,k=>by
  show(a+b)*ρ k+dot ρ (k+1) (OI l m)=(a*ρ k+dot ρ (k+1) l)+(b*ρ k+dot ρ (k+1) m)
  rw[Yr,F3];ac_rfl
theorem Ys{ρ:Nat->Int}{x:Int}:∀{l:List Int}{k:Nat},dot ρ k (l.map (x * ·))=x*dot ρ k l
 |[],_=>(V5 x).symm
 |a::l,k=>by
  show x*a*ρ k+dot ρ (k+1) (l.map (x * ·))=x*(a*ρ k+dot ρ (k+1) l)
  rw[Ys,NY,Fb]
section
variable{ρ:Nat->Int}{k:Nat}{p q:Lf}
theorem Sk:(p.add q).ev ρ k=p.ev ρ k+q.ev ρ k:=by
 show dot ρ k (OI p.l q.l)+(p.k+q.k)=(dot ρ k p.l+p.k)+(dot ρ k q.l+q.k)
 rw[Yr];ac_rfl
theorem IC{x:Int}:(p.mul x).ev ρ k=x*p.ev ρ k:=by
 show dot ρ k (p.l.map (x * ·))+x*p.k=x*(dot ρ k p.l+p.k)
 rw[Ys,NY]
theorem Sl:(p.mul (-1)).ev ρ k = -p.ev ρ k:=IC.trans (Int.neg_one_mul _)
theorem Gm:(p.sub q).ev ρ k=p.ev ρ k-q.ev ρ k:=Sk.trans (Ai (p.ev ρ k + ·) Sl)
theorem ID{x:Int}:(con x).ev ρ k=x:=Dn x
theorem mR:p.ev ρ k=mQ p.l*ρ k+p.tl.ev ρ (k+1):=by
 cases p with
 |mk l x=>cases l with
  |nil=>show(0:Int)+x=0*ρ k+(0+x);rw[DU,Dn,Dn]
  |cons a l=>exact V4 _ _ _
theorem ps{i:Int}(h:psI i=true): 0<i:=by
 cases i with
 |ofNat n=>cases n with
  |zero=>cases h
  |succ n=>exact Int.natCast_pos.mpr (N9 n)
 |negSucc n=>cases h
theorem ng{i:Int}(h:zK i=true):i<0:=by
 cases i with
 |ofNat n=>cases h
 |negSucc n=>exact Int.negSucc_lt_zero n
theorem zr{i:Int}(h:zrI i=true):i=0:=by
 cases i with
 |ofNat n=>cases n with
  |zero=>rfl
  |succ n=>cases h
 |negSucc n=>cases h
end
def Yu(ρ:Nat->Int)(k:Nat)(cs:List Lf):Prop:=∀c∈cs,0<=c.ev ρ k
theorem Yu.app{ρ:Nat->Int}{k:Nat}{a b:List Lf}(h:Yu ρ k a)(h':Yu ρ k b):Yu ρ k (a++b):=λc m=>(LH.mp m).elim (h c) (h' c)
theorem Yu.cons{ρ:Nat->Int}{k:Nat}{a:Lf}{b:List Lf}(h: 0<=a.ev ρ k)(h':Yu ρ k b):Yu ρ k (a::b):=λc m=>(Bc.mp m).elim (λe=>e▸h) (h' c)
theorem Yu.nil{ρ:Nat->Int}{k:Nat}:Yu ρ k []:=λ_ m=>nomatch m
theorem mT{ρ:Nat->Int}:∀{n k:Nat}{cs:List Lf},fm n cs=true->Yu ρ k cs->Cd
 |0,k,cs,h,o=>by
  refine(JP.mp h).elim λc q=>?_
  have t:=(HQ _ _).mp q.2
  have u:=o c q.1
  cases c with
  |mk l x=>cases l with
   |nil=>exact AL (ng t.2) (DD.mpr ((Dn x)▸u))
   |cons a l=>cases t.1
 |n+1,k,cs,h,o=>by
  refine mT (ρ:=ρ) (n:=n) (k:=k+1) h (Yu.app (ρ:=ρ) (λc m=>?_) λc m=>?_)
  ·refine(CD.mp m).elim λd q=>q.2▸?_
   have t:=JR.mp q.1
   have u:=o d t.1
   rw[mR,zr t.2,DU,Dn] at u
   exact u
  ·refine(JO.mp m).elim λd q=>(CD.mp q.2).elim λe r=>r.2▸?_
   have t:=JR.mp q.1;have t':=JR.mp r.1
   have u:=o d t.1;have u':=o e t'.1
   have x:=ps t.2;have y:=ng t'.2
   rw[mR] at u u'
   rw[Sk,IC,IC]
   generalize mQ d.l=a at *;generalize mQ e.l=b at*
   have z:=Int.add_nonneg (Int.mul_nonneg (VX (Ec y)) u) (Int.mul_nonneg (Ec x) u')
   rw[NY,NY] at z
   have w: -b*(a*ρ k)+a*(b*ρ k)=0:=by rw[NX,<-Fb,<-Fb,HR b a];exact Int.add_left_neg _
   rw[show -b*(a*ρ k) + -b*d.tl.ev ρ (k+1)+(a*(b*ρ k)+a*e.tl.ev ρ (k+1))=(-b*(a*ρ k)+a*(b*ρ k))+(-b*d.tl.ev ρ (k+1)+a*e.tl.ev ρ (k+1)) by ac_rfl,w,Dn] at z
   exact z
noncomputable def env:List Int->List Nat->Nat->Int
 |is,_,0=>tL is 0
 |_,ns,1=>o5 ns 0
 |is,ns,n+2=>env is.tail ns.tail n
theorem o6:∀{l:List Int}{i:Nat},tL l (i+1)=tL l.tail i
 |[],0=>rfl | [],_+1=>rfl | _::_,_=>rfl
theorem o8:∀{l:List Nat}{i:Nat},o5 l (i+1)=o5 l.tail i
 |[],0=>rfl | [],_+1=>rfl | _::_,_=>rfl
theorem dE{is:List Int}{ns:List Nat}:∀{l:List Int}{k:Nat},dot (env is ns) (k+2) l=dot (env is.tail ns.tail) k l
 |[],_=>rfl
 |a::l,k=>by
  show a*env is.tail ns.tail k+dot (env is ns) (k+1+2) l=_
  rw[dE];rfl
theorem WY:∀{i:Nat}{z:Aa}{is:List Int}{ns:List Nat},dot (env is ns) 0 (un i z)=cond z (tL is i) (o5 ns i)
 |0,true,is,ns=>(Ei _).trans (GU _)
 |0,false,is,ns=>by
  show(0:Int)*_+(1*((o5 ns 0:Nat):Int)+0)=_
  rw[DU,Dn,Ei,GU];rfl
 |i+1,z,is,ns=>by
  show(0:Int)*_+(0*_+dot (env is ns) (0+2) (un i z))=_
  rw[DU,Dn,DU,Dn,dE,WY,o6,o8]
section
variable{is:List Int}{ns:List Nat}
abbrev ρ0(is:List Int)(ns:List Nat):Nat->Int:=env is ns
def dF(is:List Int)(ns:List Nat)(x:Int)(xs:List Alt):Prop:=∃q∈xs,Yu (env is ns) 0 q.1/\x=q.2.ev (env is ns) 0
theorem Mo{x:Int}{p:Lf}(h:x=p.ev (env is ns) 0):dF is ns x [([],p)]:=⟨_,CL.mpr rfl,.nil,h⟩
theorem dG{x:Int}{p q:Lf}{l:List Alt}(h:x=p.ev (env is ns) 0)(h': 0<=q.ev (env is ns) 0):dF is ns x (([q],p)::l):=⟨_,CT,.cons h' .nil,h⟩
theorem dH{x:Int}{p q:Lf}{a:Alt}(h:x=p.ev (env is ns) 0)(h': 0<=q.ev (env is ns) 0):dF is ns x [a,([q],p)]:=⟨_,Ed _ (CL.mpr rfl),.cons h' .nil,h⟩
theorem Kd{x y:Int}{f:Lf->List Alt}{xs:List Alt}(h:dF is ns x xs)(hf:∀p:Lf,x=p.ev (env is ns) 0->dF is ns y (f p)):dF is ns y (a1 f xs):=
 h.elim λp a=>(hf p.2 a.2.2).elim λq b=>⟨(q.1++p.1,q.2),JO.mpr ⟨p,a.1,CD.mpr ⟨q,b.1,rfl⟩⟩,.app b.2.1 a.2.1,b.2.2⟩
theorem OJ{x y w:Int}{f:Lf->Lf->List Alt}{xs ys:List Alt}(h:dF is ns x xs)(h':dF is ns y ys)(hf:∀p q:Lf,x=p.ev (env is ns) 0->y=q.ev (env is ns) 0->dF is ns w (f p q)):dF is ns w (a2 f xs ys):=
 h.elim λp a=>h'.elim λq b=>(hf p.2 q.2 a.2.2 b.2.2).elim λr c=>⟨(r.1++(p.1++q.1),r.2),JO.mpr ⟨p,a.1,JO.mpr ⟨q,b.1,CD.mpr ⟨r,c.1,rfl⟩⟩⟩,.app c.2.1 (.app a.2.1 b.2.1),c.2.2⟩
def X.val(is:List Int)(ns:List Nat)(x:X)(z:Aa):Int:=cond z (x.Z is ns) (x.N is ns)
theorem WZ{a b:Int}(h:a<=b): 0<=b-a:=bP h
theorem DO:∀(x:X)(z:Aa),dF is ns (x.val is ns z) (x.al z)
 |.v i,z=>Mo (by cases z<;>exact(WY.trans rfl).symm.trans (Ei _).symm)
 |.c k,z=>Mo (by cases z<;>exact ID.symm)
 |.ci k,z=>Mo (by cases z<;>exact ID.symm)
 |.add a b,z=>OJ (DO a z) (DO b z) λp q e e'=>Mo (by rw[Sk,<-e,<-e'];cases z<;>rfl)
 |.sub a b,true=>OJ (DO a true) (DO b true) λp q e e'=>Mo (by rw[Gm,<-e,<-e'];rfl)
 |.sub a b,false=>OJ (DO a false) (DO b false) λp q e e'=>(Ru (b.N is ns) (a.N is ns)).elim
   (λh=>dG (by rw[Gm,<-e,<-e'];exact Int.natCast_sub h) (by rw[Gm,<-e,<-e'];exact WZ (DL.mpr h)))
   λh=>dH (by rw[ID];exact Ai Ic (Nat.sub_eq_zero_of_le h)) (by rw[Gm,<-e,<-e'];exact WZ (DL.mpr h))
 |.mn k a,z=>Kd (DO a z) λp e=>Mo (by rw[IC,<-e];cases z with | true=>exact(DU _).symm | false=>rfl)
 |.mi k a,z=>Kd (DO a z) λp e=>Mo (by rw[IC,<-e];cases z with | true=>rfl | false=>exact(DU _).symm)
 |.rn a k,z=>Kd (DO a z) λp e=>Mo (by rw[IC,<-e];cases z with | true=>exact(DU _).symm | false=>exact(Q8 (a.N is ns) k).trans (HR _ _))
 |.ri a k,z=>Kd (DO a z) λp e=>Mo (by rw[IC,<-e];cases z with | true=>exact HR _ _ | false=>exact(DU _).symm)
 |.neg a,z=>Kd (DO a z) λp e=>Mo (by rw[IC,<-e];cases z with | true=>exact(Int.neg_one_mul _).symm | false=>exact(DU _).symm)
 |.abs a,true=>Mo ID.symm
 |.abs a,false=>Kd (DO a true) λp e=>(Ra 0 (a.Z is ns)).elim
   (λh=>dG (.trans (bO h) e) (BA h (Q9 e)))
   λh=>dH (by rw[Sl,<-e];exact bK h) (by rw[Sl,<-e];exact VX h)
 |.tn a,true=>Mo ID.symm
 |.tn a,false=>Kd (DO a true) λp e=>(Ra 0 (a.Z is ns)).elim
   (λh=>dG (.trans (Q5 h) e) (BA h (Q9 e)))
   λh=>dH (by rw[ID];exact Ai Ic (Int.toNat_of_nonpos h)) (by rw[Sl,<-e];exact VX h)
 |.ca a,true=>DO a false
 |.ca a,false=>Mo ID.symm
 |.min a b,z=>OJ (DO a z) (DO b z) λp q e e'=>(Ra (a.val is ns z) (b.val is ns z)).elim
   (λh=>dG (by rw[<-e];cases z with | true=>exact Int.min_eq_left h | false=>exact Ai Ic (Nat.min_eq_left (DL.mp h))) (by rw[Gm,<-e,<-e'];exact WZ h))
   λh=>dH (by rw[<-e'];cases z with | true=>exact Int.min_eq_right h | false=>exact Ai Ic (Nat.min_eq_right (DL.mp h))) (by rw[Gm,<-e,<-e'];exact WZ h)
 |.max a b,z=>OJ (DO a z) (DO b z) λp q e e'=>(Ra (a.val is ns z) (b.val is ns z)).elim
   (λh=>dG (by rw[<-e'];cases z with | true=>exact Int.max_eq_right h | false=>exact Ai Ic (JU (DL.mp h))) (by rw[Gm,<-e,<-e'];exact WZ h))
   λh=>dH (by rw[<-e];cases z with | true=>exact Int.max_eq_left h | false=>exact Ai Ic (JV (DL.mp h))) (by rw[Gm,<-e,<-e'];exact WZ h)
def One(is:List Int)(ns:List Nat)(ds:List (List Lf)):Prop:=∃d∈ds,Yu (env is ns) 0 d
theorem One.l{a b:List (List Lf)}(h:One is ns a):One is ns (a++b):=h.elim λd q=>⟨d,N0 _ q.1,q.2⟩
theorem One.r{a b:List (List Lf)}(h:One is ns b):One is ns (a++b):=h.elim λd q=>⟨d,Lz _ q.1,q.2⟩
theorem One.cr{a b:List (List Lf)}(h:One is ns a)(h':One is ns b):One is ns (cr a b):=h.elim λd q=>h'.elim λe r=>⟨d++e,JO.mpr ⟨d,q.1,CD.mpr ⟨e,r.1,rfl⟩⟩,.app q.2 r.2⟩
theorem One.cm{z:Aa}{a b:X}{f:Lf->Lf->List (List Lf)}(h:∀p q:Lf,a.val is ns z=p.ev (env is ns) 0->b.val is ns z=q.ev (env is ns) 0->One is ns (f p q)):One is ns (cm z a b f):=
 (DO a z).elim λp s=>(DO b z).elim λq t=>(h p.2 q.2 s.2.2 t.2.2).elim λd u=>⟨d++(p.1++q.1),JO.mpr ⟨p,s.1,JO.mpr ⟨q,t.1,CD.mpr ⟨d,u.1,rfl⟩⟩⟩,.app u.2 (.app s.2.1 t.2.1)⟩
theorem jo{p:Lf}(h: 0<=p.ev (env is ns) 0):One is ns [[p]]:=⟨_,CL.mpr rfl,.cons h .nil⟩
theorem jq{p q:Lf}{a b:Int}(e:a=p.ev (env is ns) 0)(e':b=q.ev (env is ns) 0)(h:b<=a): 0<=(p.sub q).ev (env is ns) 0:=by rw[Gm,<-e,<-e'];exact WZ h
theorem jr{p q:Lf}{a b:Int}(e:a=p.ev (env is ns) 0)(e':b=q.ev (env is ns) 0)(h:b<a): 0<=((p.sub q).add (con (-1))).ev (env is ns) 0:=by
 rw[Sk,Gm,ID,<-e,<-e'];exact bP (Int.add_one_le_iff.mpr (Int.sub_pos_of_lt h))
theorem js{z:Aa}{a b:X}:(a.val is ns z=b.val is ns z->One is ns (Fm.dn (.eq z a b) true))/\(a.val is ns z≠b.val is ns z->One is ns (Fm.dn (.eq z a b) false)):=
 ⟨λh=>.cm λp q e e'=>⟨_,CL.mpr rfl,.cons (jq e' e (Q9 h)) (.cons (jq e e' (Q9 h.symm)) .nil)⟩,
  λh=>.cm λp q e e'=>(Int.lt_or_gt_of_ne h).elim (λh=>⟨_,Ed _ (CL.mpr rfl),.cons (jr e' e h) .nil⟩) λh=>⟨_,CT,.cons (jr e e' h) .nil⟩⟩
theorem jt{z:Aa}{a b:X}:(a.val is ns z<=b.val is ns z->One is ns (Fm.dn (.le z a b) true))/\(¬a.val is ns z<=b.val is ns z->One is ns (Fm.dn (.le z a b) false)):=
 ⟨λh=>.cm λp q e e'=>jo (jq e' e h),λh=>.cm λp q e e'=>jo (jr e e' (Fd.mp h))⟩
theorem ju{z:Aa}{a b:X}:(a.val is ns z<b.val is ns z->One is ns (Fm.dn (.lt z a b) true))/\(¬a.val is ns z<b.val is ns z->One is ns (Fm.dn (.lt z a b) false)):=
 ⟨λh=>.cm λp q e e'=>jo (jr e' e h),λh=>.cm λp q e e'=>jo (jq e e' (DD.mp h))⟩
theorem Fq:∀f:Fm,(f.P is ns->One is ns (f.dn true))/\(¬f.P is ns->One is ns (f.dn false))
 |.le true a b=>⟨jt (z:=true).1,jt (z:=true).2⟩
 |.le false a b=>⟨λh=>jt.1 (DL.mpr h),λh=>jt.2 λw=>h (DL.mp w)⟩
 |.lt true a b=>⟨ju (z:=true).1,ju (z:=true).2⟩
 |.lt false a b=>⟨λh=>ju.1 (DB.mpr h),λh=>ju.2 λw=>h (DB.mp w)⟩
 |.eq true a b=>⟨js (z:=true).1,js (z:=true).2⟩
 |.eq false a b=>⟨λh=>js.1 (Ai Ic h),λh=>js.2 λw=>h (Int.ofNat_inj.mp w)⟩
 |.no f=>⟨λh=>(Fq f).2 h,λh=>(Fq f).1 (Classical.not_not.mp h)⟩
 |.an f g=>⟨λh=>.cr ((Fq f).1 h.1) ((Fq g).1 h.2),λh=>(DH (f.P is ns)).elim (λx=>.r ((Fq g).2 λy=>h ⟨x,y⟩)) λx=>.l ((Fq f).2 x)⟩
 |.o f g=>⟨λh=>h.elim (λx=>.l ((Fq f).1 x)) λx=>.r ((Fq g).1 x),λh=>.cr ((Fq f).2 λx=>h (.inl x)) ((Fq g).2 λx=>h (.inr x))⟩
 |.im f g=>⟨λh=>(DH (f.P is ns)).elim (λx=>.r ((Fq g).1 (h x))) λx=>.l ((Fq f).2 x),λh=>.cr ((Fq f).1 (dv λx=>h λy=>AL y x)) ((Fq g).2 λx=>h λ_=>x)⟩
 |.fl=>⟨nofun,λ_=>⟨_,CL.mpr rfl,.nil⟩⟩
theorem mU:∀{q:Nat},Yu (env is ns) 0 (nonneg q)
 |0=>.nil
 |q+1=>.cons (by rw[show(Lf.mk (un q false) 0).ev (env is ns) 0=dot (env is ns) 0 (un q false)+0 from rfl,WY];exact Int.ofNat_nonneg _) mU
def dec(n q:Nat)(f:Fm):Aa:=(f.dn false).all λd=>fm (n+n) (d++nonneg q)
theorem pv(n q:Nat)(f:Fm)(is:List Int)(ns:List Nat)(h:dec n q f=true):f.P is ns:=
 dv λw=>((Fq f).2 w).elim λd r=>mT (BW.mp h d r.1) (.app r.2 mU)
end
noncomputable def mx(a b:Nat):Nat:=cond (Bf a b) b a
def X.top:X->Nat
 |.v i=>i+1
 |.c _=>0 | .ci _=>0
 |.add a b=>mx a.top b.top | .sub a b=>mx a.top b.top | .min a b=>mx a.top b.top | .max a b=>mx a.top b.top
 |.mn _ a=>a.top | .mi _ a=>a.top | .rn a _=>a.top | .ri a _=>a.top
 |.neg a=>a.top | .abs a=>a.top | .tn a=>a.top | .ca a=>a.top
def Fm.top:Fm->Nat
 |.le _ a b=>mx a.top b.top | .lt _ a b=>mx a.top b.top | .eq _ a b=>mx a.top b.top
 |.no f=>f.top | .an f g=>mx f.top g.top | .o f g=>mx f.top g.top | .im f g=>mx f.top g.top | .fl=>0
def Ps(is:List Int)(ns:List Nat):List Fm->Fm->Prop
 |[],g=>g.P is ns
 |h::t,g=>h.P is ns->Ps is ns t g
theorem mV{is:List Int}{ns:List Nat}{g:Fm}:∀{hs:List Fm},(hs.foldr .im g).P is ns->Ps is ns hs g
 |[],h=>h
 |_::_,h=>λx=>mV (h x)
theorem pw(hs:List Fm)(g:Fm)(is:List Int)(ns:List Nat)(h:dec (hs.foldr .im g).top (hs.foldr .im g).top (hs.foldr .im g)=true:=by kernel_rfl):Ps is ns hs g:=mV (pv _ _ _ is ns h)
noncomputable abbrev Fm.l:=Fm.le false
noncomputable abbrev Fm.L:=Fm.le true
noncomputable abbrev Fm.t:=Fm.lt false
noncomputable abbrev Fm.T:=Fm.lt true
noncomputable abbrev Fm.e:=Fm.eq false
noncomputable abbrev Fm.E:=Fm.eq true
noncomputable abbrev Fm.n:=Fm.no
noncomputable abbrev Fm.a:=Fm.an
noncomputable abbrev Fm.i:=Fm.im
noncomputable abbrev Fm.f:=Fm.fl
noncomputable abbrev X.A:=X.add
noncomputable abbrev X.S:=X.sub
noncomputable abbrev X.k:=X.c
noncomputable abbrev X.j:=X.ci
noncomputable abbrev X.m:=X.mn
noncomputable abbrev X.l:=X.mi
noncomputable abbrev X.R:=X.rn
noncomputable abbrev X.Q:=X.ri
noncomputable abbrev X.g:=X.neg
noncomputable abbrev X.b:=X.abs
noncomputable abbrev X.d:=X.tn
noncomputable abbrev X.n:=X.ca
noncomputable abbrev X.p:=X.v 0
noncomputable abbrev X.q:=X.v 1
noncomputable abbrev X.r:=X.v 2
noncomputable abbrev X.s:=X.v 3
noncomputable abbrev X.t:=X.v 4
noncomputable abbrev X.u:=X.v 5
noncomputable abbrev X.w:=X.v 6
noncomputable abbrev X.x:=X.v 7
noncomputable abbrev X.y:=X.v 8
noncomputable abbrev X.z:=X.v 9
end Ar
end
open Ar (pw)
@[elab_as_elim] theorem rE{α:Sort u}{a b:α}{M:α->Prop}(h:a=b)(e:M b):M a:=@Eq.rec α b (λx _=>M x) e a h.symm
local macro_rules | `(tactic| rewrite [$h:term]) => `(tactic| first | refine rE ($h ..) ?_ | rewrite [$h:term] at ⊢) | `(tactic| rewrite [$r:rwRule, $rs:rwRule,*]) => `(tactic| (rewrite [$r]; rewrite [$rs,*]))
noncomputable abbrev EP:=PySem.Value->PySem.Shared->Prop
section
open PySem PySem.W PyProof.Rows
noncomputable def BQ(p q:Int×Int):Aa:=decide (p.1<q.1)||(decide (p.1=q.1)&&decide (p.2<q.2))
theorem Df:BQ p q=true↔p.1<q.1\/(p.1=q.1/\p.2<q.2):=by unfold BQ;simp
theorem IE(h:BQ p q=true)(h':BQ q r=true):BQ p r=true:=by rw[Df] at *;exact(pw [.o (.T .p .q) (.a (.E .p .q) (.T .r .s)),.o (.T .q .t) (.a (.E .q .t) (.T .s .u))] (.o (.T .p .t) (.a (.E .p .t) (.T .r .u))) [_,_,_,_,_,_] []) h h'
theorem TR(h:BQ p q=false)(hne:p≠q):BQ q p=true:=by
 rw[Df]
 have h':¬ (p.1<q.1\/(p.1=q.1/\p.2<q.2)):=λx=>by rw[<-Df,h] at x;cases x
 have:¬ (p.1=q.1/\p.2=q.2):=λx=>hne (Prod.ext x.1 x.2)
 exact(pw [.n (.o (.T .p .q) (.a (.E .p .q) (.T .r .s))),.n (.a (.E .p .q) (.E .r .s))] (.o (.T .q .p) (.a (.E .q .p) (.T .s .r))) [_,_,_,_] []) h' this
theorem Mp:BQ p p=false:=by unfold BQ;simp
structure Pm(n:Nat)(p:AE Nat):Prop where
 perm:p.Perm (Cn n).toArray
section
theorem Pm.size(P:Pm n p):p.size=n:=by rw[P.perm.size_eq];simp
theorem Pm.lt(P:Pm n p)(hi:i<n):p.getD i 0<n:=by
 have h:i<p.size:=by rw[P.size];exact hi
 have hm:p[i]∈p.toList:=by simp
 have:=(Q2.mp P.perm).mem_iff.mp hm
 simp[AE.getD,h] at this ⊢
 exact this
theorem Pm.inj(P:Pm n p)(hi:i<n)(hj:j<n)(h:p.getD i 0=p.getD j 0):i=j:=by
 have yH:i<p.toList.length:=by rw[Dt,P.size];exact hi
 have hj':j<p.toList.length:=by rw[Dt,P.size];exact hj
 have nd:=(Q2.mp P.perm).nodup_iff.mpr (by simpa using List.nodup_range)
 have h1:i<p.size:=by rw[P.size];exact hi
 have h2:j<p.size:=by rw[P.size];exact hj
 have:p.toList[i]=p.toList[j]:=by simpa[AE.getD,h1,h2] using h
 exact(List.getElem_inj nd).mp this
theorem Pm.rev(P:Pm n p)(i j:Nat):Pm n (kas_rev p i j):=⟨(mirror_perm _ _ _ _).trans P.perm⟩
theorem Pm.bubble(P:Pm n p)(i j:Nat):Pm n (Rw p i j):=⟨(bubble_perm _ _ _).trans P.perm⟩
variable{K:Nat->Int×Int}
def Lt(K:Nat->Int×Int)(p:AE Nat)(i j:Nat):Prop:=BQ (K (p.getD i 0)) (K (p.getD j 0))=true
theorem Lt.trans(h:Lt K p i j)(h':Lt K p j k):Lt K p i k:=IE h h'
def o9(n:Nat)(K:Nat->Int×Int)(cmp:Nat->Nat->(Aa->Aj->Prop)->Aj->Prop)(s:Aj):Prop:=∀i j C,i<n->j<n->C (BQ (K i) (K j)) s->cmp i j C s
def Inj(n:Nat)(K:Nat->Int×Int):Prop:=∀i j,i<n->j<n->K i=K j->i=j
theorem tO(P:Pm n p)(hK:Inj n K)(hi:i<n)(hj:j<n)(hij:i≠j)(h:BQ (K (p.getD i 0)) (K (p.getD j 0))=false):Lt K p j i:=
 TR h λe=>hij (P.inj hi hj (hK _ _ (P.lt hi) (P.lt hj) e))
def TS(K:Nat->Int×Int)(p:AE Nat)(m:Nat):Prop:=∀i j,i<j->j<m->Lt K p i j
def mW(K:Nat->Int×Int)(p:AE Nat)(m:Nat):Prop:=∀i j,i<j->j<m->Lt K p j i
theorem TS.succ(h:TS K p m)(h':Lt K p (m-1) m):TS K p (m+1):=λi j hij hj=>by
 by_cases e:j=m
 ·subst e
  by_cases e':i=j-1
  ·rw[e'];exact h'
  ·exact(h i (j-1) ((pw [.t .p .q,.n (.e .p (.S .q (.k 1)))] (.t .p (.S .q (.k 1))) [] [_,_]) hij e') ((pw [.t .p .q] (.t (.S .q (.k 1)) .q) [] [_,_]) hij)).trans h'
 ·exact h i j hij ((pw [.t .p (.A .q (.k 1)),.n (.e .p .q)] (.t .p .q) [] [_,_]) hj e)
theorem mW.succ(h:mW K p m)(h':Lt K p m (m-1)):mW K p (m+1):=λi j hij hj=>by
 by_cases e:j=m
 ·subst e
  by_cases e':i=j-1
  ·rw[e'];exact h'
  ·exact Lt.trans h' (h i (j-1) ((pw [.t .p .q,.n (.e .p (.S .q (.k 1)))] (.t .p (.S .q (.k 1))) [] [_,_]) hij e') ((pw [.t .p .q] (.t (.S .q (.k 1)) .q) [] [_,_]) hij))
 ·exact h i j hij ((pw [.t .p (.A .q (.k 1)),.n (.e .p .q)] (.t .p .q) [] [_,_]) hj e)
theorem dI(P:Pm n p)(hc:o9 n K cmp s)(hK:Inj n K):∀{f m:Nat}{G:Nat->Aj->Prop},1<=m->m+f<=n->TS K p m->
  (∀m',m<=m'->m'<=m+f->TS K p m'->(m'<m+f->Lt K p m' (m'-1))->G m' s)->(kas_asc p f m).kasWp cmp G s
 |0,m,G,h1,h2,ha,k=>k m (AP _) (AP _) ha λh=>AL h ((pw [] (.n (.t .p (.A .p (.k 0)))) [] [_]))
 |f+1,m,G,h1,h2,ha,k=>by
  refine hc _ _ _ (P.lt ((pw [.l (.A .p (.A .q (.k 1))) .r] (.t .p .r) [] [_,_,_]) h2)) (P.lt ((pw [.l (.A .p (.A .q (.k 1))) .r] (.t (.S .p (.k 1)) .r) [] [_,_,_]) h2)) ?_
  cases q:BQ (K (p.getD m 0)) (K (p.getD (m-1) 0)) with
  |true=>exact k m (AP _) ((pw [] (.l .p (.A .p (.A .q (.k 1)))) [] [_,_])) ha λ_=>q
  |false=>exact dI P hc hK ((pw [] (.l (.k 1) (.A .p (.k 1))) [] [_])) ((pw [.l (.A .p (.A .q (.k 1))) .r] (.l (.A (.A .p (.k 1)) .q) .r) [] [_,_,_]) h2) (ha.succ (tO P hK ((pw [.l (.A .p (.A .q (.k 1))) .r] (.t .p .r) [] [_,_,_]) h2) ((pw [.l (.A .p (.A .q (.k 1))) .r] (.t (.S .p (.k 1)) .r) [] [_,_,_]) h2) ((pw [.l (.k 1) .p] (.n (.e .p (.S .p (.k 1)))) [] [_]) h1) q)) λm' a b c d=>k m' ((pw [.l (.A .p (.k 1)) .q] (.l .p .q) [] [_,_]) a) ((pw [.l .p (.A (.A .q (.k 1)) .r)] (.l .p (.A .q (.A .r (.k 1)))) [] [_,_,_]) b) c λe=>d ((pw [.t .p (.A .q (.A .r (.k 1)))] (.t .p (.A (.A .q (.k 1)) .r)) [] [_,_,_]) e)
theorem dJ(P:Pm n p)(hc:o9 n K cmp s)(hK:Inj n K):∀{f m:Nat}{G:AE Nat×Nat×Nat->Aj->Prop},1<=m->m+f<=n->mW K p m->
  (∀m',m<=m'->m'<=m+f->mW K p m'->G (p,m',0) s)->(kas_desc f p m 0).kasWp cmp G s
 |0,m,G,h1,h2,ha,k=>k m (AP _) (AP _) ha
 |f+1,m,G,h1,h2,ha,k=>by
  refine hc _ _ _ (P.lt ((pw [.l (.A .p (.A .q (.k 1))) .r] (.t .p .r) [] [_,_,_]) h2)) (P.lt ((pw [.l (.A .p (.A .q (.k 1))) .r] (.t (.S .p (.k 1)) .r) [] [_,_,_]) h2)) ?_
  cases q:BQ (K (p.getD m 0)) (K (p.getD (m-1) 0)) with
  |true=>exact dJ P hc hK ((pw [] (.l (.k 1) (.A .p (.k 1))) [] [_])) ((pw [.l (.A .p (.A .q (.k 1))) .r] (.l (.A (.A .p (.k 1)) .q) .r) [] [_,_,_]) h2) (ha.succ q) λm' a b c=>k m' ((pw [.l (.A .p (.k 1)) .q] (.l .p .q) [] [_,_]) a) ((pw [.l .p (.A (.A .q (.k 1)) .r)] (.l .p (.A .q (.A .r (.k 1)))) [] [_,_,_]) b) c
  |false=>
   refine hc _ _ _ (P.lt ((pw [.l (.A .p (.A .q (.k 1))) .r] (.t (.S .p (.k 1)) .r) [] [_,_,_]) h2)) (P.lt ((pw [.l (.A .p (.A .q (.k 1))) .r] (.t .p .r) [] [_,_,_]) h2)) ?_
   have:BQ (K (p.getD (m-1) 0)) (K (p.getD m 0))=true:=tO P hK ((pw [.l (.A .p (.A .q (.k 1))) .r] (.t .p .r) [] [_,_,_]) h2) ((pw [.l (.A .p (.A .q (.k 1))) .r] (.t (.S .p (.k 1)) .r) [] [_,_,_]) h2) ((pw [.l (.k 1) .p] (.n (.e .p (.S .p (.k 1)))) [] [_]) h1) q
   rw[this]
   exact k m (AP _) ((pw [] (.l .p (.A .p (.A .q (.k 1)))) [] [_,_])) ha
theorem Yv{xs ys:AE Nat}(h:xs[i]?=ys[j]?):xs.getD i 0=ys.getD j 0:=by
 rw[bI,bI,h]
theorem jv(P:Pm n p){m:Nat}(hm:m<=n)(h:mW K p m):TS K (kas_rev p 0 m) m:=λi j hij hj=>by
 have e:∀k,k<m->(kas_rev p 0 m).getD k 0=p.getD (m-1-k) 0:=λk hk=>Yv (by
  unfold kas_rev
  rw[getElem?_mirror_all (by rw[P.size];exact hm),Bh ⟨(pw [] (.l (.k 0) .p) [] [_]),hk⟩] at ⊢
  congr 1;exact(pw [] (.e (.S (.S (.A (.k 0) .p) (.k 1)) .q) (.S (.S .p (.k 1)) .q)) [] [_,_]))
 unfold Lt
 rw[e i ((pw [.t .p .q,.t .q .r] (.t .p .r) [] [_,_,_]) hij hj),e j hj]
 exact h (m-1-j) (m-1-i) ((pw [.t .p .q,.t .q .r] (.t (.S (.S .r (.k 1)) .q) (.S (.S .r (.k 1)) .p)) [] [_,_,_]) hij hj) ((pw [.t .p .q] (.t (.S (.S .q (.k 1)) .r) .q) [] [_,_,_]) hj)
theorem jw(P:Pm n p)(hc:o9 n K cmp s)(hK:Inj n K)(h1: 1<=m)(hm:m<=n)(h:mW K p m)
  (k:∀m' p',Pm n p'->1<=m'->m'<=n->TS K p' m'->G (m',p') s):(kas_tail3 m n p).kasWp cmp G s:=by
 unfold kas_tail3
 rw[OF]
 exact dI (P.rev 0 m) hc hK h1 ((pw [.l .p .q] (.l (.A .p (.S .q .p)) .q) [] [_,_]) hm) (jv P hm h) λm' a b c d=>k m' _ (P.rev 0 m) ((pw [.l (.k 1) .p,.l .p .q] (.l (.k 1) .q) [] [_,_]) h1 a) ((pw [.l .p .q,.l .r (.A .p (.S .q .p))] (.l .r .q) [] [_,_,_]) hm b) c
theorem jx(P:Pm n p)(hc:o9 n K cmp s)(hK:Inj n K)(h1: 1<=n)
  (k:∀m' p',Pm n p'->1<=m'->m'<=n->TS K p' m'->G (m',p') s):(kas_count n p).kasWp cmp G s:=by
 unfold kas_count
 rw[OF]
 refine dI P hc hK (AP 1) ((pw [.l (.k 1) .p] (.l (.A (.k 1) (.S .p (.k 1))) .p) [] [_]) h1) (λi j a b=>((pw [.t .p .q,.t .q (.k 1)] .f [] [_,_]) a b).elim) λm a b c d=>?_
 by_cases e1:(m==n)=true
 ·rw[Bh e1];exact k m p P a ((pw [.l (.k 1) .p,.l .q (.A (.k 1) (.S .p (.k 1)))] (.l .q .p) [] [_,_]) h1 b) c
 ·rw[AD e1]
  have hne:m≠n:=λq=>e1 (by simp[q])
  by_cases e2:m>1
  ·rw[Bh e2]
   refine hc _ _ _ (P.lt ((pw [.l .p (.A (.k 1) (.S .q (.k 1))),.t (.k 1) .p] (.t (.k 0) .q) [] [_,_]) b e2)) (P.lt ((pw [.l .p (.A (.k 1) (.S .q (.k 1))),.t (.k 1) .p] (.t (.S .p (.k 1)) .q) [] [_,_]) b e2)) ?_
   have:BQ (K (p.getD 0 0)) (K (p.getD (m-1) 0))=true:=c 0 (m-1) ((pw [.t (.k 1) .p] (.t (.k 0) (.S .p (.k 1))) [] [_]) e2) ((pw [.t (.k 1) .p] (.t (.S .p (.k 1)) .p) [] [_]) e2)
   rw[this]
   exact k m p P a ((pw [.l .p (.A (.k 1) (.S .q (.k 1))),.t (.k 1) .p] (.l .p .q) [] [_,_]) b e2) c
  ·rw[AD e2]
   have hm1:m=1:=(pw [.l (.k 1) .p,.n (.t (.k 1) .p)] (.e .p (.k 1)) [] [_]) a e2
   subst hm1
   unfold kas_descPart
   rw[OF]
   have d2:mW K p 2:=λi j hij hj=>by
    have:i=0:=(pw [.t .p .q,.t .q (.k 2)] (.e .p (.k 0)) [] [_,_]) hij hj
    have:j=1:=(pw [.t .p .q,.t .q (.k 2)] (.e .q (.k 1)) [] [_,_]) hij hj
    subst i j
    exact d ((pw [.l (.k 1) .p,.n (.e (.k 1) .p)] (.t (.k 1) (.A (.k 1) (.S .p (.k 1)))) [] [_]) h1 hne)
   refine dJ P hc hK ((pw [] (.l (.k 1) (.k 2)) [] [])) ((pw [.l (.k 1) .p,.n (.e (.k 1) .p)] (.l (.A (.k 2) (.S .p (.k (1+1)))) .p) [] [_]) h1 hne) d2 λm' a' b' c'=>?_
   rw[AD (by exact(pw [] (.n (.t (.k 0) (.k 0))) [] []))]
   exact jw P hc hK ((pw [.l (.k 2) .p] (.l (.k 1) .p) [] [_]) a') ((pw [.l (.k 1) .p,.n (.e (.k 1) .p),.l .q (.A (.k 2) (.S .p (.k (1+1))))] (.l .q .p) [] [_,_]) h1 hne b') c' k
theorem Sm(P:Pm n p)(hc:o9 n K cmp s)(hK:Inj n K)(hk:k<n)(ha:TS K p k):∀{f l r:Nat}{G:Nat->Aj->Prop},l<=r->r<=k->r-l<=f->(∀i,i<l->Lt K p i k)->(∀i,r<=i->i<k->Lt K p k i)->
  (∀l',l'<=k->(∀i,i<l'->Lt K p i k)->(∀i,l'<=i->i<k->Lt K p k i)->G l' s)->(kas_place p k f l r).kasWp cmp G s
 |0,l,r,G,h1,h2,h3,hl,hr,q=>q l ((pw [.l .p .q,.l .q .r] (.l .p .r) [] [_,_,_]) h1 h2) hl λi a b=>hr i ((pw [.l (.S .p .q) (.k 0),.l .q .r] (.l .p .r) [] [_,_,_]) h3 a) b
 |f+1,l,r,G,h1,h2,h3,hl,hr,q=>by
  unfold kas_place
  by_cases e:l>=r
  ·rw[Bh e];exact q l ((pw [.l .p .q,.l .q .r] (.l .p .r) [] [_,_,_]) h1 h2) hl λi a b=>hr i ((pw [.l .p .q,.l .q .r] (.l .p .r) [] [_,_,_]) e a) b
  ·rw[AD e]
   refine hc _ _ _ (P.lt hk) (P.lt ((pw [.t .p .q,.l .r .p,.n (.l .r .s),.e (.A (.m 2 .t) .u) (.A .s .r),.t .u (.k 2)] (.t .t .q) [] [_,_,_,_,_,_]) hk h2 e (Du _ _) (Dx _ ⋯))) ?_
   cases z:BQ (K (p.getD k 0)) (K (p.getD ((l+r)/2) 0)) with
   |true=>
    refine Sm P hc hK hk ha ((pw [.n (.l .p .q),.e (.A (.m 2 .r) .s) (.A .q .p),.t .s (.k 2)] (.l .q .r) [] [_,_,_,_]) e (Du _ _) (Dx _ ⋯)) ((pw [.l .p .q,.n (.l .p .r),.e (.A (.m 2 .s) .t) (.A .r .p),.t .t (.k 2)] (.l .s .q) [] [_,_,_,_,_]) h2 e (Du _ _) (Dx _ ⋯)) ((pw [.l (.S .p .q) (.A .r (.k 1)),.e (.A (.m 2 .s) .t) (.A .q .p),.t .t (.k 2)] (.l (.S .s .q) .r) [] [_,_,_,_,_]) h3 (Du _ _) (Dx _ ⋯)) hl (λi a b=>?_) q
    by_cases e':i=(l+r)/2
    ·rw[e'];exact z
    ·exact Lt.trans z (ha ((l+r)/2) i ((pw [.l .p .q,.n (.e .q .p),.e (.A (.m 2 .p) .r) (.A .s .t),.t .r (.k 2)] (.t .p .q) [] [_,_,_,_,_]) a e' (Du _ _) (Dx _ ⋯)) b)
   |false=>
    have z':=tO P hK hk (by exact(pw [.t .p .q,.l .r .p,.n (.l .r .s),.e (.A (.m 2 .t) .u) (.A .s .r),.t .u (.k 2)] (.t .t .q) [] [_,_,_,_,_,_]) hk h2 e (Du _ _) (Dx _ ⋯)) (by exact(pw [.l .p .q,.n (.l .p .r),.e (.A (.m 2 .s) .t) (.A .r .p),.t .t (.k 2)] (.n (.e .q .s)) [] [_,_,_,_,_]) h2 e (Du _ _) (Dx _ ⋯)) z
    refine Sm P hc hK hk ha ((pw [.n (.l .p .q),.e (.A (.m 2 .r) .s) (.A .q .p),.t .s (.k 2)] (.l (.A .r (.k 1)) .p) [] [_,_,_,_]) e (Du _ _) (Dx _ ⋯)) ((pw [.l .p .q] (.l .p .q) [] [_,_]) h2) ((pw [.l (.S .p .q) (.A .r (.k 1)),.e (.A (.m 2 .s) .t) (.A .q .p),.t .t (.k 2)] (.l (.S .p (.A .s (.k 1))) .r) [] [_,_,_,_,_]) h3 (Du _ _) (Dx _ ⋯)) (λi a=>?_) hr q
    by_cases e':i=(l+r)/2
    ·rw[e'];exact z'
    ·exact Lt.trans (ha i ((l+r)/2) ((pw [.t .p (.A .q (.k 1)),.n (.e .p .q),.e (.A (.m 2 .q) .r) (.A .s .t),.t .r (.k 2)] (.t .p .q) [] [_,_,_,_,_]) a e' (Du _ _) (Dx _ ⋯)) ((pw [.l .p .q,.n (.l .p .r),.e (.A (.m 2 .s) .t) (.A .r .p),.t .t (.k 2)] (.t .s .q) [] [_,_,_,_,_]) h2 e (Du _ _) (Dx _ ⋯))) z'
theorem W0(P:Pm n p){k l:Nat}(hk:k<n)(hl:l<=k)(ha:TS K p k)(h1:∀i,i<l->Lt K p i k)(h2:∀i,l<=i->i<k->Lt K p k i):TS K (Rw p k (k-l)) (k+1):=by
 have e:∀i,(Rw p k (k-l)).getD i 0=p.getD (if i=l then k else if l<i/\i<=k then i-1 else i) 0:=λi=>Yv (by
  rw[getElem?_bubble (by rw[P.size];exact hk) _ (by exact(pw [] (.l (.S .p .q) .p) [] [_,_])),show k-(k-l)=l by exact(pw [.l .p .q] (.e (.S .q (.S .q .p)) .p) [] [_,_]) hl] at ⊢
  repeat' split
  all_goals first | rfl | (exfalso;lia))
 intro i j hij hj
 unfold Lt
 rw[e i,e j]
 repeat' split
 all_goals first
  |(exfalso;lia)
  |exact h1 _ (by lia)
  |exact h2 _ (by lia) (by lia)
  |exact ha _ _ (by lia) (by lia)
theorem mX(hc:o9 n K cmp s)(hK:Inj n K):∀{f k:Nat}{p:AE Nat}{G:AE Nat->Aj->Prop},Pm n p->k+f=n->TS K p k->(∀p',Pm n p'->TS K p' n->G p' s)->(kas_bin f p k).kasWp cmp G s
 |0,k,p,G,P,h,ha,q=>by
  have:k=n:=(pw [.e (.A .p (.k 0)) .q] (.e .p .q) [] [_,_]) h
  subst this
  exact q p P ha
 |f+1,k,p,G,P,h,ha,q=>by
  rw[show kas_bin (f+1) p k=(kas_place p k k 0 k).bind λl=>kas_bin f (Rw p k (k-l)) (k+1) from rfl,OF]
  exact Sm P hc hK ((pw [.e (.A .p (.A .q (.k 1))) .r] (.t .p .r) [] [_,_,_]) h) ha ((pw [] (.l (.k 0) .p) [] [_])) (AP _) ((pw [] (.l (.S .p (.k 0)) .p) [] [_])) (λi a=>((pw [.t .p (.k 0)] .f [] [_]) a).elim) (λi a b=>((pw [.l .p .q,.t .q .p] .f [] [_,_]) a b).elim) λl a b d=>
   mX hc hK (P.bubble _ _) ((pw [.e (.A .p (.A .q (.k 1))) .r] (.e (.A (.A .p (.k 1)) .q) .r) [] [_,_,_]) h) (W0 P ((pw [.e (.A .p (.A .q (.k 1))) .r] (.t .p .r) [] [_,_,_]) h) a ha b d) q
theorem pd(hc:o9 n K cmp s)(hK:Inj n K)(h1: 1<=n)(q:∀p',Pm n p'->TS K p' n->G p' s):(kas_sort n).kasWp cmp G s:=by
 unfold kas_sort
 rw[OF]
 refine jx ⟨AE.Perm.refl _⟩ hc hK h1 λm p P a b c=>?_
 by_cases e:m<n
 ·show((if m<n then _ else _:KasT (AE Nat)).kasWp cmp G s)
  rw[Bh e]
  rw[show max m 1=m by exact(pw [.l (.k 1) .p] (.e (.max .p (.k 1)) .p) [] [_]) a]
  exact mX hc hK P ((pw [.t .p .q] (.e (.A .p (.S .q .p)) .q) [] [_,_]) e) c q
 ·show((if m<n then _ else _:KasT (AE Nat)).kasWp cmp G s)
  rw[AD e]
  have:m=n:=(pw [.l .p .q,.n (.t .p .q)] (.e .p .q) [] [_,_]) b e
  subst this
  exact q p P c
end
noncomputable def TB:List Ah:=[59,66,211,218,291]
noncomputable def TL:List (Ah×Ah×Str):=[(63,59,"_int2digits.<locals>.inner"),(70,66,"_digits2int.<locals>.inner"),
 (215,211,"_Accumulator.__len__.<locals>.<genexpr>"),(222,218,"_Accumulator.__str__.<locals>.<genexpr>"),(293,291,"law.<locals>.<lambda>")]
theorem TU(t)(h:t∈TL):t.2.1∈TB:=b8 (f:=λt=>t.2.1) h
theorem TV(b)(h:b∈TB):∃t∈TL,t.2.1=b:=List.exists_of_mem_map h
def Jg(o:Obj):Prop:=(o.cls≠.type "code" /\o.cls≠.none)\/∀vs,o.data≠.fields vs
theorem Jg.data(h:∀vs,o.data≠.fields vs):Jg o:=.inr h
theorem Jg.jy(h:Jg o){vs}(hc:o.cls=.type "code")(hd:o.data=.fields vs):Cd:=by
 rcases h with ⟨h,_⟩ | h
 ·exact h hc
 ·exact h vs hd
theorem Jg.Sp(h:Jg (D2 ps)):Cd:=by
 rcases h with ⟨_,h⟩ | h
 ·exact h rfl
 ·exact h ps rfl
def BZ(h:Ay)(cd:Ad)(q:Str):Prop:=∃c,cd=.ref c/\∃o,h.get? c=some o/\o.cls=.type "code" /\∃vs,o.data=.fields vs/\∃t,vs[1]?=some (.str q t)
theorem BZ.elim{cd q}(x:BZ h cd q){P:Prop}(k:∀c o vs t,cd=.ref c->h.get? c=some o->o.cls=.type "code" ->o.data=.fields vs->vs[1]?=some (.str q t)->P):P:=
 AH x λc x=>x.2.elim λo y=>y.2.2.elim λvs z=>z.2.elim λt w=>k c o vs t x.1 y.1 y.2.1 z.1 w
theorem BZ.mk{q c o vs t}(a:h.get? c=some o)(b:o.cls=.type "code")(d:o.data=.fields vs)(e:vs[1]?=some (.str q t)):BZ h (.ref c) q:=⟨c,rfl,o,a,b,vs,d,t,e⟩
theorem BZ.Na{h:Ay}{cd q}(x:BZ h cd q):h.CodeRec cd q:=x.elim λc o vs t e g _ d r=>⟨c,o,vs,t,e,g,d,r⟩
theorem BZ.imp{h h':Ay}{cd q}(x:BZ h cd q)(hk:∀b o,h.get? b=some o->o.cls=.type "code" ->(∃vs,o.data=.fields vs)->h'.get? b=some o):BZ h' cd q:=
 x.elim λ_ _ vs _ e g c d r=>e▸.mk (hk _ _ g c ⟨vs,d⟩) c d r
theorem BZ.keeps{cd q}(x:BZ h cd q)(hk:∀b o,h.get? b=some o->h'.get? b=some o):BZ h' cd q:=x.imp λ_ _ e _ _=>hk _ _ e
theorem BZ.push{cd q}(x:BZ h cd q)(o:Obj):BZ (h.push o) cd q:=x.keeps λ_ _ e=>B6 o e
theorem Jg.dM(h:Jg o)(hc:o.cls=.type "code")(hd:∃vs,o.data=.fields vs):Cd:=hd.elim λ_ d=>h.jy hc d
theorem ue{h:Ay}(ha:h.get? a=some oa)(e:h.get? b=some o){P:Prop}(h2:oa=o->Cd):b≠a:=λq=>h2 (AQ (ha.symm.trans (q▸e)))
def IF(h:Ay)(t:Ah×Ah×Str):Prop:=
 CodeHd h t.1 t.2.1/\∃ps,h.get? t.2.1=some (D2 ps)/\TriplesOk ps.toList/\∀pos c',Mb pos ps.toList=some c'->BZ h c' t.2.2
def TabsOk(h:Ay):Prop:=∀t∈TL,IF h t
theorem CodeHd.at'{ps}(x:CodeHd h c P)(hP:h.get? P=some (D2 ps))(hk:∀o,h.get? c=some o->o.cls=.type "code" ->(∃vs,o.data=.fields vs)->h'.get? c=some o):CodeHd h' c P:=
 (x.tab hP).1.elim λo y=>y.elim λvs z=>by unfold CodeHd;rw[(hk o z.1 z.2.1 ⟨vs,z.2.2.1⟩).trans z.1.symm];exact x
theorem IF.imp{t}(T:IF h t)(hk:∀b o,h.get? b=some o->o.cls=.type "code" ->(∃vs,o.data=.fields vs)->h'.get? b=some o)(hp:∀ps,h.get? t.2.1=some (D2 ps)->h'.get? t.2.1=some (D2 ps)):IF h' t:=
 T.2.elim λps x=>⟨CodeHd.at' T.1 x.1 (hk _),ps,hp _ x.1,x.2.1,λpos c' e=>(x.2.2 pos c' e).imp hk⟩
theorem IF.keeps{t}(T:IF h t)(hk:∀b o,h.get? b=some o->h'.get? b=some o):IF h' t:=T.imp (λ_ _ e _ _=>hk _ _ e) λ_ e=>hk _ _ e
theorem TabsOk.keeps(T:TabsOk h)(hk:∀b o,h.get? b=some o->h'.get? b=some o):TabsOk h':=λt ht=>(T t ht).keeps hk
theorem IF.extBut{h h':Ay}{t}{oa:Obj}(T:IF h t)(ha:h.get? a=some oa)(hna:Jg oa)
  (hx:∀b o,b≠a->h.get? b=some o->h'.get? b=some o):IF h' t:=
 T.imp (λ_ _ e c d=>hx _ _ (ue ha e (P:=True) λq=>Jg.dM (q▸hna) c d) e) λ_ e=>hx _ _ (ue ha e (P:=True) λq=>Jg.Sp (q▸hna)) e
theorem TabsOk.extBut(T:TabsOk h)(ha:h.get? a=some oa)(hna:Jg oa)
  (hx:∀b o,b≠a->h.get? b=some o->h'.get? b=some o):TabsOk h':=λt ht=>(T t ht).extBut ha hna hx
theorem TabsOk.tab(T:TabsOk h)(hm:a∈TB):∃ps,h.get? a=some (D2 ps):=(TV _ hm).elim λt x=>x.2▸(T t x.1).2.imp λ_ y=>y.1
theorem TabsOk.W4(T:TabsOk h)(e:h.get? a=some o)(hc:Jg o):a∉TB:=λhm=>(T.tab hm).elim λ_ y=>Jg.Sp (AQ (e.symm.trans y)▸hc)
theorem TabsOk.D4(T:TabsOk h)(e:h.get? a=some o)(hc:o.cls≠.none):a∉TB:=λhm=>(T.tab hm).elim λ_ y=>hc (Ai Obj.cls (AQ (e.symm.trans y)))
theorem TabsOk.Mq(T:TabsOk h)(e:h.get? a=some o)(hc:∀vs,o.data≠.fields vs):a∉TB:=T.W4 e (.inr hc)
structure Kp(X:Ah->Prop)(s s':Aj):Prop where
 keep:∀b o,¬ X b->b∉TB->s.heap.get? b=some o->s'.heap.get? b=some o
 there:∀b o,¬ X b->s.heap.get? b=some o->∃o',s'.heap.get? b=some o'
 tabs:∀b∈TB,∀vs,s.heap.get? b=some (D2 vs)->∃more,s'.heap.get? b=some (D2 (vs++more))
 tok:TabsOk s.heap->TabsOk s'.heap
 os:s'.os=s.os
 gens:AllBare s.gens->AllBare s'.gens
abbrev no:Ah->Prop:=λ_=>Cd
theorem Kp.of_keeps{X}{s s':Aj}(hk:∀b o,s.heap.get? b=some o->s'.heap.get? b=some o)(ho:s'.os=s.os:=by rfl)(hg:s'.gens=s.gens:=by rfl):Kp X s s':=
 ⟨λb o _ _ e=>hk b o e,λb o _ e=>⟨o,hk b o e⟩,λb _ vs e=>⟨#[],by rw[hk _ _ e];simp⟩,λT=>T.keeps hk,ho,λg=>by rw[hg];exact g⟩
theorem Kp.refl{X}(s:Aj):Kp X s s:=.of_keeps λ_ _ e=>e
theorem Kp.toks{X}:Kp X s {s with toks:=tk}:=.of_keeps λ_ _ e=>e
theorem Kp.weaken(K:Kp X s s')(h:∀b,X b->Y b):Kp Y s s':=
 ⟨λb o hb ht e=>K.keep b o (λx=>hb (h b x)) ht e,λb o hb e=>K.there b o (λx=>hb (h b x)) e,K.tabs,K.tok,K.os,K.gens⟩
theorem Kp.trans'(K:Kp X s s')(K':Kp Y s' HM)(hx:∀b,X b->Z b)(hy:∀b o,Y b->s.heap.get? b=some o->Z b):Kp Z s HM:=
 ⟨λb o hb ht e=>K'.keep b o (λy=>hb (hy b o y e)) ht (K.keep b o (λx=>hb (hx b x)) ht e),
  λb o hb e=>let ⟨o',e'⟩:=K.there b o (λx=>hb (hx b x)) e;K'.there b o' (λy=>hb (hy b o y e)) e',
  λb hb vs e=>let ⟨m,e'⟩:=K.tabs b hb vs e;let ⟨m',uf⟩:=K'.tabs b hb _ e';⟨m++m',by rw[uf,AE.append_assoc]⟩,
  λT=>K'.tok (K.tok T),K'.os.trans K.os,λg=>K'.gens (K.gens g)⟩
theorem Kp.trans(K:Kp X s s')(K':Kp X s' HM):Kp X s HM:=K.trans' K' (λ_ x=>x) λ_ _ x _=>x
theorem Kp.one{a:Ah}{oa:Obj}{s s':Aj}(ha:s.heap.get? a=some oa)(hna:Jg oa)(hx:∀b o,b≠a->s.heap.get? b=some o->s'.heap.get? b=some o)
  (_hat:True)(T:TabsOk s.heap)(ho:s'.os=s.os:=by rfl)(hg:s'.gens=s.gens:=by rfl):Kp (λb=>b=a) s s' where
 keep:=λb o hb _ e=>hx b o hb e
 there:=λb o q e=>⟨o,hx b o q e⟩
 tabs:=λb hb vs e=>⟨#[],by
  rw[hx b _ (λq=>?_) e] at ⊢
  ·simp
  ·rw[q,ha] at e;rcases e with ⟨⟩;exact hna.Sp.elim⟩
 tok:=λT=>T.extBut ha hna hx
 os:=ho
 gens:=λg=>by rw[hg];exact g
structure Sq where
 name:Str
 qual:Str
 params:Ge
 body:EL
 scope:BR
 cells:List (Str×Nat)
inductive AV where
 |val (v:Ad)
 |int (i:Int)
 |AS (b:Al)
 |str (x:Str)
 |tup (xs:List AV)
 |lst (xs:List AV)
 |loc (l:Nat)
 |Gw (a b c:Int)
 |BI (c:Sq)
noncomputable abbrev AV.bool(b:Aa):AV:=.val (.bool b)
noncomputable abbrev AV.none:AV:=.val .none
set_option genInjectivity true in
inductive AO where
 |list (xs:List AV)
 |cell (v:Ab AV)
 |dict (es:List (Str×AV))
 |acc (d:Nat) (xs:List AV)
 |inst (C:Ah) (d:Nat)
 |OK
 |raw (n:Nat)
structure Pl where
 at':Nat->Ah
 M:Ah->Prop
def Yw(h:Ay)(a:Ah)(vs:AE Ad):Prop:=∃o,h.get? a=some o/\o.cls=.type "list" /\o.dict=none/\∃n,o.data=.seq vs n
def IsRange(h:Ay)(a:Ah)(x y z:Int):Prop:=∃tx ty tz,h.get? a=some {cls:=.type "range",data:=.fields #[.int x tx,.int y ty,.int z tz]}
structure zN(fd:Io)(c:Sq):Prop where
 name:fd.name=c.name
 qual:fd.qualname=c.qual
 params:fd.params=c.params
 body:fd.body=c.body
 scope:fd.scope=c.scope
 glob:fd.globals=DN
 bi:fd.builtins=C4
 dflt:fd.defaults=.none
 kwd:fd.kwdefaults=.none
def OL(π:Pl)(n:Nat)(h:Ay)(a:Ah)(c:Sq):Prop:=
 ∃o fd,h.get? a=some o/\o.cls=.type "function" /\o.data=.func fd/\zN fd c/\BZ h fd.code c.qual/\(∀x,fd.closure.lookup x=(c.cells.lookup x).map π.at')/\∀x l,c.cells.lookup x=some l->l<n
mutual
def As(π:Pl)(n:Nat)(h:Ay):AV->Ad->Prop
 |.val v,cv=>cv=v
 |.int i,cv=>∃t,cv=.int i t
 |.AS b,cv=>∃t,cv=.float b t
 |.str x,cv=>∃t,cv=.str x t
 |.tup xs,cv=>∃a vs,cv=.ref a/\Ej h a vs/\¬ π.M a/\Ag π n h xs vs.toList
 |.lst xs,cv=>∃a vs,cv=.ref a/\Yw h a vs/\¬ π.M a/\Ag π n h xs vs.toList
 |.loc l,cv=>l<n/\cv=.ref (π.at' l)
 |.Gw x y z,cv=>∃a,cv=.ref a/\IsRange h a x y z/\¬ π.M a
 |.BI c,cv=>∃a,cv=.ref a/\OL π n h a c/\¬ π.M a
def Ag(π:Pl)(n:Nat)(h:Ay):List AV->List Ad->Prop
 |[],vs=>vs=[]
 |x::xs,vs=>∃v ws,vs=v::ws/\As π n h x v/\Ag π n h xs ws
end
theorem Ag.nil{π n h}:Ag π n h [] []:=rfl
theorem Ag.cons{π n h x xs v vs}(a:As π n h x v)(b:Ag π n h xs vs):Ag π n h (x::xs) (v::vs):=⟨v,vs,rfl,a,b⟩
theorem Ag.inv{π n h x xs v vs}(r:Ag π n h (x::xs) (v::vs)):As π n h x v/\Ag π n h xs vs:=
 AH r λ_ r=>r.elim λ_ r=>(Gk r.1).elim λe f=>by subst e f;exact r.2
def Mr(v:Ad):Prop:=v=.type "list" \/v=.type "tuple" \/v=.type "range" \/v=.type "function"
theorem Mr.ne(h:Mr v):v≠.none:=by rcases h with rfl | rfl | rfl | rfl<;>nofun
structure Jt(π:Pl)(n:Nat)(h:Ay)(π':Pl)(n':Nat)(h':Ay):Prop where
 k:∀b o,h.get? b=some o->Mr o.cls->¬ π.M b->(∀es k,o.data≠.dict es k)->h'.get? b=some o
 c:∀cd q,BZ h cd q->BZ h' cd q
 le:n<=n'
 ag:∀l,l<n->π'.at' l=π.at' l
 f:∀b,π'.M b->π.M b\/h.get? b=none
section
theorem Jt.seq(s:Jt π n h π' n' h'){vs k}(ho:h.get? a=some o)(hl:¬ π.M a)(hc:Mr o.cls)(hd:o.data=.seq vs k):h'.get? a=some o:=s.k a o ho hc hl λ_ _ q=>nomatch hd.symm.trans q
theorem Jt.ne(s:Jt π n h π' n' h')(ho:h.get? a=some o)(hl:¬ π.M a):¬ π'.M a:=λq=>(s.f a q).elim hl λq=>nomatch ho.symm.trans q
theorem Jt.tup(s:Jt π n h π' n' h'){a vs}(hl:¬ π.M a)(t:Ej h a vs):Ej h' a vs/\¬ π'.M a:=
 t.elim λo x=>x.2.2.elim λk d=>⟨⟨o,s.seq x.1 hl (by rw[x.2.1];exact .inr (.inl rfl)) d,x.2.1,k,d⟩,s.ne x.1 hl⟩
theorem Jt.lst(s:Jt π n h π' n' h'){a vs}(hl:¬ π.M a)(t:Yw h a vs):Yw h' a vs/\¬ π'.M a:=
 t.elim λo x=>x.2.2.2.elim λk d=>⟨⟨o,s.seq x.1 hl (by rw[x.2.1];exact .inl rfl) d,x.2.1,x.2.2.1,k,d⟩,s.ne x.1 hl⟩
theorem Jt.Gw(s:Jt π n h π' n' h'){a x y z}(hl:¬ π.M a)(t:IsRange h a x y z):IsRange h' a x y z/\¬ π'.M a:=
 t.elim λtx t=>t.elim λty t=>t.elim λtz e=>⟨⟨tx,ty,tz,s.k a _ e (.inr (.inr (.inl rfl))) hl λ_ _=>nofun⟩,s.ne e hl⟩
theorem Jt.BI(s:Jt π n h π' n' h'){a c}(hl:¬ π.M a)(t:OL π n h a c):OL π' n' h' a c/\¬ π'.M a:=
 t.elim λo t=>t.elim λfd t=>⟨⟨o,fd,s.k a _ t.1 (by rw[t.2.1];exact .inr (.inr (.inr rfl))) hl λ_ _ q=>(nomatch t.2.2.1.symm.trans q),t.2.1,t.2.2.1,t.2.2.2.1,s.c _ _ t.2.2.2.2.1,
  (λx=>(t.2.2.2.2.2.1 x).trans <| by
   cases hx:c.cells.lookup x with
   |none=>rfl
   |some l=>exact Ai Ab.some (s.ag l (t.2.2.2.2.2.2 x l hx)).symm),λx l hx=>BX (t.2.2.2.2.2.2 x l hx) s.le⟩,s.ne t.1 hl⟩
theorem As.both(s:Jt π n h π' n' h'):(∀v cv,As π n h v cv->As π' n' h' v cv)/\∀xs vs,Ag π n h xs vs->Ag π' n' h' xs vs:=by
 have L:=λv=>AV.rec (motive_1:=λv=>∀cv,As π n h v cv->As π' n' h' v cv) (motive_2:=λxs=>∀vs,Ag π n h xs vs->Ag π' n' h' xs vs)
  (λ_ _ r=>r) (λ_ _ r=>r) (λ_ _ r=>r) (λ_ _ r=>r)
  (λxs ih cv r=>AH r λa r=>r.elim λvs r=>have t:=s.tup r.2.2.1 r.2.1;⟨a,vs,r.1,t.1,t.2,ih _ r.2.2.2⟩)
  (λxs ih cv r=>AH r λa r=>r.elim λvs r=>have t:=s.lst r.2.2.1 r.2.1;⟨a,vs,r.1,t.1,t.2,ih _ r.2.2.2⟩)
  (λl cv r=>⟨BX (Fp r) s.le,(And.right r).trans (Ai Bq (s.ag l (Fp r)).symm)⟩)
  (λ_ _ _ cv r=>AH r λa r=>have t:=s.Gw r.2.2 r.2.1;⟨a,r.1,t.1,t.2⟩)
  (λ_ cv r=>AH r λa r=>have t:=s.BI r.2.2 r.2.1;⟨a,r.1,t.1,t.2⟩)
  (λ_ r=>r) (λ_ _ i j vs r=>AH r λv r=>r.elim λws r=>⟨v,ws,r.1,i _ r.2.1,j _ r.2.2⟩) v
 refine⟨L,λxs=>?_⟩
 induction xs with
 |nil=>exact λ_ r=>r
 |cons x xs ih=>exact λvs r=>AH r λv r=>r.elim λws r=>⟨v,ws,r.1,L _ _ r.2.1,ih _ r.2.2⟩
theorem As.step(s:Jt π n h π' n' h'){v cv}(r:As π n h v cv):As π' n' h' v cv:=(As.both s).1 _ _ r
theorem Ag.step(s:Jt π n h π' n' h'){v cv}(r:Ag π n h v cv):Ag π' n' h' v cv:=(As.both s).2 _ _ r
end
def mY(π:Pl)(h:Ay)(X:Ah->Prop):Prop:=∀b,X b->π.M b\/((∃o es k,h.get? b=some o/\o.data=.dict es k)\/∃o,h.get? b=some o/\¬ Mr o.cls)\/h.get? b=none
def jz(h:Ay)(X:Ah->Prop):Prop:=∀b o,X b->h.get? b=some o->Jg o
theorem Kp.Yx{X}(K:Kp X s s')(T:TabsOk s.heap)(hX:jz s.heap X){cd q}(r:BZ s.heap cd q):BZ s'.heap cd q:=
 r.imp λb o e c d=>K.keep b o (λhx=>(hX b o hx e).dM c d) (T.D4 e (by rw[c];nofun)) e
theorem Kp.En{X}(K:Kp X s s')(T:TabsOk s.heap)(hX:mY π s.heap X)(hXf:jz s.heap X)(hn:n<=n')(ha:∀l,l<n->π'.at' l=π.at' l)
  (hf:∀b,π'.M b->π.M b\/s.heap.get? b=none):Jt π n s.heap π' n' s'.heap:=
 ⟨λb o e hc hl hd=>K.keep b o (λx=>(hX b x).elim hl λq=>q.elim (λq=>q.elim (λq=>q.elim λo' q=>q.elim λes q=>q.elim λk q=>hd es k (AQ (e.symm.trans q.1)▸q.2)) λq=>q.elim λo' q=>q.2 (AQ (e.symm.trans q.1)▸hc)) λq=>nomatch e.symm.trans q) (T.D4 e hc.ne) e,
  λ_ _ r=>K.Yx T hXf r,hn,ha,hf⟩
theorem mY.no{π h}:mY π h no:=λ_ x=>x.elim
theorem jz.no{h}:jz h no:=λ_ _ x=>x.elim
theorem Kp.ug(K:Kp no s s')(T:TabsOk s.heap):Jt π n s.heap π n s'.heap:=K.En T .no .no (AP _) (λ_ _=>rfl) (λ_ h=>.inl h)
theorem As.DT(K:Kp no s s')(T:TabsOk s.heap)(r:As π n s.heap v cv):As π n s'.heap v cv:=r.step (K.ug T)
theorem Ag.DT(K:Kp no s s')(T:TabsOk s.heap)(r:Ag π n s.heap v cv):Ag π n s'.heap v cv:=r.step (K.ug T)
section
theorem Ag.Na{P:List AV->List Ad->Prop}(h0:P [] [])(h1:∀x xs v vs,As π n h x v->Ag π n h xs vs->P xs vs->P (x::xs) (v::vs)):∀{xs:List AV}{vs:List Ad},Ag π n h xs vs->P xs vs:=by
 intro xs
 induction xs with
 |nil=>exact λr=>Eq.symm r▸h0
 |cons x xs ih=>exact λr=>AH r λv r=>r.elim λws r=>r.1.symm▸h1 _ _ _ _ r.2.1 r.2.2 (ih r.2.2)
theorem Ag.length{vs:List Ad}(r:Ag π n h xs vs):vs.length=xs.length:=r.Na (P:=λxs vs=>vs.length=xs.length) rfl λ_ _ _ _ _ _ e=>Ai Gb e
theorem Ag.get{vs:List Ad}(r:Ag π n h xs vs):∀{i:Nat}{x:AV},xs[i]?=some x->∃v,vs[i]?=some v/\As π n h x v:=
 r.Na (P:=λxs vs=>∀{i:Nat}{x:AV},xs[i]?=some x->∃v,vs[i]?=some v/\As π n h x v) (λe=>nomatch e) λ_ _ v _ r _ ih {i x} e=>match i,e with
  |0,e=>⟨v,rfl,AQ e▸r⟩
  |_+1,e=>ih e
theorem Ag.get'{vs:List Ad}(r:Ag π n h xs vs):∀{i:Nat}{v:Ad},vs[i]?=some v->∃x,xs[i]?=some x/\As π n h x v:=
 r.Na (P:=λxs vs=>∀{i:Nat}{v:Ad},vs[i]?=some v->∃x,xs[i]?=some x/\As π n h x v) (λe=>nomatch e) λx _ _ _ r _ ih {i v} e=>match i,e with
  |0,e=>⟨x,rfl,AQ e▸r⟩
  |_+1,e=>ih e
theorem Ag.append{vs ws:List Ad}(r:Ag π n h xs vs)(q:Ag π n h ys ws):Ag π n h (xs++ys) (vs++ws):=r.Na (P:=λxs vs=>Ag π n h (xs++ys) (vs++ws)) q λ_ _ _ _ a _ b=>.cons a b
theorem Ag.take{vs:List Ad}(k:Nat)(r:Ag π n h xs vs):Ag π n h (xs.take k) (vs.take k):=
 r.Na (P:=λxs vs=>∀k:Nat,Ag π n h (xs.take k) (vs.take k)) (λk=>by rcases k with ⟨⟩<;>rfl) (λ_ _ _ _ a _ b k=>match k with
  |0=>.nil
  |k+1=>.cons a (b k)) k
theorem Ag.drop{vs:List Ad}(k:Nat)(r:Ag π n h xs vs):Ag π n h (xs.drop k) (vs.drop k):=
 r.Na (P:=λxs vs=>∀k:Nat,Ag π n h (xs.drop k) (vs.drop k)) (λk=>by rcases k with ⟨⟩<;>rfl) (λ_ _ _ _ a s b k=>match k with
  |0=>.cons a s
  |k+1=>b k) k
end
abbrev Lo:=List (Str×AV)
structure St where
 H:List AO
 ob:Aa
def St.need(S:St)(b:Aa):St:=⟨S.H,b&&S.ob⟩
def St.on(S:St)(H:List AO):St:=⟨H,S.ob⟩
structure FD where
 scope:BR
 cells:List (Str×Nat)
 cls:Ab Ah
 code:Ad
 qual:Str
 wr:Nat
noncomputable def nil{α:Type}(l:List α):Aa:=match l with | []=>true | _::_=>false
noncomputable def Fu(as:List Nat):List Nat->Aa:=N5 (motive:=λ_=>List Nat->Aa) (λbs=>N5 (motive:=λ_=>Aa) true (λ_ _ _=>false) bs) (λa _ ih bs=>N5 (motive:=λ_=>Aa) false (λb bs _=>JM false (ih bs) (Aw a b)) bs) as
def sEq(a b:Str):Aa:=Fu a.cps.toList b.cps.toList
def lk{α:Type}(x:Str)(l:List (Str×α)):Ab α:=N5 (motive:=λ_=>Ab α) none (λp _ ih=>JM ih (some p.2) (sEq x p.1)) l
def Ke(x:Str)(l:List Str):Aa:=N5 (motive:=λ_=>Aa) false (λy _ ih=>JM ih true (sEq x y)) l
noncomputable def pe(a b:Str):Str:=⟨(a.cps.toList++b.cps.toList).toArray⟩
noncomputable def JC(sep:List Nat):List Str->List Nat
 |[]=>[]
 |[x]=>x.cps.toList
 |x::r=>x.cps.toList++(sep++JC sep r)
noncomputable def C7(ch:Nat):List Nat->List (List Nat)
 |[]=>[[]]
 |a::r=>match Aw a ch with
  |true=>[]::C7 ch r
  |false=>match C7 ch r with | []=>[[a]] | p::ps=>(a::p)::ps
noncomputable abbrev CI(x:Str):Nat:=x.length
structure Rt(α:Type) where
 v:α
 S:St
def Ok{α:Type}(o:Ab α)(P:α->Prop):Prop:=∀a,o=some a->P a
noncomputable def Af{α:Type}(b:Aa)(o:Ab α):Ab α:=cond b o none
noncomputable def strOf:AV->Ab Str | .str x=>some x | _=>none
noncomputable def intOf:AV->Ab Int | .int x=>some x | _=>none
noncomputable def JD:AV->Ab Al | .AS x=>some x | _=>none
noncomputable def OM:AV->Ab (List AV) | .tup x=>some x | _=>none
noncomputable def KA:AV->Ab Nat | .loc l=>some l | _=>none
noncomputable def Yy:Ad->Ab Aa | .bool b=>some b | _=>none
def boolOf:AV->Ab Aa | .val v=>Yy v | _=>none
noncomputable def Nu:Ad->Aa | .none=>true | _=>false
def isNone:AV->Aa | .val v=>Nu v | _=>false
noncomputable def CW:AO->Ab (List AV) | .list xs=>some xs | _=>none
noncomputable def Z9:AO->Ab (Nat×List AV) | .acc d xs=>some (d,xs) | _=>none
noncomputable def Yz:AO->Ab (Ab AV) | .cell v=>some v | _=>none
noncomputable def TX:AO->Ab (List (Str×AV)) | .dict es=>some es | _=>none
noncomputable def jA:AO->Ab Nat | .raw n=>some n | _=>none
def two{α:Type}(l:List α):Ab (α×α):=match l with
 |[]=>none
 |a::r=>match r with
  |[]=>none
  |b::r=>match r with | []=>some (a,b) | _::_=>none
def one{α:Type}(l:List α):Ab α:=match l with
 |[]=>none
 |a::r=>match r with | []=>some a | _::_=>none
def DP(H:List AO):AV->Ab (List AV)
 |.lst xs=>some xs
 |.loc l=>(H[l]?).bind CW
 |_=>none
noncomputable def uh:AO->Ab (List AV)
 |.list xs=>some xs
 |.acc _ xs=>some xs
 |_=>none
def Qu(H:List AO):AV->Ab (List AV)
 |.tup xs=>some xs
 |.lst xs=>some xs
 |.loc l=>(H[l]?).bind uh
 |_=>none
def mZ(H:List AO):AV->Ab (List AV)
 |.tup xs=>some xs
 |.lst xs=>some xs
 |.loc l=>(H[l]?).bind CW
 |_=>none
noncomputable def Gn{α β:Type}(f:α->Ab β):List α->Ab (List β)
 |[]=>some []
 |a::r=>(f a).bind λb=>(Gn f r).bind λbs=>some (b::bs)
def IG(xs:List AV):Ab (List Str):=Gn strOf xs
def ON(xs:List AV):Ab (List Int):=Gn intOf xs
def i9(a b:AV):Ab Aa:=match a with
 |.int x=>(intOf b).bind λy=>some (decide (x=y))
 |.str x=>(strOf b).bind λy=>some (sEq x y)
 |.val v=>(Yy v).bind λx=>(boolOf b).bind λy=>some (x==y)
 |_=>none
noncomputable def TY:List AV->List AV->Ab Aa
 |[],ys=>some (nil ys)
 |x::xs,ys=>match ys with
  |[]=>some false
  |y::ys=>(i9 x y).bind λp=>(TY xs ys).bind λq=>some (p&&q)
def m3(H:List AO)(a b:AV):Ab Aa:=match a with
 |.AS x=>(JD b).bind λy=>some (Ek x y==some .eq)
 |.tup xs=>(OM b).bind λys=>TY xs ys
 |.lst xs=>(DP H b).bind λys=>TY xs ys
 |.loc l=>(DP H (.loc l)).bind λxs=>(DP H b).bind λys=>TY xs ys
 |a=>i9 a b
noncomputable def ja(H:List AO)(x:AV):List AV->Ab Aa
 |[]=>some false
 |y::r=>(m3 H y x).bind λb=>(ja H x r).bind λc=>some (b||c)
def YA(a:List AV):Ab (Int×Int):=(two a).bind λp=>(intOf p.1).bind λx=>(intOf p.2).bind λy=>some (x,y)
def ltV(a b:AV):Ab Aa:=match a with
 |.int x=>(intOf b).bind λy=>some (decide (x<y))
 |.tup xs=>(YA xs).bind λp=>(OM b).bind λys=>(YA ys).bind λq=>some (decide (p.1<q.1)||(decide (p.1=q.1)&&decide (p.2<q.2)))
 |_=>none
noncomputable def pf(i:Int):Al:=Fk i
noncomputable def DI(i:Int):Aa:=decide (i.natAbs<2^1000)
noncomputable def AM(i:Int):Aa:=decide (i.natAbs<2^20000)
noncomputable def OO(a b:Int):Al:=WR (decide (a<0) !=decide (b<0)) a.natAbs b.natAbs
noncomputable def OP(xs:List AV):Nat->List AV
 |0=>[]
 |n+1=>xs++OP xs n
def YB(a b:AV)(f:Int->Int->Ab (Rt AV)):Ab (Rt AV):=(intOf a).bind λx=>(intOf b).bind λy=>f x y
noncomputable def OI(a b:AV)(S:St):Ab (Rt AV):=(DP S.H a).bind λxs=>(DP S.H b).bind λys=>Af (decide (xs.length+ys.length<100000)) (some ⟨.lst (xs++ys),S⟩)
def dO(a b:AV)(S:St):Ab (Rt AV):=match a with
 |.int x=>(intOf b).bind λy=>some ⟨.int (x+y),S⟩
 |.AS x=>(JD b).bind λy=>some ⟨.AS (Dl x y),S⟩
 |.str x=>(strOf b).bind λy=>some ⟨.str (pe x y),S.need (decide (CI x+CI y<2^20))⟩
 |.lst xs=>OI (.lst xs) b S
 |.loc l=>OI (.loc l) b S
 |_=>none
def ui(a b:AV)(S:St):Ab (Rt AV):=match a with
 |.int x=>(intOf b).bind λy=>some ⟨.int (x-y),S⟩
 |.AS x=>(JD b).bind λy=>some ⟨.AS (Bg x y),S⟩
 |_=>none
def uj(a b:AV)(S:St):Ab (Rt AV):=match a with
 |.int x=>(match b with
  |.int y=>some ⟨.int (x*y),S.need (AM x&&AM y)⟩
  |.AS y=>some ⟨.AS (Cq (pf x) y),S.need (DI x)⟩
  |_=>none)
 |.AS x=>(match b with
  |.int y=>some ⟨.AS (Cq x (pf y)),S.need (DI y)⟩
  |.AS y=>some ⟨.AS (Cq x y),S⟩
  |_=>none)
 |.lst xs=>(one xs).bind λx=>(intOf b).bind λy=>Af (decide (0<=y/\y<1000)) (some ⟨.lst (OP [x] y.toNat),S⟩)
 |_=>none
def uk(a b:AV)(S:St):Ab (Rt AV):=match a with
 |.int x=>(intOf b).bind λy=>some ⟨.AS (OO x y),S.need (DI x&&decide (y≠0))⟩
 |.AS x=>(match b with
  |.int y=>some ⟨.AS (Cr x (pf y)),S.need (DI y&&decide (y≠0))⟩
  |.AS y=>some ⟨.AS (Cr x y),S.need (!Float64.isZero y)⟩
  |_=>none)
 |_=>none
def um(a b:AV)(S:St):Ab (Rt AV):=match a with
 |.int x=>(intOf b).bind λy=>some ⟨.int (x.fmod y),S.need (decide (y≠0))⟩
 |.AS x=>(JD b).bind λy=>some ⟨.AS (Float64.divmod x y).snd,S.need (!Float64.isZero y)⟩
 |_=>none
def uo(op:Operator)(a b:AV)(S:St):Ab (Rt AV):=
 match op with
 |.Add=>dO a b S
 |.Sub=>ui a b S
 |.Mult=>uj a b S
 |.Div=>uk a b S
 |.Mod=>um a b S
 |.FloorDiv=>YB a b λx y=>Af (decide (0<y/\y<2^60)) (some ⟨.int (x.fdiv y),S⟩)
 |.Pow=>YB a b λx y=>Af (decide (0<=y/\y<1000/\x.natAbs<2^60)) (some ⟨.int (x^y.toNat),S⟩)
 |.RShift=>YB a b λx y=>Af (decide (0<=y/\y<100000)) (some ⟨.int (x.fdiv (2^y.toNat)),S⟩)
 |.LShift=>YB a b λx y=>Af (decide (0<=y/\y<100000)) (some ⟨.int (x*2^y.toNat),S.need (AM x)⟩)
 |.BitAnd=>YB a b λx y=>some ⟨.int (Gf x y),S⟩
 |.BitXor=>YB a b λx y=>some ⟨.int (Ou x y),S⟩
 |_=>none
noncomputable def okIn:AV->Aa
 |.int _=>true
 |.str _=>true
 |.tup _=>true
 |.val _=>true
 |_=>false
noncomputable def oLt(o:Ab Ordering):Aa:=o==some .lt
noncomputable def oEq(o:Ab Ordering):Aa:=o==some .eq
noncomputable def yI(o:Ab Ordering):Aa:=o==some .gt
def ltA(a b:AV):Ab Aa:=match a with
 |.AS x=>(match b with
  |.int y=>some (oLt (Gg x y))
  |.AS y=>some (oLt (Ek x y))
  |_=>none)
 |a=>ltV a b
def leA(a b:AV):Ab Aa:=match a with
 |.int x=>(match b with
  |.int y=>some (decide (x<=y))
  |.AS y=>some (yI (Gg y x)||oEq (Gg y x))
  |_=>none)
 |.AS x=>(match b with
  |.int y=>some (oLt (Gg x y)||oEq (Gg x y))
  |.AS y=>some (oLt (Ek x y)||oEq (Ek x y))
  |_=>none)
 |_=>none
def gtA(a b:AV):Ab Aa:=match a with
 |.int x=>(intOf b).bind λy=>some (decide (y<x))
 |.AS x=>(JD b).bind λy=>some (yI (Ek x y))
 |_=>none
def isA(a:AV):Ab Aa:=match a with
 |.val v=>Af (Nu v) (some true)
 |.BI _=>some false
 |.int _=>some false
 |.lst _=>some false
 |_=>none
def yJ(H:List AO)(a b:AV):Ab Aa:=Af (okIn a) ((DP H b).bind λys=>ja H a ys)
noncomputable def dP(o:Ab Aa):Ab Aa:=o.bind λx=>some (!x)
def Gz(op:G9)(a b:AV)(S:St):Ab Aa:=
 match op with
 |.Lt=>ltA a b
 |.LtE=>leA a b
 |.Gt=>gtA a b
 |.Eq=>m3 S.H a b
 |.NotEq=>dP (m3 S.H a b)
 |.Is=>Af (isNone b) (isA a)
 |.In=>yJ S.H a b
 |.NotIn=>dP (yJ S.H a b)
 |_=>none
def Sr(v:AV):Ab (Str×Str):=(OM v).bind λxs=>(two xs).bind λp=>(strOf p.1).bind λx=>(strOf p.2).bind λy=>some (x,y)
def YC(xs:List AV):Ab Nat:=(Gn Sr xs).bind λps=>some (ps.map λp=>CI p.1+CI p.2).sum
def YD(xs:List AV):Ab (List Nat):=(Gn Sr xs).bind λps=>some (ps.flatMap λp=>p.1.cps.toList++p.2.cps.toList)
def YE(H:List AO)(d:Nat):Ab Int:=((H[d]?).bind TX).bind λes=>(lk "_initial_size" es).bind λv=>(intOf v).bind λi=>Af (decide (0<=i)) (some i)
def aa(H:List AO):AO->Ab Int
 |.list xs=>some xs.length
 |.acc d xs=>(YE H d).bind λi=>(YC xs).bind λn=>some (i+n)
 |_=>none
def TZ(H:List AO):AV->Ab Int
 |.str x=>some (CI x)
 |.tup xs=>some xs.length
 |.lst xs=>some xs.length
 |.loc l=>(H[l]?).bind (aa H)
 |_=>none
def T2{α:Type}(l:List α):Aa := !nil l
def zO(H:List AO):AO->Ab Aa
 |.list xs=>Af (decide (xs.length<100000)) (some (T2 xs))
 |.acc d xs=>(aa H (.acc d xs)).bind λn=>Af (decide (0<=n/\n<2^60)) (some (decide (n≠0)))
 |_=>none
def ph(S:St):AV->Ab Aa
 |.val v=>(match v with
  |.bool b=>some b
  |.none=>some false
  |_=>none)
 |.int i=>some (decide (i≠0))
 |.str x=>Af (decide (CI x<2^20)) (some (T2 x.cps.toList))
 |.lst xs=>Af (decide (xs.length<100000)) (some (T2 xs))
 |.loc l=>(S.H[l]?).bind (zO S.H)
 |_=>none
def IH(S:St)(a i:AV):Ab AV:=(intOf i).bind λk=>match a with
 |.str x=>Af (decide (CI x<2^20)) (((Cp k (CI x)).bind (x.cps[·]?)).bind λch=>some (.str ⟨#[ch]⟩))
 |a=>(Qu S.H a).bind λxs=>Af (decide (xs.length<100000)) ((Cp k xs.length).bind (xs[·]?))
noncomputable def OQ{α:Type}(xs:List α)(l u:Ab Int):List α:=(xs.drop (l.elim 0 (DF xs.length))).take (u.elim xs.length (DF xs.length)-l.elim 0 (DF xs.length))
noncomputable def Cu{α:Type}:List α->List α
 |[]=>[]
 |[a]=>[a]
 |a::_::r=>a::Cu r
set_option genCtorIdx true in
inductive Src where
 |lst (xs:List AV)
 |loc (l:Nat)
 |Gw (a b c:Int)
 |str (x:List Nat)
 |zip (l:Nat) (ss:List Src)
mutual
def Src.at(H:List AO)(i:Nat):Src->Ab (Ab AV)
 |.lst xs=>some xs[i]?
 |.loc l=>((H[l]?).bind CW).bind λxs=>some xs[i]?
 |.Gw a b c=>some (cond (decide (0<E0 a b c-i)) (some (.int (a+c*i))) none)
 |.str x=>some ((x[i]?).bind λch=>some (.str ⟨#[ch]⟩))
 |.zip l ss=>((H[l]?).bind jA).bind λk=>Af (Aw k ss.length) ((Src.jb H i ss).bind λo=>some (o.bind λvs=>some (.tup vs)))
def Src.jb(H:List AO)(i:Nat):List Src->Ab (Ab (List AV))
 |[]=>some (some [])
 |s::ss=>(s.at H i).bind λo=>match o with
  |some v=>(Src.jb H i ss).bind λo=>some (o.bind λvs=>some (v::vs))
  |none=>some none
end
structure FI where
 params:Ge
 body:EL
 scope:BR
 dflt:List AV
 kwd:List (Str×AV)
 cells:List (Str×Nat)
 cls:Ab Ah
 code:Ab Ah
 qual:Str
 Ss:Aa
noncomputable def fnIn(x:Str):List Az->Ab (Ge×List Az×BR)
 |[]=>none
 |.FunctionDef n a b _ _ _ sc _ _ _::r=>match sEq x n with | true=>some (a,b,sc) | false=>fnIn x r
 |_::r=>fnIn x r
noncomputable def clsIn(x:Str):List Az->List Az
 |[]=>[]
 |.ClassDef n _ _ b _ _ _ _ _ _ _::r=>match sEq x n with | true=>b | false=>clsIn x r
 |_::r=>clsIn x r
noncomputable def top:List Az:=cY.main.body
def mk(a:Ah)(C:Ab (Ah×Str))(x q:Str)(dflt:List AV)(kwd:List (Str×AV))(cell:Aa)(Ss:Aa:=false):Ab FI:=
 match fnIn x (match C with | some (_,cn)=>clsIn cn top | none=>top) with
 |some (p,b,sc)=>some ⟨p,.stmts b,sc,dflt,kwd,[],(match cell with | true=>C.map (·.1) | false=>none),some (a-1),q,Ss⟩
 |none=>none
noncomputable def vf:Ab (Ah×Str):=some (165,"_ValueFormatter")
noncomputable def ac:Ab (Ah×Str):=some (249,"_Accumulator")
def FTl:List (Ah×Ab FI):=[
 (30,mk 30 none "insort_right" "insort_right" [.int 0,.none] [("key",.none)] false true),
 (39,mk 39 none "bisect_right" "bisect_right" [.int 0,.none] [("key",.none)] false),
 (48,mk 48 none "insort_left" "insort_left" [.int 0,.none] [("key",.none)] false true),
 (57,mk 57 none "bisect_left" "bisect_left" [.int 0,.none] [("key",.none)] false),
 (64,mk 64 none "_int2digits" "_int2digits" [] [] false),
 (71,mk 71 none "_digits2int" "_digits2int" [] [] false),
 (78,mk 78 none "rgb_to_yiq" "rgb_to_yiq" [] [] false),
 (85,mk 85 none "yiq_to_rgb" "yiq_to_rgb" [] [] false),
 (92,mk 92 none "rgb_to_hls" "rgb_to_hls" [] [] false),
 (106,mk 106 vf "__init__" "_ValueFormatter.__init__" [] [] false true),
 (113,mk 113 vf "_str" "_ValueFormatter._str" [] [] false true),
 (127,mk 127 vf "newline" "_ValueFormatter.newline" [] [] false true),
 (134,mk 134 vf "add_transition" "_ValueFormatter.add_transition" [] [] false true),
 (162,mk 162 vf "_append_chunk" "_ValueFormatter._append_chunk" [] [] false true),
 (186,mk 186 ac "__init__" "_Accumulator.__init__" [.int 0] [] true true),
 (193,mk 193 ac "push" "_Accumulator.push" [] [] false true),
 (201,mk 201 ac "pop_from" "_Accumulator.pop_from" [.int 0] [] false true),
 (209,mk 209 ac "pop" "_Accumulator.pop" [] [] true true),
 (216,mk 216 ac "__len__" "_Accumulator.__len__" [] [] false),
 (223,mk 223 ac "__str__" "_Accumulator.__str__" [] [] false),
 (231,mk 231 ac "reset" "_Accumulator.reset" [.none] [] false true),
 (238,mk 238 ac "is_onlyws" "_Accumulator.is_onlyws" [] [] false),
 (246,mk 246 ac "part_count" "_Accumulator.part_count" [] [] true),
 (260,mk 260 none "_law_words_cut" "_law_words_cut" [] [] false true),
 (265,mk 265 none "_law_triangles" "_law_triangles" [] [] false),
 (272,mk 272 none "_law_lamp" "_law_lamp" [] [] false),
 (279,mk 279 none "_law_page" "_law_page" [] [] false),
 (284,mk 284 none "_law_no_brighter" "_law_no_brighter" [] [] false),
 (289,mk 289 none "_law_view" "_law_view" [] [] false),
 (294,mk 294 none "law" "law" [] [] false)]
noncomputable def yK{α:Type}(a:Nat):List (Nat×Ab α)->Ab α
 |[]=>none
 |(b,v)::r=>match Aw a b with | true=>v | false=>yK a r
def FT(a:Ah):Ab FI:=yK a FTl
noncomputable def GT:List (Str×Ad):=[("insort_right",.ref 30),("bisect_right",.ref 39),("insort_left",.ref 48),("bisect_left",.ref 57),("_int2digits",.ref 64),("_digits2int",.ref 71),("rgb_to_yiq",.ref 78),
 ("yiq_to_rgb",.ref 85),("rgb_to_hls",.ref 92),("_ValueFormatter",.ref 165),("_Accumulator",.ref 249),("_law_words_cut",.ref 260),("_law_triangles",.ref 265),("_law_lamp",.ref 272),("_law_page",.ref 279),
 ("_law_no_brighter",.ref 284),("_law_view",.ref 289),("len",.builtin "len"),("max",.builtin "max"),("min",.builtin "min"),("sum",.builtin "sum"),("abs",.builtin "abs"),("round",.builtin "round"),
 ("sorted",.builtin "sorted"),("range",.type "range"),("str",.type "str"),("set",.type "set"),("zip",.type "zip")]
noncomputable def D5:List (Str×Ah):=[("_str",113),("newline",127),("add_transition",134),("_append_chunk",162)]
noncomputable def D6:List (Str×Ah):=[("push",193),("pop_from",201),("reset",231),("is_onlyws",238)]
noncomputable def OR:List (Str×Ah):=[("pop",209),("part_count",246)]
noncomputable def KC:List Str:=["_maxlen","_continuation_ws","_continuation_ws_len","_splitchars","_lines","_current_line"]
noncomputable def KD:List Str:=["_initial_size"]
noncomputable def MO:List Str:=["a_digits","words","tied","reds","greens","blues","seen","behind","table","lights","exact","cut","_lines"]
noncomputable def fz:Nat->Nat->List AO->AV->Ab AV
 |0,_,_,_=>none
 |k+1,n,H,v=>match v with
  |.loc l=>cond (Ob l n) (some (.loc l)) (((H[l]?).bind CW).bind λxs=>(Gn (fz k n H) xs).bind λys=>some (.lst ys))
  |.tup xs=>(Gn (fz k n H) xs).bind λys=>some (.tup ys)
  |.lst xs=>(Gn (fz k n H) xs).bind λys=>some (.lst ys)
  |.BI c=>Af (c.cells.all λp=>Ob p.2 n) (some (.BI c))
  |v=>some v
set_option genCtorIdx true in
inductive AF where
 |next | brk | cont
 |ret (v:AV)
noncomputable def AF.C8:AF->Aa | .next=>true | _=>false
noncomputable def AF.GB:AF->Aa | .next=>true | .cont=>true | _=>false
noncomputable def AF.m4:AF->Aa | .brk=>true | _=>false
def AF.Nb:AF->Ab AV | .ret v=>some v | .next=>some .none | _=>none
structure Rx where
 fl:AF
 lo:Lo
 S:St
structure Ev where
 E:FD->Lo->St->Expr->Ab (Rt AV)
 T:FD->Lo->St->Expr->Ab (Rt Aa)
 X:FD->Lo->St->Az->Ab Rx
noncomputable def T4(n:Nat)(e:Expr):Aa:=Aw e.ctorIdx n
def Gp(e:Expr):Aa := !T4 7 e
def Hh(e:Expr):Aa := !(T4 8 e||(T4 9 e||T4 10 e))
def plainT(e:Expr):Aa:=T4 23 e||(T4 19 e||(T4 16 e||(T4 21 e||T4 20 e)))
def noStar(n:Nat)(es:List Expr):Aa:=Bf es.length n&&es.all λe => !T4 22 e
def baseOk(e:Expr):Aa:=match e with
 |.Call f as ks _ => !(T4 23 f&&(nil as&&nil ks))
 |_=>true
noncomputable def Qv(e:Expr):Ab (Str×Pos):=match e with | .Name x p=>some (x,p) | _=>none
noncomputable def MP(e:Expr):Ab (Expr×List RM×BR):=match e with | .ListComp a b c _=>some (a,b,c) | _=>none
noncomputable def ae(e:Expr):Ab (List Expr):=match e with | .Tuple es _ _=>some es | _=>none
noncomputable def Qw(e:Expr):Ab (List Expr):=match e with | .List es _=>some es | _=>none
def af(e:Expr):Ab (Expr×Expr):=match e with
 |.BinOp a op b _=>(match op with | .Mult=>(Qw a).bind λes=>(one es).bind λx=>some (x,b) | _=>none)
 |_=>none
noncomputable def Fv(e:Expr):Ab (Ab Expr×Ab Expr×Ab Expr):=match e with | .Slice l u s _=>some (l,u,s) | _=>none
noncomputable def zP(v:Const):Ab Int:=match v with | .int i=>some i | _=>none
def pj(e:Expr):Ab Int:=match e with | .Constant v _ _=>zP v | _=>none
def T5(e:Expr):Ab (Str×List Expr):=match e with
 |.Call f as ks _=>Af (nil ks) ((Qv f).bind λx=>some (x.1,as))
 |_=>none
noncomputable def uq(e:Expr):Ab Expr:=match e with | .Starred e _=>some e | _=>none
noncomputable def Bz{α:Type}(o:Ab α)(p:α->Aa):Aa:=match o with | none=>false | some a=>p a
def CX(fr:FD)(x:Str):Ab BD:=lk x fr.scope.names
def W6(x:Str):Aa:=Ke x ["__debug__","__class__","__classdict__"]
noncomputable def isLocal(k:BD):Aa:=match k with | .local=>true | _=>false
noncomputable def EX(k:BD):Aa:=match k with | .cell=>true | _=>false
noncomputable def isFree(k:BD):Aa:=match k with | .free=>true | _=>false
noncomputable def OS(k:BD):Aa:=match k with | .globalImplicit=>true | _=>false
def dQ(fr:FD)(S:St)(x:Str):Ab AV:=(lk x fr.cells).bind λl=>((S.H[l]?).bind Yz).bind λv=>v
def nameA(fr:FD)(lo:Lo)(S:St)(x:Str):Ab AV:=
 Af (!W6 x) ((CX fr x).bind λk=>match k with
  |.local=>lk x lo
  |.cell=>dQ fr S x
  |.free=>dQ fr S x
  |.globalImplicit=>(lk x GT).bind λv=>some (.val v)
  |.globalExplicit=>none)
def bz(fr:FD)(x y:Str):Aa:=sEq x y&&Bz (CX fr x) OS
noncomputable def Sv(x:Str)(v:AV):Lo->Lo
 |[]=>[(x,v)]
 |p::r=>cond (sEq x p.1) ((p.1,v)::r) (p::Sv x v r)
def W7(wr:Nat)(S:St)(l:Nat)(o:AO):Ab St:=Af (Bf wr l) (some (S.on (S.H.set l o)))
def putN(fr:FD)(lo:Lo)(S:St)(x:Str)(v:AV):Ab (Rt Lo):=
 Af (!W6 x) ((CX fr x).bind λk=>match k with
  |.local=>some ⟨Sv x v lo,S⟩
  |.cell=>(lk x fr.cells).bind λl=>((S.H[l]?).bind Yz).bind λ_=>(W7 fr.wr S l (.cell (some v))).bind λS'=>some ⟨lo,S'⟩
  |_=>none)
noncomputable def KE(fr:FD):Lo->St->List Expr->List AV->Ab (Rt Lo)
 |lo,S,[],vs=>Af (nil vs) (some ⟨lo,S⟩)
 |lo,S,t::ts,vs=>match vs with
  |[]=>none
  |v::vs=>(Qv t).bind λx=>(putN fr lo S x.1 v).bind λp=>KE fr p.v p.S ts vs
noncomputable def T6(fr:FD):Lo->St->List Str->List AV->Ab (Rt Lo)
 |lo,S,[],vs=>Af (nil vs) (some ⟨lo,S⟩)
 |lo,S,x::xs,vs=>match vs with
  |[]=>none
  |v::vs=>(putN fr lo S x v).bind λp=>T6 fr p.v p.S xs vs
noncomputable def ur(v:Ad):Aa:=match v with | .builtin _=>false | _=>true
def m5(v:AV):Aa:=match v with | .val v=>ur v | _=>true
def zQ(x:Str)(o:AO):Ab Nat:=match o with
 |.inst C d=>Af (Aw C 165&&Ke x KC) (some d)
 |.acc d _=>Af (Ke x KD) (some d)
 |_=>none
def pk(S:St)(v:AV)(x:Str):Ab (Nat×List (Str×AV)):=(KA v).bind λl=>((S.H[l]?).bind (zQ x)).bind λd=>((S.H[d]?).bind TX).bind λes=>some (d,es)
def m6(S:St)(v:AV)(x:Str):Ab AV:=(pk S v x).bind λp=>(lk x p.2).bind λa=>Af (m5 a) (some a)
def uu(fr:FD)(S:St)(o:AV)(x:Str)(v:AV):Ab St:=(pk S o x).bind λp=>W7 fr.wr S p.1 (.dict (Sv x v p.2))
section
variable(r:Ev)
noncomputable def Jh(fr:FD)(lo:Lo):St->List Expr->Ab (Rt (List AV))
 |S,[]=>some ⟨[],S⟩
 |S,e::es=>(r.E fr lo S e).bind λx=>(Jh fr lo x.S es).bind λy=>some ⟨x.v::y.v,y.S⟩
def Nv(as:List Expr):Ab Expr:=(one as).bind uq
def Hi(fr:FD)(x:Str)(as:List Expr)(ks:List EN):Ab Expr:=
 Af (nil ks) ((one as).bind λa=>(T5 a).bind λp=>Af (bz fr x "len" &&bz fr p.1 "set") (one p.2))
noncomputable def Sw(fr:FD)(lo:Lo):St->List EN->Ab (Rt (List (Str×AV)))
 |S,[]=>some ⟨[],S⟩
 |S,k::ks=>k.arg.bind λx=>(r.E fr lo S k.value).bind λa=>(Sw fr lo a.S ks).bind λb=>some ⟨(x,a.v)::b.v,b.S⟩
noncomputable def Xs(fr:FD):Lo->St->List Az->Ab Rx
 |lo,S,[]=>some ⟨.next,lo,S⟩
 |lo,S,st::rest=>(r.X fr lo S st).bind λx=>cond x.fl.C8 (Xs fr x.lo x.S rest) (some x)
noncomputable def m8:List AV->List Arg->List AV->Ab Lo
 |[],ps,ds=>Af (Bf ps.length ds.length) (some ((ps.map (·.arg)).zip (ds.drop (ds.length-ps.length))))
 |v::vs,ps,ds=>match ps with
  |[]=>none
  |p::ps=>(m8 vs ps ds).bind λb=>some ((p.arg,v)::b)
noncomputable def orO{α:Type}(a b:Ab α):Ab α:=match a with | some v=>some v | none=>b
noncomputable def m9:List Arg->List (Str×AV)->List (Str×AV)->Ab Lo
 |[],_,_=>some []
 |p::ps,ks,ds=>(orO (lk p.arg ks) (lk p.arg ds)).bind λv=>(m9 ps ks ds).bind λb=>some ((p.arg,v)::b)
noncomputable def AK:List (Str×BD)->List AO
 |[]=>[]
 |p::t=>cond (EX p.2) (.cell none::AK t) (AK t)
noncomputable def II:Nat->List (Str×BD)->List (Str×Nat)->List (Str×Nat)
 |_,[],acc=>acc
 |n,p::t,acc=>cond (EX p.2) (II (n+1) t ((p.1,n)::acc)) (II n t acc)
noncomputable def IJ(fr:FD):Lo->St->Lo->Ab (Rt Lo)
 |lo,S,[]=>some ⟨lo,S⟩
 |lo,S,b::bs=>(putN fr lo S b.1 b.2).bind λp=>IJ fr p.v p.S bs
noncomputable def W8:List Str->Aa
 |[]=>true
 |x::r => !Ke x r&&W8 r
def Dz{α:Type}(o:Ab α):Aa:=match o with | none=>true | some _=>false
noncomputable def KG(p:Ge):Aa:=(nil p.posonlyargs&&(Dz p.vararg&&(nil p.kwonlyargs&&Dz p.kwarg)))&&W8 (p.args.map (·.arg))
def pn(ps:List Arg)(ks:List (Str×AV)):Aa:=match ps with
 |[]=>nil ks
 |p::r=>nil r&&(match ks with | []=>true | k::t=>nil t&&sEq k.1 p.arg)
def Cv(fi:FI)(as:List AV)(ks:List (Str×AV)):Ab Lo:=
 cond (nil fi.dflt&&nil fi.kwd) (Af (nil ks&&(KG fi.params&&Aw fi.params.args.length as.length)) (some ((fi.params.args.map (·.arg)).zip as)))
  (Af (pn fi.params.kwonlyargs ks&&(Aw as.length fi.params.args.length||Aw (as.length+fi.dflt.length) fi.params.args.length)) ((m8 as fi.params.args fi.dflt).bind λb=>(m9 fi.params.kwonlyargs ks fi.kwd).bind λk=>some (b++k)))
def KH(ns:List (Str×BD)):Aa:=ns.all λp => !(EX p.2&&sEq p.1 "__class__")
noncomputable def isFun(k:ScopeKind):Aa:=match k with | .function=>true | _=>false
def Sx(sc:BR):Aa:=isFun sc.kind&&(!sc.isGenerator&&(!sc.isCoroutine&&KH sc.names))
def KJ(fr:FD)(b:EL)(lo:Lo)(S1:St):Ab (Rt AV):=
 match b with
 |.stmts b=>(Xs r fr lo S1 b).bind λx=>x.fl.Nb.bind λv=>some ⟨v,x.S⟩
 |.expr e=>r.E fr lo S1 e
noncomputable def T7(o:Ab Ah):Ad:=match o with | some a=>.ref a | none=>.none
def Au(fi:FI)(n wr:Nat):FD:=⟨fi.scope,II n fi.scope.names fi.cells,fi.cls,T7 fi.code,fi.qual++".<locals>.",cond fi.Ss wr n⟩
def letGo(S:St)(x:Rt AV):Ab (Rt AV):=(fz 6 S.H.length x.S.H x.v).bind λv=>some ⟨v,⟨S.H,x.S.ob⟩⟩
def CM(fi:FI)(as:List AV)(ks:List (Str×AV))(wr:Nat)(S:St):Ab (Rt AV):=
 (Cv fi as ks).bind λbinds=>(IJ (Au fi S.H.length wr) [] (S.on (S.H++AK fi.scope.names)) binds).bind λp=>
  (KJ r (Au fi S.H.length wr) fi.body p.v p.S).bind λx=>cond fi.Ss (some x) (letGo S x)
def uw(c:Sq):FI:=⟨c.params,c.body,c.scope,[],[],c.cells,none,none,c.qual,true⟩
def dT(xs:List AV):Ab (List Al):=Gn JD xs
noncomputable def pq:List Int->Int->Int
 |[],m=>m
 |x::xs,m=>pq xs (if m<x then x else m)
noncomputable def px:List Int->Int->Int
 |[],m=>m
 |x::xs,m=>px xs (if x<m then x else m)
noncomputable def pz:List Al->Al->Al
 |[],m=>m
 |x::xs,m=>pz xs (if Ek x m==some .gt then x else m)
noncomputable def pA:List Al->Al->Al
 |[],m=>m
 |x::xs,m=>pA xs (if Ek x m==some .lt then x else m)
def YF(mx:Aa)(xs:List AV):Ab AV:=match xs with
 |[]=>none
 |x::t=>match x with
  |.int i=>(ON t).bind λis=>some (.int (cond mx (pq is i) (px is i)))
  |.AS i=>(dT t).bind λis=>some (.AS (cond mx (pz is i) (pA is i)))
  |_=>none
noncomputable def Nc:List AV->List Int->Ab (List Int)
 |[],acc=>some acc
 |v::r,acc=>(intOf v).bind λx=>Nc r (cond (acc.any λy=>decide (y=x)) acc (x::acc))
noncomputable def W9(a b:Int):List AV:=(Cn (b-a).toNat).map λ(i:Nat)=>.int (a+i)
noncomputable def ai(x:AV)(k:Int×Int):List (AV×(Int×Int))->Ab (List (AV×(Int×Int)))
 |[]=>some [(x,k)]
 |p::t=>cond (BQ k p.2) (some ((x,k)::p::t)) (cond (BQ p.2 k) ((ai x k t).bind λt'=>some (p::t')) none)
noncomputable def OT:List (AV×(Int×Int))->List (AV×(Int×Int))->Ab (List (AV×(Int×Int)))
 |[],acc=>some acc
 |p::ps,acc=>(ai p.1 p.2 acc).bind λXa=>OT ps Xa
def Xb(c:Sq)(as:List AV)(ks:List (Str×AV))(wr:Nat)(S:St):Ab (Rt AV):=Af (Sx c.scope) (CM r (uw c) as ks wr S)
noncomputable def JE(k:Int×Int):AV:=.tup [.int k.1,.int k.2]
def setAt(S:St)(l:Nat)(o:AO):St:=S.on (S.H.set l o)
noncomputable def dU(c:Sq)(n:Nat):St->List AV->Ab (Rt (List (AV×(Int×Int))))
 |S,[]=>some ⟨[],S⟩
 |S,x::xs=>(Xb r c [x] [] (n+2) S).bind λk=>(OM k.v).bind λt=>(YA t).bind λp=>((k.S.H[n+1]?).bind CW).bind λks=>
   (dU c n (setAt k.S (n+1) (.list (ks++[JE p]))) xs).bind λy=>some ⟨(x,p)::y.v,y.S⟩
def ux(as:List AV)(S:St):Ab (Rt AV):=(one as).bind λa=>(TZ S.H a).bind λn=>some ⟨.int n,S.need (decide (0<=n/\n<2^60))⟩
def uy(as:List AV)(S:St):Ab (Rt AV):=(one as).bind λa=>(DP S.H a).bind λxs=>(ON xs).bind λis=>some ⟨.int (is.foldl (· + ·) 0),S⟩
def dX(mx:Aa)(as:List AV)(S:St):Ab (Rt AV):=match as with
 |[]=>none
 |a::t=>match t with
  |[]=>(DP S.H a).bind λxs=>(YF mx xs).bind λv=>some ⟨v,S⟩
  |b::t=>match t with
   |[]=>(YF mx [a,b]).bind λv=>some ⟨v,S⟩
   |e::t=>Af (nil t) ((YF mx [a,b,e]).bind λv=>some ⟨v,S⟩)
def uz(as:List AV)(S:St):Ab (Rt AV):=(one as).bind λa=>(intOf a).bind λi=>some ⟨.int (if i<0 then -i else i),S⟩
def dY(as:List AV)(S:St):Ab (Rt AV):=(one as).bind λa=>(JD a).bind λx=>some ⟨.int (EV Me x),S.need (It x)⟩
def uA(f:Str)(as:List AV)(S:St):Ab (Rt AV):=
 cond (sEq f "len") (ux as S) (cond (sEq f "sum") (uy as S) (cond (sEq f "max") (dX true as S) (cond (sEq f "min") (dX false as S) (cond (sEq f "abs") (uz as S) (cond (sEq f "round") (dY as S) none)))))
def dZ(as:List AV)(S:St):Ab (Rt AV):=match as with
 |[]=>none
 |a::t=>(intOf a).bind λx=>match t with
  |[]=>some ⟨.Gw 0 x 1,S⟩
  |b::t=>(intOf b).bind λy=>match t with
   |[]=>some ⟨.Gw x y 1,S⟩
   |e::t=>(intOf e).bind λz=>Af (nil t&&decide (z≠0/\z.natAbs<1073741824)) (some ⟨.Gw x y z,S⟩)
def uB(as:List AV)(S:St):Ab (Rt AV):=(one as).bind λa=>(KA a).bind λl=>((S.H[l]?).bind Z9).bind λp=>(YD p.2).bind λx=>Af (Bf x.length 100000&&Bf p.2.length 1000) (some ⟨.str ⟨x.toArray⟩,S⟩)
def uC(f:Str)(as:List AV)(S:St):Ab (Rt AV):=cond (sEq f "range") (dZ as S) (cond (sEq f "str") (uB as S) none)
noncomputable def nf(v:AV):Ab Sq:=match v with | .BI c=>some c | _=>none
noncomputable def nh(v:AV):Ab (Int×Int×Int):=match v with | .Gw a b c=>some (a,b,c) | _=>none
def d7(wr:Nat)(as:List AV)(S:St):Ab (Rt AV):=(FT 106).bind λfi=>(CM r fi (.loc (S.H.length+1)::as) [] wr (S.on (S.H++[.dict [],.inst 165 S.H.length]))).bind λx=>Af (isNone x.v) (some ⟨.loc (S.H.length+1),x.S⟩)
def uD(as:List AV)(S:St):Ab (Rt AV):=(one as).bind λv=>some ⟨.loc (S.H.length+1),S.on (S.H++[.dict [("_initial_size",v)],.acc S.H.length []])⟩
noncomputable def ni:AV->Aa | .int _=>true | .str _=>true | _=>false
def d8(xs:List AV):Aa:=xs.all ni
def IK(a:Ah)(as:List AV)(S:St):Ab (Rt AV):=Af (d8 as) ((FT a).bind λfi=>(CM r fi as [] 0 ⟨[],S.ob⟩).bind λx=>(OM x.v).bind λxs=>Af (d8 xs) (some ⟨.tup xs,⟨S.H,x.S.ob⟩⟩))
def jB(wr:Nat)(a:Ah)(as:List AV)(ks:List (Str×AV))(S:St):Ab (Rt AV):=
 cond (Aw a 165) (Af (nil ks) (d7 r wr as S)) (cond (Aw a 249) (Af (nil ks) (uD as S)) (cond (Aw a 279&&nil ks) (IK r a as S) ((FT a).bind λfi=>CM r fi as ks wr S)))
def nj(f:Str)(as:List AV)(ks:List (Str×AV))(S:St):Ab (Rt AV):=
 (one ks).bind λk=>(nf k.2).bind λc=>(one as).bind λa=>(nh a).bind λt=>Af ((sEq f "sorted" &&sEq k.1 "key")&&decide (t.2.2=1/\0<=t.1/\t.1+2<=t.2.1/\t.2.1<60))
  ((dU r c S.H.length (S.on (S.H++[.list [],.list []])) (W9 t.1 t.2.1)).bind λy=>(OT y.v []).bind λps=>some ⟨.lst (ps.map (·.1)),⟨S.H,y.S.ob⟩⟩)
def jC(wr:Nat)(f:Ad)(as:List AV)(ks:List (Str×AV))(S:St):Ab (Rt AV):=match f with
 |.ref a=>jB r wr a as ks S
 |.builtin n=>cond (nil ks) (uA n as S) (nj r n as ks S)
 |.type n=>Af (nil ks) (uC n as S)
 |_=>none
def A9(wr:Nat)(f:AV)(as:List AV)(ks:List (Str×AV))(S:St):Ab (Rt AV):=match f with
 |.val v=>jC r wr v as ks S
 |.BI c=>Xb r c as ks wr S
 |_=>none
set_option genCtorIdx true in
inductive MB where
 |append | extend | insert | Hj | join | split | Kf | isspace | Kg
noncomputable def MB.id:MB->A3
 |.append=>"list.append"
 |.extend=>"list.extend"
 |.insert=>"list.insert"
 |.Hj=>"list.index"
 |.join=>"str.join"
 |.split=>"str.split"
 |.Kf=>"str.index"
 |.isspace=>"str.isspace"
 |.Kg=>"int.bit_length"
set_option genInjectivity true in
set_option genCtorIdx true in
inductive Sy where
 |fn (a:Ah)
 |pop
 |parts
 |bi (b:MB)
def Cw(H:List AO)(d:Nat)(m:Str):Aa:=Bz ((H[d]?).bind TX) λes=>Dz (lk m es)
noncomputable def Sz:List (Str×Sy):=[("push",.fn 193),("pop_from",.fn 201),("reset",.fn 231),("is_onlyws",.fn 238),("pop",.pop),("part_count",.parts),("append",.bi .append)]
def Qx(S:St)(m:Str)(o:AO):Ab Sy:=match o with
 |.inst C d=>Af (Aw C 165&&Cw S.H d m) ((lk m D5).bind λa=>some (.fn a))
 |.acc d _=>Af (Cw S.H d m) (lk m Sz)
 |.list _=>lk m [("append",.bi .append),("extend",.bi .extend),("insert",.bi .insert)]
 |_=>none
def OU(S:St)(o:AV)(m:Str):Ab Sy:=match o with
 |.loc l=>(S.H[l]?).bind (Qx S m)
 |.lst _=>lk m [("index",.bi .Hj)]
 |.str _=>lk m [("join",.bi .join),("split",.bi .split),("index",.bi .Kf),("isspace",.bi .isspace)]
 |.int _=>lk m [("bit_length",.bi .Kg)]
 |_=>none
noncomputable def Qg(x:Str):List Str->Nat->Ab Nat
 |[],_=>none
 |y::r,i=>cond (sEq y x) (some i) (Qg x r (i+1))
noncomputable def SA:List Str->Nat
 |[]=>0
 |x::r=>CI x+SA r
def HH(wr:Nat)(S:St)(l:Nat)(o:AO):Ab (Rt AV):=(W7 wr S l o).bind λS'=>some ⟨.none,S'⟩
def uE(wr:Nat)(l:Nat)(as:List AV)(S:St):Ab (Rt AV):=((S.H[l]?).bind Z9).bind λp=>Af (nil as&&(Cw S.H p.1 "part_count" &&Bf p.2.length 1000))
 (match p.2.getLast? with
  |some v=>(W7 wr S l (.acc p.1 p.2.dropLast)).bind λS'=>some ⟨v,S'⟩
  |none=>some ⟨.tup [.str "",.str ""],S⟩)
def pB(l:Nat)(as:List AV)(S:St):Ab (Rt AV):=((S.H[l]?).bind Z9).bind λp=>Af (nil as&&Bf p.2.length 1000) (some ⟨.int p.2.length,S⟩)
def jD(wr:Nat)(S:St)(l:Nat)(v:AV)(o:AO):Ab (Rt AV):=match o with
 |.list xs=>Af (Bf xs.length 1000) (HH wr S l (.list (xs++[v])))
 |.acc d xs=>Af (Bf xs.length 1000) (HH wr S l (.acc d (xs++[v])))
 |_=>none
def nk(wr:Nat)(b:MB)(o:AV)(as:List AV)(S:St):Ab (Rt AV):=match b with
 |.append=>(KA o).bind λl=>(one as).bind λv=>(S.H[l]?).bind (jD wr S l v)
 |.extend=>(KA o).bind λl=>(one as).bind λv=>((S.H[l]?).bind CW).bind λxs=>(DP S.H v).bind λys=>Af (Bf (xs.length+ys.length) 1000) (HH wr S l (.list (xs++ys)))
 |.insert=>(KA o).bind λl=>(two as).bind λp=>(intOf p.1).bind λi=>((S.H[l]?).bind CW).bind λxs=>Af (decide (0<=i/\i<=xs.length/\xs.length<1000)) (HH wr S l (.list (xs.take i.toNat++p.2::xs.drop i.toNat)))
 |.Hj=>(one as).bind λv=>(strOf v).bind λx=>match o with
  |.lst xs=>(IG xs).bind λys=>(Qg x ys 0).bind λi=>Af (decide (xs.length<1000)) (some ⟨.int i,S⟩)
  |_=>none
 |.join=>(strOf o).bind λx=>(one as).bind λv=>(DP S.H v).bind λxs=>(IG xs).bind λys=>Af (decide (CI x<=64/\SA ys+ys.length*64<=1000000)) (some ⟨.str ⟨(JC x.cps.toList ys).toArray⟩,S⟩)
 |.split=>(strOf o).bind λx=>(one as).bind λv=>(strOf v).bind λy=>(one y.cps.toList).bind λch=>Af (decide (CI x<10000)) (some ⟨.lst ((C7 ch x.cps.toList).map λp=>.str ⟨p.toArray⟩),S⟩)
 |.Kf=>(strOf o).bind λx=>(one as).bind λv=>(strOf v).bind λy=>(Ox x y 0 x.length 1).head?.bind λi=>some ⟨.int i,S⟩
 |.isspace=>(strOf o).bind λx=>Af (nil as) (some ⟨.bool (Txt.isspace x),S⟩)
 |.Kg=>(intOf o).bind λi=>Af (nil as) (some ⟨.int (Dy i),S⟩)
def IL(wr:Nat)(k:Sy)(o:AV)(as:List AV)(S:St):Ab (Rt AV):=match k with
 |.fn a=>(FT a).bind λfi=>CM r fi (o::as) [] wr S
 |.pop=>(KA o).bind λl=>uE wr l as S
 |.parts=>(KA o).bind λl=>pB l as S
 |.bi b=>nk wr b o as S
def jE(fr:FD)(lo:Lo)(S:St)(o:Ab Expr):Ab (Rt (Ab Int)):=match o with
 |none=>some ⟨none,S⟩
 |some e=>(r.E fr lo S e).bind λx=>(intOf x.v).bind λi=>some ⟨some i,x.S⟩
def nt(S:St)(v:AV):Ab Src:=match v with
 |.lst xs=>some (.lst xs)
 |.tup xs=>some (.lst xs)
 |.loc l=>((S.H[l]?).bind CW).bind λ_=>some (.loc l)
 |.Gw a b c=>Af (decide (c≠0)&&RY a b c) (some (.Gw a b c))
 |.str x=>some (.str x.cps.toList)
 |_=>none
def OW(S:St)(v:AV):Ab Src:=match v with
 |.lst xs=>some (.lst xs)
 |.tup xs=>some (.lst xs)
 |.loc l=>((S.H[l]?).bind CW).bind λ_=>some (.loc l)
 |_=>none
def SD(src:Src)(t:Expr):Aa:=match src with
 |.zip .. =>T4 25 t
 |_=>true
def FU(fr:FD)(lo:Lo)(S:St)(e:Expr):Ab (Rt Src):=
 match (T5 e).bind λp=>Af (bz fr p.1 "zip") (some p.2) with
 |some as=>Af (noStar 8 as) ((Jh r fr lo S as).bind λx=>Af (Bf 2 x.v.length&&Bf x.v.length 3) ((Gn (OW x.S) x.v).bind λss=>some ⟨.zip x.S.H.length ss,x.S.on (x.S.H++[.raw x.v.length])⟩))
 |none=>Af (Gp e) ((r.E fr lo S e).bind λx=>(nt x.S x.v).bind λsrc=>some ⟨src,x.S⟩)
def Ju(fr:FD)(lo:Lo)(S:St)(t:Expr)(v:AV):Ab (Rt Lo):=match t with
 |.Name x _=>putN fr lo S x v
 |.Tuple ts _ _=>(mZ S.H v).bind λvs=>KE fr lo S ts vs
 |_=>none
noncomputable def forL(fr:FD)(src:Src)(t:Expr)(body:List Az):Nat->Nat->Lo->St->Ab Rx
 |0,_,_,_=>none
 |k+1,i,lo,S=>(src.at S.H i).bind λo=>match o with
  |none=>some ⟨.next,lo,S⟩
  |some v=>(Ju fr lo S t v).bind λp=>(Xs r fr p.v p.S body).bind λx=>cond x.fl.GB (forL fr src t body k (i+1) x.lo x.S) (some x)
noncomputable def Hk(fr:FD)(t:Expr)(body:List Az):Nat->Lo->St->Ab Rx
 |0,_,_=>none
 |k+1,lo,S=>(r.T fr lo S t).bind λb=>cond b.v ((Xs r fr lo b.S body).bind λx=>cond x.fl.GB (Hk fr t body k x.lo x.S) (some x)) (some ⟨.next,lo,b.S⟩)
noncomputable def SE(fr:FD)(lo:Lo):St->List Expr->Ab (Rt Aa)
 |S,[]=>some ⟨true,S⟩
 |S,t::ts=>(r.T fr lo S t).bind λx=>cond x.v (SE fr lo x.S ts) (some x)
def Kh(S:St)(acc:Nat)(v:AV):Ab St:=((S.H[acc]?).bind CW).bind λxs=>Af (decide (xs.length<1000)) (some (setAt S acc (.list (xs++[v]))))
noncomputable def Ex(fr:FD)(acc:Nat)(src:Src)(t:Expr)(ifs:List Expr)(elt:Expr):Nat->Nat->Lo->St->Ab St
 |0,_,_,_=>none
 |k+1,i,lo,S=>(src.at S.H i).bind λo=>match o with
  |none=>some S
  |some v=>(Ju fr lo S t v).bind λp=>(SE r fr p.v p.S ifs).bind λb=>cond b.v ((r.E fr p.v b.S elt).bind λx=>(Kh x.S acc x.v).bind λS'=>Ex fr acc src t ifs elt k (i+1) p.v S') (Ex fr acc src t ifs elt k (i+1) p.v b.S)
noncomputable def Cy(fr:FD):List (Str×BD)->List (Str×Nat)->Ab (List (Str×Nat))
 |[],acc=>some acc
 |p::t,acc=>cond (isFree p.2) (Af (!W6 p.1) ((lk p.1 fr.cells).bind λl=>Cy fr t ((p.1,l)::acc))) (Cy fr t acc)
noncomputable def T8(fr:FD):List (Str×BD)->List (Str×BD)
 |[]=>[]
 |p::t=>cond (isFree p.2) ((p.1,cond (Bz (CX fr p.1) EX) .cell .free)::T8 fr t) (p::T8 fr t)
def Qy(all:List (Str×BD))(ns:List (Str×BD)):Aa:=ns.all λp => !isLocal p.2||Bz (lk p.1 all) isLocal
def DJ(fr:FD)(n:Nat)(sc:BR)(fc:List (Str×Nat)):FD:=⟨{sc with names:=T8 fr sc.names},II (n+1) sc.names fc,none,.none,fr.qual,n+1⟩
def SG(fr:FD)(S:St)(src:Src)(t:Expr)(ifs:List Expr)(elt:Expr)(sc:BR):Ab (Rt AV):=
 Af (SD src t&&(Sx sc&&Qy sc.names sc.names)) ((Cy fr sc.names []).bind λfc=>
  (Ex r (DJ fr S.H.length sc fc) S.H.length src t ifs elt 80 0 [] (S.on ((S.H++[.list []])++AK sc.names))).bind λS'=>letGo S ⟨.loc S.H.length,S'⟩)
def MQ(fr:FD)(lo:Lo)(S:St)(elt:Expr)(gs:List RM)(sc:BR):Ab (Rt AV):=
 (one gs).bind λg=>Af (decide (g.is_async=0)) ((FU r fr lo S g.iter).bind λs=>SG r fr s.S s.v g.target g.ifs elt sc)
def codeOk(code:Ad)(q:Str):Aa:=match code with | .ref a=>TL.any λt=>Aw t.1 a&&sEq t.2.2 q | _=>false
def T9(fr:FD)(nm:Str)(ps:Ge)(sc:BR):Aa:=
 KG ps&&((nil ps.defaults&&nil ps.kw_defaults)&&(ps.args.all (λa=>Dz a.annotation)&&codeOk fr.code (fr.qual++nm)))
def d9(v:Const):Ab AV:=match v with
 |.int i=>some (.int i)
 |.str x=>some (.str x)
 |.float x=>some (.AS x)
 |.bool b=>some (.bool b)
 |.none=>some .none
 |_=>none
def zR(x:Rt AV):Ab (Rt AV):=(intOf x.v).bind λi=>some ⟨.int (-i),x.S⟩
def zS(x:Rt AV):Ab (Rt AV):=(ph x.S x.v).bind λb=>some ⟨.bool (!b),x.S⟩
def Ua(fr:FD)(lo:Lo)(x:Rt AV)(op:G9)(b:Expr):Ab (Rt (AV×Aa)):=Af (Gp b) ((r.E fr lo x.S b).bind λy=>(Gz op x.v y.v y.S).bind λt=>some ⟨(y.v,t),y.S⟩)
def pC(fr:FD)(lo:Lo)(S:St)(a:Expr)(ops:List G9)(bs:List Expr):Ab (Rt AV):=
 match one ops with
 |some op=>(one bs).bind λb=>(r.E fr lo S a).bind λx=>(Ua r fr lo x op b).bind λy=>some ⟨.bool y.v.2,y.S⟩
 |none=>(two ops).bind λo=>(two bs).bind λb=>Af (Gp b.2) ((r.E fr lo S a).bind λx=>(Ua r fr lo x o.1 b.1).bind λy=>cond y.v.2 ((Ua r fr lo ⟨y.v.1,y.S⟩ o.2 b.2).bind λz=>some ⟨.bool z.v.2,z.S⟩) (some ⟨.bool false,y.S⟩))
def ny(fr:FD)(lo:Lo)(S:St)(op:BoolOp)(es:List Expr):Ab (Rt AV):=(two es).bind λp=>(r.E fr lo S p.1).bind λx=>(boolOf x.v).bind λb=>match op with
 |.And=>cond b (r.E fr lo x.S p.2) (some ⟨.bool false,x.S⟩)
 |.Or=>cond b (some ⟨.bool true,x.S⟩) (r.E fr lo x.S p.2)
def Xc(S:St)(v:AV)(l u:Ab Int):Ab (Rt AV):=match v with
 |.str x=>some ⟨.str (Oz x l u),S.need (decide (CI x<2^20))⟩
 |.tup xs=>l.bind λi=>Af (Dz u&&decide (1<=i/\i<=xs.length/\xs.length<100000)) (some ⟨.tup (xs.drop i.toNat),S⟩)
 |v=>(Qu S.H v).bind λxs=>Af (decide (xs.length<100000)) (some ⟨.lst (OQ xs l u),S⟩)
def aj(fr:FD)(lo:Lo)(S:St)(o i:Expr):Ab (Rt AV):=(r.E fr lo S o).bind λx=>match Fv i with
 |none=>(r.E fr lo x.S i).bind λk=>(IH k.S x.v k.v).bind λv=>some ⟨v,k.S⟩
 |some t=>match t.2.2 with
  |none=>(jE r fr lo x.S t.1).bind λl=>(jE r fr lo l.S t.2.1).bind λu=>Xc u.S x.v l.v u.v
  |some st=>t.1.bind λl=>(pj l).bind λi=>(pj st).bind λk=>(DP x.S.H x.v).bind λxs=>Af (decide (k=2/\0<=i)&&Dz t.2.1) (some ⟨.lst (Cu (xs.drop i.toNat)),x.S.need (decide (xs.length<100000))⟩)
def KL(x:Rt AV):Ab (Rt AV):=(DP x.S.H x.v).bind λxs=>(Nc xs []).bind λis=>Af (decide (xs.length<1000)) (some ⟨.int is.length,x.S⟩)
def Ub(fr:FD)(lo:Lo)(S:St)(x:Str)(as:List Expr)(ks:List EN):Ab (Rt AV):=match Hi fr x as ks with
 |some e=>(r.E fr lo S e).bind KL
 |none=>Af (noStar 200 as) ((nameA fr lo S x).bind λf=>(Jh r fr lo S as).bind λvs=>(Sw r fr lo vs.S ks).bind λkv=>A9 r fr.wr f vs.v kv.v kv.S)
noncomputable def nA(k:Sy):Ab Ah:=match k with | .fn a=>some a | _=>none
def SH(fr:FD)(lo:Lo)(S:St)(o:Expr)(m:Str)(as:List Expr):Ab (Rt AV):=(r.E fr lo S o).bind λx=>(OU x.S x.v m).bind λk=>match Nv as with
 |some e=>(r.E fr lo x.S e).bind λy=>(OM y.v).bind λvs=>(nA k).bind λa=>IL r fr.wr (.fn a) x.v vs y.S
 |none=>Af (noStar 20 as) ((Jh r fr lo x.S as).bind λvs=>IL r fr.wr k x.v vs.v vs.S)
def uF(fr:FD)(lo:Lo)(S:St)(f:Expr)(as:List Expr)(ks:List EN)(p:Pos):Ab (Rt AV):=match f with
 |.Name x _=>Ub r fr lo S x as ks
 |.Attribute o m ap=>Af (nil ks&&(baseOk o&&(ap.endLine==p.line))) (SH r fr lo S o m as)
 |_=>none
def nB(fr:FD)(lo:Lo)(S:St)(e:Expr):Ab (Rt AV):=
 match e with
 |.Name x _=>(nameA fr lo S x).bind λv=>some ⟨v,S⟩
 |.Constant v _ _=>(d9 v).bind λv=>some ⟨v,S⟩
 |.BinOp a op b _=>(r.E fr lo S a).bind λx=>(r.E fr lo x.S b).bind λy=>uo op x.v y.v y.S
 |.UnaryOp op a _=>(match op with
  |.USub=>(r.E fr lo S a).bind zR
  |.Not=>(r.E fr lo S a).bind zS
  |_=>none)
 |.Compare a ops bs _=>pC r fr lo S a ops bs
 |.BoolOp op es _=>ny r fr lo S op es
 |.IfExp t a b _=>(r.T fr lo S t).bind λx=>cond x.v (r.E fr lo x.S a) (r.E fr lo x.S b)
 |.List es _=>Af (noStar 200 es) ((Jh r fr lo S es).bind λx=>some ⟨.lst x.v,x.S⟩)
 |.Tuple es _ _=>Af (noStar 200 es) ((Jh r fr lo S es).bind λx=>some ⟨.tup x.v,x.S⟩)
 |.Lambda ps body sc _=>Af (T9 fr "<lambda>" ps sc) ((Cy fr sc.names []).bind λfc=>some ⟨.BI ⟨"<lambda>",fr.qual++"<lambda>",ps,.expr body,sc,fc⟩,S⟩)
 |.ListComp elt gs sc _=>MQ r fr lo S elt gs sc
 |.Attribute o x _=>Af (baseOk o) ((r.E fr lo S o).bind λy=>(m6 y.S y.v x).bind λa=>some ⟨a,y.S⟩)
 |.Subscript o i _=>aj r fr lo S o i
 |.Call f as ks p=>uF r fr lo S f as ks p
 |_=>none
def Qz(fr:FD)(lo:Lo)(S:St)(e:Expr):Ab (Rt Aa):=Af (plainT e) ((r.E fr lo S e).bind λx=>(ph x.S x.v).bind λb=>some ⟨b,x.S⟩)
def stepT(fr:FD)(lo:Lo)(S:St)(e:Expr):Ab (Rt Aa):=
 match e with
 |.UnaryOp op a _=>(match op with
  |.Not=>(r.T fr lo S a).bind λx=>some ⟨!x.v,x.S⟩
  |_=>none)
 |.BoolOp op es p=>(match es with
  |[]=>(match op with
   |.And=>some ⟨true,S⟩
   |.Or=>some ⟨false,S⟩)
  |a::as=>(r.T fr lo S a).bind λx=>(match op with
   |.And=>cond x.v (r.T fr lo x.S (.BoolOp .And as p)) (some x)
   |.Or=>cond x.v (some x) (r.T fr lo x.S (.BoolOp .Or as p))))
 |.Compare a ops bs _=>(one ops).bind λop=>(one bs).bind λb=>(r.E fr lo S a).bind λx=>(Ua r fr lo x op b).bind λy=>some ⟨y.v.2,y.S⟩
 |e=>Qz r fr lo S e
def Xd(x:Rt (List AV)):Ab (Rt AV):=some ⟨.loc x.S.H.length,x.S.on (x.S.H++[.list x.v])⟩
def OX(fr:FD)(lo:Lo)(S:St)(x:Str)(e:Expr):Ab (Rt AV):=
 cond (Ke x MO) (match Qw e with
  |some es=>Af (noStar 200 es) ((Jh r fr lo S es).bind Xd)
  |none=>match af e with
   |some p=>Af (noStar 200 [p.1]) ((r.E fr lo S p.1).bind λv=>(r.E fr lo v.S p.2).bind λk=>(intOf k.v).bind λy=>Af (decide (0<=y/\y<1000)) (Xd ⟨OP [v.v] y.toNat,k.S⟩))
   |none=>r.E fr lo S e) (r.E fr lo S e)
def Bw(e:Expr):Str:=match Qv e with | some p=>p.1 | none=>""
noncomputable def ee(fr:FD)(lo:Lo):St->List Expr->List Expr->Ab (Rt (List AV))
 |S,[],es=>Af (nil es) (some ⟨[],S⟩)
 |S,t::ts,es=>match es with
  |[]=>none
  |e::es=>(OX r fr lo S (Bw t) e).bind λx=>(ee fr lo x.S ts es).bind λy=>some ⟨x.v::y.v,y.S⟩
def uG(fr:FD)(line:Nat)(x:Str)(p:Pos):Ab Str:=if (CX fr x==some .local&&p.line==line)=true then some x else none
def OY(fr:FD)(line:Nat)(ts:List Expr):List Str:=ts.filterMap λt=>(Qv t).bind λx=>uG fr line x.1 x.2
def uH(names:List Str)(ts vs:List Expr):Ab (Ab (List Str)):=cond (names.length !=ts.length||names.eraseDups.length !=names.length) (some none) (cond (vs.all (foldedForSure 8)) (some none) (Af (!vs.all (constantsAlone 8)) (some (some names))))
def YG(fr:FD)(ts vs:List Expr):Ab (Ab (List Str)):=cond (!(ts.length==2||ts.length==3)||vs.length !=ts.length) (some none) (uH (OY fr ((ts.head?.map (·.pos.line)).getD 0) ts) ts vs)
noncomputable def nx(lo:Lo)(S:St):Ab Rx:=some ⟨.next,lo,S⟩
def Hl(o:Ab (Rt Lo)):Ab Rx:=o.bind λp=>nx p.v p.S
def OZ(fr:FD)(lo:Lo)(S:St)(x:Str)(e:Expr):Ab Rx:=match MP e with
 |some c=>(MQ r fr lo S c.1 c.2.1 c.2.2).bind λv=>Hl (putN fr lo v.S x v.v)
 |none=>Af (Hh e) ((OX r fr lo S x e).bind λv=>Hl (putN fr lo v.S x v.v))
noncomputable def jF(v:AV):Ab (List AV):=match v with
 |.tup xs=>some xs
 |.lst xs=>some xs
 |_=>none
def ef(fr:FD)(lo:Lo)(S:St)(ts:List Expr)(e:Expr):Ab Rx:=match ae e with
 |some es=>Af (noStar 200 es) ((YG fr ts es).bind λo=>(ee r fr lo S ts es).bind λvs=>match o with
  |none=>Hl (KE fr lo vs.S ts vs.v)
  |some xs=>Hl (T6 fr lo vs.S xs.reverse vs.v.reverse))
 |none=>(r.E fr lo S e).bind λv=>(jF v.v).bind λvs=>Hl (KE fr lo v.S ts vs)
def uI(fr:FD)(lo:Lo)(S:St)(o:Expr)(x:Str)(e:Expr):Ab Rx:=(OX r fr lo S x e).bind λv=>(r.E fr lo v.S o).bind λov=>(uu fr ov.S ov.v x v.v).bind λS'=>nx lo S'
def uJ(fr:FD)(lo:Lo)(S:St)(o i e:Expr):Ab Rx:=(r.E fr lo S e).bind λv=>(r.E fr lo v.S o).bind λov=>(KA ov.v).bind λl=>match Fv i with
 |some t=>Af (Dz t.2.1&&Dz t.2.2) ((jE r fr lo ov.S t.1).bind λk=>((k.S.H[l]?).bind Z9).bind λp=>(DP k.S.H v.v).bind λvs=>Af (decide (p.2.length<1000/\vs.length<1000))
   ((W7 fr.wr k.S l (.acc p.1 (p.2.take (k.v.elim 0 (DF p.2.length))++vs))).bind λS'=>nx lo S'))
 |none=>(r.E fr lo ov.S i).bind λk=>(intOf k.v).bind λj=>((k.S.H[l]?).bind CW).bind λxs=>Af (decide (0<=j/\j<xs.length/\xs.length<100000)) ((W7 fr.wr k.S l (.list (xs.set j.toNat v.v))).bind λS'=>nx lo S')
def uK(fr:FD)(lo:Lo)(S:St)(t e:Expr):Ab Rx:=match t with
 |.Name x _=>OZ r fr lo S x e
 |.Tuple ts _ _=>ef r fr lo S ts e
 |.Attribute o x _=>uI r fr lo S o x e
 |.Subscript o i _=>uJ r fr lo S o i e
 |_=>none
def IM(x:Rx):Rx:=cond x.fl.m4 ⟨.next,x.lo,x.S⟩ x
def uL(fr:FD)(lo:Lo)(S:St)(t:Expr)(op:Operator)(e:Expr):Ab Rx:=match op with
 |.Add=>(Qv t).bind λx=>Af (Bz (CX fr x.1) isLocal) ((lk x.1 lo).bind λv=>(intOf v).bind λa=>(r.E fr lo S e).bind λy=>(intOf y.v).bind λb=>Hl (putN fr lo y.S x.1 (.int (a+b))))
 |_=>none
def nC(fr:FD)(lo:Lo)(S:St)(st:Az):Ab Rx:=
 match st with
 |.Pass _=>nx lo S
 |.Break _=>some ⟨.brk,lo,S⟩
 |.Continue _=>some ⟨.cont,lo,S⟩
 |.Return o _=>(match o with
  |none=>some ⟨.ret .none,lo,S⟩
  |some e=>(r.E fr lo S e).bind λx=>some ⟨.ret x.v,lo,x.S⟩)
 |.Expr e _=>Af (Hh e) ((r.E fr lo S e).bind λx=>nx lo x.S)
 |.If t a b _=>(r.T fr lo S t).bind λx=>cond x.v (Xs r fr lo x.S a) (Xs r fr lo x.S b)
 |.While t b oe _=>Af (nil oe) ((Hk r fr t b 60 lo S).bind λx=>some (IM x))
 |.For t it b oe _=>(FU r fr lo S it).bind λs=>Af (SD s.v t) ((forL r fr s.v t b 80 0 lo s.S).bind λx=>cond x.fl.C8 (Xs r fr x.lo x.S oe) (some (IM x)))
 |.Assign ts e _=>(one ts).bind λt=>uK r fr lo S t e
 |.AugAssign t op e _=>uL r fr lo S t op e
 |.FunctionDef n ps b ds rt tps sc ts bd _=>Af (T9 fr n ps sc&&(sEq n bd&&(nil ds&&(Dz rt&&(nil tps&&Dz ts))))) ((Cy fr sc.names []).bind λfc=>Hl (putN fr lo S n (.BI ⟨n,fr.qual++n,ps,.stmts b,sc,fc⟩)))
 |_=>none
end
noncomputable def ev:Nat->Ev
 |0=>⟨λ_ _ _ _=>none,λ_ _ _ _=>none,λ_ _ _ _=>none⟩
 |n+1=>⟨nB (ev n),stepT (ev n),nC (ev n)⟩
def ak(n:Nat)(xs:List Int):Ab (Rt AV):=A9 (ev n) 0 (.val (.ref 294)) [.lst (xs.map .int)] [] ⟨[],true⟩
section
open PySem.Spec PySem.Calls
section
variable{P:α->Prop}{P':β->Prop}
theorem Ok.none:Ok (none:Ab α) P:=λ_ e=>nomatch e
theorem Ok.some(h:P a):Ok (some a) P:=λ_ e=>AQ e▸h
theorem Ok.bind(h:Ok o P)(k:∀a,P a->Ok (f a) P'):Ok (o.bind f) P':=by
 induction o using BL with
 |none=>exact .none
 |some a=>exact k a (h a rfl)
theorem Ok.self{o:Ab α}:Ok o λa=>o=Ab.some a:=λ_ e=>e
theorem Ok.guard(h:b=true->Ok o P):Ok (Af b o) P:=by
 rcases b with ⟨⟩
 ·exact .none
 ·exact h rfl
theorem Ok.cond(h:b=true->Ok x P)(k:b=false->Ok y P):Ok (cond b x y) P:=by
 rcases b with ⟨⟩
 ·exact k rfl
 ·exact h rfl
theorem Ok.mono(h:Ok o P)(k:∀a,P a->Q a):Ok o Q:=λa e=>k a (h a e)
end
theorem Ax(h:(a&&b)=true):a=true:=by rcases a with ⟨⟩;exact h;rfl
theorem Am(h:(a&&b)=true):b=true:=by rcases a with ⟨⟩;rcases h with ⟨⟩;exact h
theorem HN(h:(!a)=true):a=false:=by rcases a with ⟨⟩;rfl;rcases h with ⟨⟩
theorem Cz:Ok (strOf v) λx=>v=.str x:=by rcases v with ⟨⟩<;>first | exact .none | exact .some rfl
theorem Bd:Ok (intOf v) λx=>v=.int x:=by rcases v with ⟨⟩<;>first | exact .none | exact .some rfl
theorem IQ:Ok (JD v) λx=>v=.AS x:=by rcases v with ⟨⟩<;>first | exact .none | exact .some rfl
theorem Fw:Ok (OM v) λx=>v=.tup x:=by rcases v with ⟨⟩<;>first | exact .none | exact .some rfl
theorem Ey:Ok (KA v) λx=>v=.loc x:=by rcases v with ⟨⟩<;>first | exact .none | exact .some rfl
theorem O0:Ok (Yy v) λx=>v=.bool x:=by rcases v with ⟨⟩<;>first | exact .none | exact .some rfl
theorem QA:Ok (boolOf v) λx=>v=.bool x:=by rcases v with ⟨⟩<;>first | exact .none | exact O0.mono λ_ e=>Ai AV.val e
theorem ff{P:Prop}(h:false=true):P:=AL h BJ
theorem QB{v:AV}(h:isNone v=true):v=.none:=by
 induction v using AV.casesOn with
 |val v=>rcases v with ⟨⟩<;>first | rfl | exact ff h
 |_=>exact ff h
theorem eh:Ok (CW v) λx=>v=.list x:=by rcases v with ⟨⟩<;>first | exact .none | exact .some rfl
theorem jG:Ok (Z9 v) λx=>v=.acc x.1 x.2:=by rcases v with ⟨⟩<;>first | exact .none | exact .some rfl
theorem ei:Ok (Yz v) λx=>v=.cell x:=by rcases v with ⟨⟩<;>first | exact .none | exact .some rfl
theorem eo:Ok (TX v) λx=>v=.dict x:=by rcases v with ⟨⟩<;>first | exact .none | exact .some rfl
theorem jH:Ok (jA v) λx=>v=.raw x:=by rcases v with ⟨⟩<;>first | exact .none | exact .some rfl
theorem Uc{H:List AO}{l:Nat}{g:α->AO}(h:∀{v},Ok (f v) λx=>v=g x):Ok ((H[l]?).bind f) λx=>H[l]?=some (g x):=Ok.self.bind λ_ e=>h.mono λ_ q=>q▸e
theorem listAt{H:List AO}{l:Nat}:Ok ((H[l]?).bind CW) λx=>H[l]?=some (.list x):=Uc eh
theorem SI{H:List AO}{l:Nat}:Ok ((H[l]?).bind Z9) λx=>H[l]?=some (.acc x.1 x.2):=Uc jG
theorem cellAt{H:List AO}{l:Nat}:Ok ((H[l]?).bind Yz) λx=>H[l]?=some (.cell x):=Uc ei
theorem dictAt{H:List AO}{l:Nat}:Ok ((H[l]?).bind TX) λx=>H[l]?=some (.dict x):=Uc eo
theorem uM{H:List AO}{l:Nat}:Ok ((H[l]?).bind jA) λx=>H[l]?=some (.raw x):=Uc jH
theorem BE{l:List α}:Ok (one l) λx=>l=[x]:=by
 induction l using B9 with
 |nil=>exact .none
 |cons a l=>induction l using B9 with
  |nil=>exact .some rfl
  |cons=>exact .none
theorem Ms{l:List α}:Ok (two l) λx=>l=[x.1,x.2]:=by
 induction l using B9 with
 |nil=>exact .none
 |cons a l=>induction l using B9 with
  |nil=>exact .none
  |cons b l=>induction l using B9 with
   |nil=>exact .some rfl
   |cons=>exact .none
theorem Bj{l:List α}(h:nil l=true):l=[]:=by rcases l with ⟨⟩;rfl;rcases h with ⟨⟩
theorem CN{l:Ab α}(h:Dz l=true):l=.none:=by rcases l with ⟨⟩;rfl;rcases h with ⟨⟩
structure A5(d:Nat)(A:AG):Prop where
 handled:A.handled=none
 depth:A.depth+d<900
 units:A.units+20*d+40<9900
 frames:∃l,A.frames=some l
theorem A5.le(R:A5 d A)(h:d'<=d):A5 d' A:=⟨R.handled,CE (GW h _) R.depth,CE (Ro (GW (Jz _ h) _) _) R.units,R.frames⟩
theorem A5.deeper(R:A5 (d+1) A):A5 d (A.deeper env):=by
 obtain ⟨l,hl⟩:=R.frames
 exact⟨R.handled,by have:=R.depth;simp only[AG.deeper];exact(pw [.t (.A .p (.A .q (.k 1))) (.k 900)] (.t (.A (.A .p (.k 1)) .q) (.k 900)) [] [_,_]) this,by have:=R.units;simp only[AG.deeper];exact(pw [.t (.A (.A .p (.m 20 (.A .q (.k 1)))) (.k 40)) (.k 9900)] (.t (.A (.A (.A .p (.k 3)) (.m 20 .q)) (.k 40)) (.k 9900)) [] [_,_]) this,⟨env::l,by simp[AG.deeper,hl]⟩⟩
theorem A5.in1(R:A5 (d+1) A):A5 d A.in1:=⟨R.handled,by have:=R.depth;exact(pw [.t (.A .p (.A .q (.k 1))) (.k 900)] (.t (.A .p .q) (.k 900)) [] [_,_]) this,by have:=R.units;exact(pw [.t (.A (.A .p (.m 20 (.A .q (.k 1)))) (.k 40)) (.k 9900)] (.t (.A (.A (.A .p (.k 1)) (.m 20 .q)) (.k 40)) (.k 9900)) [] [_,_]) this,R.frames⟩
theorem A5.rl(R:A5 d A):A.depth<recursionLimit:=by have:=R.depth;exact(pw [.t (.A .p .q) (.k 900)] (.t .p (.k 1000)) [] [_,_]) this
theorem A5.cl(R:A5 d A):A.units<cLine:=by have:=R.units;exact(pw [.t (.A (.A .p (.m 20 .q)) (.k 40)) (.k 9900)] (.t .p (.k 9900)) [] [_,_]) this
def Glob(h:Ay)(x:Str)(v:Ad):Prop:=
 ∃mg mb,h.Ns DN mg/\h.Ns C4 mb/\(mg x=some v\/(mg x=none/\mb x=some v))
structure Cx where
 prog:Dq
 w:DG
 B:Aj
 K:AI
 yL:K.In B.heap
 knt:∀b o,K.lookup b=some o->b∉TB
 tabs:TabsOk B.heap
 nolimit:B.heap.NoLimit
 names:∃mg mb bm ob,B.heap.Ns DN mg/\B.heap.Ns C4 mb/\mg "__builtins__" =some (.ref bm)/\bm≠C4/\B.heap.get? bm=some ob/\ob.cls=.type "module" /\ob.dict=some C4/\ob.data=.plain
 gt:∀x v,lk x GT=some v->Glob B.heap x v
abbrev Cx.m(c:Cx):=AW c.prog c.w
structure Bu(π:Pl)(n:Nat)(fr:FD)(env:Env):Prop where
 scope:env.scope=fr.scope
 kind:fr.scope.kind=.function
 glob:env.globals=DN
 bi:env.builtins=C4
 cells:∀x,(x==("__class__" :Str))=false->env.cells.lookup x=(fr.cells.lookup x).map π.at'
 cls:fr.cls.isSome=true->env.cells.lookup ("__class__" :Str)=some 173
 lt:∀x l,fr.cells.lookup x=some l->l<n
 code:fr.code≠.none->env.code=fr.code
 qual:env.qual=fr.qual
 wr:fr.wr<=n
def OV(π:Pl)(n:Nat)(h:Ay)(v:Ab AV)(cv:Ab Ad):Prop:=match v with
 |none=>cv=none
 |some v=>∃w,cv=some w/\As π n h v w
theorem OV.step(S:Jt π n h π' n' h'){v cv}(r:OV π n h v cv):OV π' n' h' v cv:=by
 induction v using BL with
 |none=>exact r
 |some v=>exact r.imp λ_ r=>⟨r.1,r.2.step S⟩
def IS(π:Pl)(n:Nat)(h:Ay):AO->Ah->Prop
 |.list xs,a=>∃vs k,h.get? a=some {cls:=.type "list",data:=.seq vs k}/\Ag π n h xs vs.toList
 |.cell v,a=>∃cv,h.get? a=some {cls:=.type "cell",data:=.cell cv}/\OV π n h v cv
 |.dict es,a=>∃m o,h.Ns1 a m/\Within m (KC++KD)/\h.get? a=some o/\∀x,OV π n h (es.lookup x) (m x)
 |.acc d xs,a=>∃vs k sl,h.get? a=some ⟨.ref 249,some (π.at' d),.seq vs k,sl⟩/\d<n/\Ag π n h xs vs.toList
 |.inst C d,a=>∃sl,h.get? a=some ⟨.ref C,some (π.at' d),.plain,sl⟩/\d<n
 |.OK,_=>True
 |.raw n,a=>∃vs k,h.get? a=some {cls:=.type "tuple",data:=.seq vs k}/\vs.size=n
structure Av(c:Cx)(π:Pl)(H:List AO)(s:Aj):Prop where
 base:Kp no c.B s
 objs:∀l o,H[l]?=some o->IS π H.length s.heap o (π.at' l)
 inj:∀l l',l<H.length->l'<H.length->π.at' l=π.at' l'->l=l'
 mem:∀l,l<H.length->π.M (π.at' l)
 new:∀b,π.M b->c.B.heap.get? b=none
 ex:∀b,π.M b->∃o,s.heap.get? b=some o/\Jg o
structure Br(c:Cx)(π:Pl)(n:Nat)(h:Ay)(L:Ah)(lo:Lo):Prop where
 ns:∃m,h.Ns L m/\∀x v,lo.lookup x=some v->∃cv,m x=some cv/\As π n h v cv
 nl:¬ π.M L
 new:c.B.heap.get? L=none
theorem Av.tabs{c π H s}(G:Av c π H s):TabsOk s.heap:=G.base.tok c.tabs
theorem Av.lt{c π H s}(G:Av c π H s)(e:H[l]?=some o):l<H.length:=by obtain ⟨h,_⟩:=NZ.mp e;exact h
theorem IS.step(S:Jt π n h π' n' h')(up:∀o',h.get? a=some o'->h'.get? a=some o')(r:IS π n h o a):IS π' n' h' o a:=by
 induction o using AO.casesOn with
 |list xs=>exact AH r λvs r=>r.elim λk r=>⟨vs,k,up _ r.1,r.2.step S⟩
 |cell v=>exact AH r λcv r=>⟨cv,up _ r.1,r.2.step S⟩
 |dict es=>exact AH r λm r=>r.elim λo r=>⟨m,o,AH r.1 λo' q=>q.elim λes q=>q.elim λep q=>⟨o',es,ep,up _ q.1,q.2⟩,r.2.1,up _ r.2.2.1,λx=>(r.2.2.2 x).step S⟩
 |acc d xs=>exact AH r λvs r=>r.elim λk r=>r.elim λsl r=>⟨vs,k,sl,by rw[S.ag d r.2.1];exact up _ r.1,BX r.2.1 S.le,r.2.2.step S⟩
 |inst C d=>exact AH r λsl r=>⟨sl,by rw[S.ag d r.2];exact up _ r.1,BX r.2 S.le⟩
 |OK=>exact r
 |raw k=>exact AH r λvs r=>r.elim λj r=>⟨vs,j,up _ r.1,r.2⟩
theorem Av.ok{c π H s}(G:Av c π H s)(hb:π.M b)(e:s.heap.get? b=some o):Jg o:=(G.ex b hb).elim λ_ q=>AQ (q.1.symm.trans e)▸q.2
theorem Av.keep{c π H}(G:Av c π H s)(K:Kp X s s')(hb:π.M b)(hx:¬ X b)(e:s.heap.get? b=some o):s'.heap.get? b=some o:=
 K.keep _ _ hx (G.tabs.W4 e (G.ok hb e)) e
section
variable{π:Pl}
theorem Kp.base(G:Av c π H s)(K:Kp X s s')(hB:∀b,X b->c.B.heap.get? b=none):Kp no c.B s':=
 G.base.trans' K (λ_ x=>x.elim) λb o x e=>nomatch (hB b x).symm.trans e
theorem Av.upd(G:Av c π H s)(K:Kp X s s')(hok:mY π s.heap X)(hnf:jz s.heap X)(hB:∀b,X b->c.B.heap.get? b=none)
  (hex:∀b,X b->π.M b->∃o,s'.heap.get? b=some o/\Jg o)(hlen:H'.length=H.length)
  (ho:∀l o,H'[l]?=some o->(H[l]?=some o/\¬ X (π.at' l))\/IS π H.length s'.heap o (π.at' l)):Av c π H' s' where
 base:=K.base G hB
 objs:=λl o e=>hlen▸(ho l o e).elim (λq=>(G.objs l o q.1).step (K.En G.tabs hok hnf (AP _) (λ_ _=>rfl) λ_ h=>.inl h) λ_ e=>G.keep K (G.mem l (G.lt q.1)) q.2 e) id
 inj:=by rw[hlen];exact G.inj
 mem:=by rw[hlen];exact G.mem
 new:=G.new
 ex:=λb hb=>(DH (X b)).elim (λhx=>hex b hx hb) λhx=>(G.ex b hb).imp λ_ q=>⟨G.keep K hb hx q.1,q.2⟩
theorem Av.DT(G:Av c π H s)(K:Kp no s s'):Av c π H s':=
 G.upd K .no .no (λ_ x=>x.elim) (λ_ x=>x.elim) rfl λl o e=>.inl ⟨e,id⟩
theorem Av.set(G:Av c π H s)(hl:l<H.length)(K:Kp (λb=>b=π.at' l) s s')(ho:IS π H.length s'.heap o (π.at' l))(hex:∃o,s'.heap.get? (π.at' l)=some o/\Jg o):
  Av c π (H.set l o) s':=by
 refine G.upd K (λb q=>.inl (q▸G.mem l hl)) (λb ob q e=>G.ok (G.mem l hl) (q▸e)) (λb q=>q▸G.new _ (G.mem l hl)) (λb q _=>q▸hex) F6 λj ob e=>?_
 by_cases q:l=j
 ·subst q;rw[bU hl] at e;exact .inr (AQ e▸ho)
 ·rw[Rd q] at e
  exact .inl ⟨e,λx=>q (G.inj j l (G.lt e) hl x).symm⟩
def ext(π:Pl)(n:Nat)(a:Ah):Pl:=⟨λl=>if l=n then a else π.at' l,λb=>π.M b\/b=a⟩
theorem Eo{π n a l}(h:l<n):(ext π n a).at' l=π.at' l:=AD (EG h)
theorem D7{π n a}:(ext π n a).at' n=a:=Bh rfl
theorem Av.absent(G:Av c π H s)(ha:s.heap.get? a=none):c.B.heap.get? a=none:=by
 cases e:c.B.heap.get? a with
 |none=>rfl
 |some ob=>exact(G.base.there _ _ id e).elim λ_ q=>nomatch ha.symm.trans q
theorem Av.fresh(G:Av c π H s)(ha:s.heap.get? a=none):¬ π.M a:=λq=>(G.ex a q).elim λ_ q=>nomatch ha.symm.trans q.1
theorem Bx(h:Ay){a:Ah}(ha:h.objs.size<=a):h.get? a=none:=by
 cases e:h.get? a with
 |none=>rfl
 |some o=>exact AL (Ew e) (EI.mpr ha)
theorem Av.Ki(G:Av c π H s):¬ π.M s.heap.objs.size:=G.fresh (Bx _ (AP _))
theorem er{h:Ay}(ha:h.get? a=none)(b)(hb:π.M b\/b=a):π.M b\/h.get? b=none:=hb.elim .inl λq=>.inr (q▸ha)
theorem Av.uN(G:Av c π H s)(ha:s.heap.get? a=none)(b)(hb:π.M b\/b=a):c.B.heap.get? b=none:=hb.elim (G.new b) λq=>q▸G.absent ha
theorem Av.zT(G:Av c π H s)(K:Kp no s s')(hex:∃o,s'.heap.get? a=some o/\Jg o)(b)(hb:π.M b\/b=a):∃o,s'.heap.get? b=some o/\Jg o:=
 hb.elim (λhb=>(G.ex b hb).imp λ_ q=>⟨G.keep K hb id q.1,q.2⟩) λq=>q▸hex
theorem Av.add(G:Av c π H s)(K:Kp no s s')(ha:s.heap.get? a=none){o:AO}(ho:IS (ext π H.length a) (H.length+1) s'.heap o a)(hex:∃o,s'.heap.get? a=some o/\Jg o):
  Av c (ext π H.length a) (H++[o]) s':=by
 have hlen:(H++[o]).length=H.length+1:=BP
 have cs:∀l,l<(H++[o]).length->l<H.length\/l=H.length:=λl h=>Nat.lt_or_eq_of_le (Wj (Nat.lt_of_lt_of_eq h hlen))
 have hn:∀k,k<H.length->π.at' k≠a:=λk hk q=>G.fresh ha (q▸G.mem k hk)
 refine⟨G.base.trans K,λj ob e=>hlen▸?_,λi j hi hj e=>?_,λi hi=>(cs i hi).elim (λh=>by rw[Eo h];exact .inl (G.mem i h)) λh=>by rw[h,D7];exact .inr rfl,G.uN ha,G.zT K hex⟩
 ·refine(cs j (NZ.mp e).1).elim (λhj=>?_) λhj=>?_
  ·rw[Rc hj] at e
   rw[Eo hj];exact(G.objs j ob e).step (K.En G.tabs .no .no (Dw _) (λ_ h=>Eo h) (er ha)) λ_ e=>G.keep K (G.mem j hj) id e
  ·subst hj
   rw[bS] at e
   rw[D7];exact AQ e▸ho
 ·refine(cs i hi).elim (λhi=>(cs j hj).elim (λhj=>G.inj i j hi hj ?_) λhj=>?_) λhi=>(cs j hj).elim (λhj=>?_) λhj=>hi.trans hj.symm
  ·rw[Eo hi,Eo hj] at e;exact e
  ·rw[hj,Eo hi,D7] at e;exact AL e (hn i hi)
  ·rw[hi,Eo hj,D7] at e;exact AL e.symm (hn j hj)
end
def Xw(π:Pl)(L:Ab Ah):Ah->Prop:=λb=>L=some b\/π.M b
structure PG(c:Cx)(wr:Nat)(L:Ab Ah)(π:Pl)(H:List AO)(s:Aj)(H':List AO)(π':Pl)(s':Aj):Prop where
 le:H.length<=H'.length
 old:∀l,l<wr->H'[l]?=H[l]?
 agree:∀l,l<H.length->π'.at' l=π.at' l
 ew:∀l,H.length<=l->l<H'.length->s.heap.get? (π'.at' l)=none
 mono:∀b,π.M b->π'.M b
 new:∀b,π'.M b->π.M b\/s.heap.get? b=none
 kp:Kp (Xw π L) s s'
 there:∀b o,s.heap.get? b=some o->∃o',s'.heap.get? b=some o'
 g:Av c π' H' s'
 same:∀b o,π.M b->(∀l,wr<=l->l<H.length->π.at' l≠b)->s.heap.get? b=some o->s'.heap.get? b=some o
section
variable{s s' HM:Aj}
theorem PG.pure(G:Av c π H s)(K:Kp no s s'):PG c wr L π H s H π s':=
 ⟨AP _,λ_ _=>rfl,λ_ _=>rfl,λl h1 h2=>AL h2 (EI.mpr h1),λ_ h=>h,λ_ h=>.inl h,K.weaken λ_ x=>x.elim,λb o e=>K.there b o id e,G.DT K,λb o hb _ e=>G.keep K hb id e⟩
theorem PG.refl(G:Av c π H s):PG c wr L π H s H π s:=.pure G (.refl s)
theorem PG.gone(P:PG c wr L π H s H' π' s'){b}(h:s'.heap.get? b=none):s.heap.get? b=none:=by
 cases e:s.heap.get? b with
 |none=>rfl
 |some o=>exact(P.there _ _ e).elim λ_ q=>nomatch h.symm.trans q
theorem PG.trans(P:PG c wr L π H s H' π' s')(Q:PG c wr L π' H' s' EY yM HM):PG c wr L π H s EY yM HM where
 le:=AA P.le Q.le
 old:=λl h=>(Q.old l h).trans (P.old l h)
 agree:=λl h=>(Q.agree l (BX h P.le)).trans (P.agree l h)
 ew:=λl h1 h2=>(Rr l H'.length).elim (λq=>Q.agree l q▸P.ew l h1 q) λq=>P.gone (Q.ew l q h2)
 mono:=λb h=>Q.mono b (P.mono b h)
 new:=λb h=>(Q.new b h).elim (P.new b) λh=>.inr (P.gone h)
 kp:=P.kp.trans' Q.kp (λ_ x=>x) λb o x e=>x.elim .inl λx=>(P.new b x).elim .inr λh=>nomatch h.symm.trans e
 there:=λb o e=>(P.there b o e).elim λo' e'=>Q.there b o' e'
 g:=Q.g
 same:=λb o hb hn e=>Q.same b o (P.mono b hb) (λl h1 h2 q=>(Rr l H.length).elim (λhl=>hn l h1 hl ((P.agree l hl).symm.trans q)) λhl=>nomatch (q▸P.ew l hl h2).symm.trans e) (P.same b o hb hn e)
theorem PG.nD(P:PG c wr L π H s H' π' s')(G:Av c π H s)(h1:l<wr)(h2:l<H.length)(e:s.heap.get? (π.at' l)=some o):s'.heap.get? (π.at' l)=some o:=
 P.same _ o (G.mem l h2) (λk k1 k2 q=>AL (G.inj k l k2 h2 q▸k1) (Nat.not_le.mpr h1)) e
theorem PG.any(P:PG c wr none π H s H' π' s'):PG c wr L π H s H' π' s':=
 {P with kp:=P.kp.weaken λb x=>.inr (x.resolve_left nofun)}
theorem PG.Kj(P:PG c wr L π H s H' π' s')(h:yN<=wr):PG c yN L π H s H' π' s':={P with old:=λl hl=>P.old l (BX hl h),same:=λb o hb hn=>P.same b o hb λl h1=>hn l (AA h h1)}
theorem PG.DT(P:PG c wr L π H s H' π' s')(K:Kp no s' HM):PG c wr L π H s H' π' HM:=P.trans (.pure P.g K)
def C9(h:Ay)(L:Ab Ah):Prop:=∀a,L=some a->∃o es k,h.get? a=some o/\o.data=.dict es k
theorem C9.none:C9 h none:=nofun
theorem PG.uO(hL:C9 s.heap L):mY π s.heap (Xw π L):=λb x=>x.elim (λq=>.inr (.inl (.inl (hL b q)))) .inl
theorem Fz{o:Obj}{es k}(hd:o.data=.dict es k)(vs):o.data≠.fields vs:=λq=>nomatch hd.symm.trans q
theorem PG.uP(G:Av c π H s)(hL:C9 s.heap L):jz s.heap (Xw π L):=λb o x e=>x.elim (λx=>(hL b x).elim λo' q=>q.elim λes q=>q.elim λk q=>.data (AQ (q.1.symm.trans e)▸Fz q.2)) λx=>G.ok x e
theorem PG.En(P:PG c wr L π H s H' π' s')(G:Av c π H s)(hL:C9 s.heap L:=by exact C9.none):Jt π H.length s.heap π' H'.length s'.heap:=P.kp.En G.tabs (PG.uO hL) (PG.uP G hL) P.le P.agree P.new
theorem As.pg(P:PG c wr L π H s H' π' s')(G:Av c π H s)(hL:C9 s.heap L:=by exact C9.none)(r:As π H.length s.heap v cv):As π' H'.length s'.heap v cv:=r.step (P.En G hL)
theorem Ag.pg(P:PG c wr L π H s H' π' s')(G:Av c π H s)(hL:C9 s.heap L:=by exact C9.none)(r:Ag π H.length s.heap v cv):Ag π' H'.length s'.heap v cv:=r.step (P.En G hL)
theorem Br.obj{n}{L:Ah}{lo:Lo}(R:Br c π n h L lo):∃o es k,h.get? L=some o/\o.data=.dict es k:=R.ns.elim λ_ q=>AH q.1 λo q=>q.elim λes q=>q.elim λep q=>⟨o,es,ep,q.1,q.2.1⟩
theorem Br.dict{n}{L:Ah}{lo:Lo}(R:Br c π n h L lo):C9 h (some L):=λa q=>AQ q▸R.obj
theorem Br.pg(P:PG c wr none π H s H' π' s')(G:Av c π H s){lo:Lo}(R:Br c π H.length s.heap A lo):Br c π' H'.length s'.heap A lo:=
 R.obj.elim λo q=>q.elim λes q=>q.elim λep q=>⟨R.ns.imp λm r=>⟨r.1.at' λo' e=>P.kp.keep A o' (λx=>R.nl (x.resolve_left nofun)) (G.tabs.Mq e (AQ (q.1.symm.trans e)▸Fz q.2)) e,λx v e=>(r.2 x v e).imp λ_ r=>⟨r.1,r.2.pg P G⟩⟩,
  λx=>(P.new A x).elim R.nl λx=>(nomatch x.symm.trans q.1),R.new⟩
theorem PG.fr(P:PG c wr L π H s H' π' s'){fr:FD}(F:Bu π H.length fr env):Bu π' H'.length fr env:=
 have e:∀o:Ab Nat,(∀l,o=some l->l<H.length)->o.map π.at'=o.map π'.at':=λo h=>by
  induction o using BL with
  |none=>rfl
  |some l=>exact Ai some (P.agree l (h l rfl)).symm
 {F with cells:=λx hx=>(F.cells x hx).trans (e _ (F.lt x)),lt:=λx l q=>BX (F.lt x l q) P.le,wr:=AA F.wr P.le}
theorem Br.DT{lo:Lo}(G:Av c π H s)(K:Kp no s s')(R:Br c π H.length s.heap A lo):Br c π H.length s'.heap A lo:=R.pg (wr:=0) (.pure G K) G
end
abbrev FV(c:Cx)(wr:Nat)(π:Pl)(H:List AO)(s:Aj)(v:AV)(H':List AO):Ad->Aj->Prop:=λcv s'=>∃π',PG c wr none π H s H' π' s'/\As π' H'.length s'.heap v cv
def aq(π:Pl)(n:Nat)(h:Ay)(a:AF)(f:Flow):Prop:=match a with
 |.next=>f=.next
 |.brk=>f=.brk
 |.cont=>f=.cont
 |.ret v=>∃cv,f=.ret cv/\As π n h v cv
abbrev nE(c:Cx)(wr:Nat)(L:Ah)(π:Pl)(H:List AO)(s:Aj)(fl:AF)(Bv:Lo)(H':List AO):Flow->Aj->Prop:=λcf s'=>∃π',PG c wr (some L) π H s H' π' s'/\Br c π' H'.length s'.heap L Bv/\aq π' H'.length s'.heap fl cf
section
variable(c:Cx)(d:Nat)(fr:FD)(lo:Lo)(H:List AO)
def Bt(e:Expr)(v:AV)(H':List AO):Prop:=
 ∀(A:AG)(env:Env)(π:Pl)(s:Aj)(E:EP),A5 d A->Bu π H.length fr env->Av c π H s->Br c π H.length s.heap env.locals lo->
  Ae c.m A (eval e env) (FV c fr.wr π H s v H') E s
def Jv(e:Expr)(b:Aa)(H':List AO):Prop:=
 ∀(A:AG)(env:Env)(π:Pl)(s:Aj)(E:EP),A5 d A->Bu π H.length fr env->Av c π H s->Br c π H.length s.heap env.locals lo->
  Ae c.m A (RP e env (eval e env)) (λb' s'=>∃π',PG c fr.wr none π H s H' π' s'/\b'=b) E s
def IT(es:List Expr)(vs:List AV)(H':List AO):Prop:=
 ∀(A:AG)(env:Env)(π:Pl)(s:Aj)(E:EP),A5 d A->Bu π H.length fr env->Av c π H s->Br c π H.length s.heap env.locals lo->
  Ae c.m A (spliced (es.map λe=>(false,eval e env))) (λcvs s'=>∃π',PG c fr.wr none π H s H' π' s'/\Ag π' H'.length s'.heap vs cvs) E s
def E9(st:Az)(fl:AF)(Bv:Lo)(H':List AO):Prop:=
 ∀(A:AG)(env:Env)(π:Pl)(s:Aj)(E:EP),A5 d A->Bu π H.length fr env->Av c π H s->Br c π H.length s.heap env.locals lo->
  Ae c.m A (exec st env) (nE c fr.wr env.locals π H s fl Bv H') E s
def Kk(st:List Az)(fl:AF)(Bv:Lo)(H':List AO):Prop:=
 ∀(A:AG)(env:Env)(π:Pl)(s:Aj)(E:EP),A5 d A->Bu π H.length fr env->Av c π H s->Br c π H.length s.heap env.locals lo->
  Ae c.m A (execs st env) (nE c fr.wr env.locals π H s fl Bv H') E s
end
section
variable(c:Cx)(d:Nat)(H:List AO)
def C1(op:Operator)(a b r:AV):Prop:=
 ∀(A:AG)(π:Pl)(s:Aj)(E:EP)(ca cb:Ad),A5 d A->Av c π H s->As π H.length s.heap a ca->As π H.length s.heap b cb->
  Ae c.m A (binaryOp op ca cb) (λcv s'=>Kp no s s'/\As π H.length s'.heap r cv) E s
def CO(op:G9)(a b:AV)(r:Aa):Prop:=
 ∀(A:AG)(π:Pl)(s:Aj)(E:EP)(ca cb:Ad),A5 d A->Av c π H s->As π H.length s.heap a ca->As π H.length s.heap b cb->
  Ae c.m A (Oo op ca cb) (λcv s'=>Kp no s s'/\cv=.bool r) E s
def Gq(a:AV)(r:Aa):Prop:=
 ∀(A:AG)(π:Pl)(s:Aj)(E:EP)(ca:Ad),A5 d A->Av c π H s->As π H.length s.heap a ca->
  Ae c.m A (truthy ca) (λb s'=>Kp no s s'/\b=r) E s
def DQ(wr:Nat)(f:AV)(as:List AV)(ks:List (Str×AV))(r:AV)(H':List AO):Prop:=
 ∀(A:AG)(π:Pl)(s:Aj)(E:EP)(cf:Ad)(cargs Gr:List Ad),A5 d A->wr<=H.length->Av c π H s->As π H.length s.heap f cf->Ag π H.length s.heap as cargs->
  Ag π H.length s.heap (ks.map (·.2)) Gr->
  Ae c.m A (call cf cargs ((ks.map (·.1)).zip Gr)) (FV c wr π H s r H') E s
end
def AX(S S':St)(P:Prop):Prop:=S'.ob=true->S.ob=true/\P
theorem AX.mk(h:P):AX S S P:=λo=>⟨o,h⟩
theorem AX.imp(h:AX S S' P)(k:P->Q):AX S S' Q:=λo=>⟨(h o).1,k (h o).2⟩
theorem AX.bind(h:AX S S' P)(g:AX S' S'' Q)(k:P->Q->R):AX S S'' R:=λo=>⟨(h (g o).1).1,k (h (g o).1).2 (g o).2⟩
theorem AX.need(h:b=true->P):AX S (S.need b) P:=λo=>⟨Am o,h (Ax o)⟩
section
variable(c:Cx)(d:Nat)(fr:FD)(lo:Lo)(S:St)
def jI(e:Expr)(x:Rt AV):Prop:=AX S x.S (Bt c d fr lo S.H e x.v x.S.H)
def pD(e:Expr)(x:Rt Aa):Prop:=AX S x.S (Jv c d fr lo S.H e x.v x.S.H)
def yO(st:Az)(x:Rx):Prop:=AX S x.S (E9 c d fr lo S.H st x.fl x.lo x.S.H)
def uQ(es:List Expr)(x:Rt (List AV)):Prop:=AX S x.S (IT c d fr lo S.H es x.v x.S.H)
def zU(st:List Az)(x:Rx):Prop:=AX S x.S (Kk c d fr lo S.H st x.fl x.lo x.S.H)
end
def nG(c:Cx)(d:Nat)(wr:Nat)(S:St)(f:AV)(as:List AV)(ks:List (Str×AV))(x:Rt AV):Prop:=AX S x.S (DQ c d S.H wr f as ks x.v x.S.H)
def QC(c:Cx)(d:Nat)(S:St)(op:Operator)(a b:AV)(x:Rt AV):Prop:=AX S x.S (x.S.H=S.H/\C1 c d S.H op a b x.v)
structure Bk(c:Cx)(d:Nat)(r:Ev):Prop where
 E:∀fr lo S e,Ok (r.E fr lo S e) (jI c d fr lo S e)
 T:∀fr lo S e,Ok (r.T fr lo S e) (pD c d fr lo S e)
 X:∀fr lo S st,Ok (r.X fr lo S st) (yO c d fr lo S st)
end
section
theorem As.int{π n h i cv}(r:As π n h (.int i) cv):∃t,cv=.int i t:=r
theorem As.AS{π n h i cv}(r:As π n h (.AS i) cv):∃t,cv=.float i t:=r
theorem As.str{π n h i cv}(r:As π n h (.str i) cv):∃t,cv=.str i t:=r
theorem As.val{π n h v cv}(r:As π n h (.val v) cv):cv=v:=r
theorem As.mkInt{π n h i t}:As π n h (.int i) (.int i t):=⟨t,rfl⟩
theorem As.KN{π n h i t}:As π n h (.AS i) (.float i t):=⟨t,rfl⟩
theorem As.mkStr{π n h i t}:As π n h (.str i) (.str i t):=⟨t,rfl⟩
theorem As.FW{π n h v}:As π n h (.val v) v:=rfl
theorem C1.of(h:∀(A:AG)(π:Pl)(s:Aj)(E:EP)(ca cb:Ad),A5 d A->As π H.length s.heap a ca->As π H.length s.heap b cb->
  Ae c.m A (binaryOp op ca cb) (λcv s'=>Kp no s s'/\As π H.length s'.heap r cv) E s):C1 c d H op a b r:=
 λA π s E ca cb R _ ha hb=>h A π s E ca cb R ha hb
theorem C1.zV:C1 c d H .Add (.int a) (.int b) (.int (a+b)):=.of λA π s E ca cb R ha hb=>by
 obtain ⟨t,rfl⟩:=ha.int;obtain ⟨u,rfl⟩:=hb.int
 (with_reducible refine add_int ?_);exact⟨.toks,.mkInt⟩
theorem C1.zW:C1 c d H .Sub (.int a) (.int b) (.int (a-b)):=.of λA π s E ca cb R ha hb=>by
 obtain ⟨t,rfl⟩:=ha.int;obtain ⟨u,rfl⟩:=hb.int
 (with_reducible refine sub_int ?_);exact⟨.toks,.mkInt⟩
theorem C1.zX(hm:IntMulOk a b):C1 c d H .Mult (.int a) (.int b) (.int (a*b)):=.of λA π s E ca cb R ha hb=>by
 obtain ⟨t,rfl⟩:=ha.int;obtain ⟨u,rfl⟩:=hb.int
 (with_reducible refine mul_int ?_ hm);exact⟨.toks,.mkInt⟩
theorem C1.uR(hb0:b≠0)(hp:cV a b=false):C1 c d H .FloorDiv (.int a) (.int b) (.int (a.fdiv b)):=.of λA π s E ca cb R ha hb=>by
 obtain ⟨t,rfl⟩:=ha.int;obtain ⟨u,rfl⟩:=hb.int
 (with_reducible refine floordiv_int hb0 ?_ (.inl hp));exact⟨.toks,.mkInt⟩
theorem C1.zY(hb0:b≠0):C1 c d H .Mod (.int a) (.int b) (.int (a.fmod b)):=.of λA π s E ca cb R ha hb=>by
 obtain ⟨t,rfl⟩:=ha.int;obtain ⟨u,rfl⟩:=hb.int
 (with_reducible refine mod_int' hb0 ?_);exact⟨.toks,.mkInt⟩
theorem C1.zZ(h0: 0<=b)(hsz:(Dy a:Int)*b<=2^27):C1 c d H .Pow (.int a) (.int b) (.int (a^b.toNat)):=.of λA π s E ca cb R ha hb=>by
 obtain ⟨t,rfl⟩:=ha.int;obtain ⟨u,rfl⟩:=hb.int
 (with_reducible refine pow_int h0 hsz ?_);exact⟨.toks,.mkInt⟩
theorem C1.z0(h0: 0<=b):C1 c d H .RShift (.int a) (.int b) (.int (a.fdiv (2^b.toNat))):=.of λA π s E ca cb R ha hb=>by
 obtain ⟨t,rfl⟩:=ha.int;obtain ⟨u,rfl⟩:=hb.int
 (with_reducible refine rshift_int h0 ?_);exact⟨.toks,.mkInt⟩
theorem C1.z3(h0: 0<=b)(hsz:(Dy a:Int)+b<=2^27):C1 c d H .LShift (.int a) (.int b) (.int (a*2^b.toNat)):=.of λA π s E ca cb R ha hb=>by
 obtain ⟨t,rfl⟩:=ha.int;obtain ⟨u,rfl⟩:=hb.int
 (with_reducible refine lshift_int h0 hsz ?_);exact⟨.toks,.mkInt⟩
theorem C1.z4:C1 c d H .BitAnd (.int a) (.int b) (.int (Gf a b)):=.of λA π s E ca cb R ha hb=>by
 obtain ⟨t,rfl⟩:=ha.int;obtain ⟨u,rfl⟩:=hb.int
 (with_reducible refine and_int ?_);exact⟨.toks,.mkInt⟩
theorem C1.z5:C1 c d H .BitXor (.int a) (.int b) (.int (Ou a b)):=.of λA π s E ca cb R ha hb=>by
 obtain ⟨t,rfl⟩:=ha.int;obtain ⟨u,rfl⟩:=hb.int
 (with_reducible refine xor_int ?_);exact⟨.toks,.mkInt⟩
theorem C1.z6(hb0:b≠0)(hf:¬Float64.isInf (WR (decide (a<0) !=decide (b<0)) a.natAbs b.natAbs)=true):
  C1 c d H .Div (.int a) (.int b) (.AS (WR (decide (a<0) !=decide (b<0)) a.natAbs b.natAbs)):=.of λA π s E ca cb R ha hb=>by
 obtain ⟨t,rfl⟩:=ha.int;obtain ⟨u,rfl⟩:=hb.int
 exact PySem.Flt.div_ii R.handled (λq=>AL q hb0) (λ_ q=>AL q hf) (λ_ _=>⟨.toks,.KN⟩)
theorem C1.z7:C1 c d H .Add (.AS a) (.AS b) (.AS (Dl a b)):=.of λA π s E ca cb R ha hb=>by
 obtain ⟨t,rfl⟩:=ha.AS;obtain ⟨u,rfl⟩:=hb.AS
 (with_reducible refine add_float ?_);exact⟨.toks,.KN⟩
theorem C1.z8:C1 c d H .Sub (.AS a) (.AS b) (.AS (Bg a b)):=.of λA π s E ca cb R ha hb=>by
 obtain ⟨t,rfl⟩:=ha.AS;obtain ⟨u,rfl⟩:=hb.AS
 (with_reducible refine sub_float ?_);exact⟨.toks,.KN⟩
theorem C1.z9:C1 c d H .Mult (.AS a) (.AS b) (.AS (Cq a b)):=.of λA π s E ca cb R ha hb=>by
 obtain ⟨t,rfl⟩:=ha.AS;obtain ⟨u,rfl⟩:=hb.AS
 (with_reducible refine mul_float ?_);exact⟨.toks,.KN⟩
theorem C1.Aaa(hz:Gh b=false):C1 c d H .Div (.AS a) (.AS b) (.AS (Cr a b)):=.of λA π s E ca cb R ha hb=>by
 obtain ⟨t,rfl⟩:=ha.AS;obtain ⟨u,rfl⟩:=hb.AS
 (with_reducible refine AutoFloatOps.truediv_1 (by rw[hz];exact BJ) ?_);exact⟨.toks,.KN⟩
theorem C1.Aab(hz:Gh b=false):C1 c d H .Mod (.AS a) (.AS b) (.AS (Float64.divmod a b).snd):=.of λA π s E ca cb R ha hb=>by
 obtain ⟨t,rfl⟩:=ha.AS;obtain ⟨u,rfl⟩:=hb.AS
 (with_reducible refine AutoFloatOps.mod_1 (by rw[hz];exact BJ) ?_);exact⟨.toks,.KN⟩
theorem C1.uS(hf:a.natAbs<2^1023):C1 c d H .Mult (.int a) (.AS b) (.AS (Cq (Fk a) b)):=.of λA π s E ca cb R ha hb=>by
 obtain ⟨t,rfl⟩:=ha.int;obtain ⟨u,rfl⟩:=hb.AS
 (with_reducible refine mul_if_fits hf ?_);exact⟨.toks,.KN⟩
theorem C1.uT(hf:b.natAbs<2^1023):C1 c d H .Mult (.AS a) (.int b) (.AS (Cq a (Fk b))):=.of λA π s E ca cb R ha hb=>by
 obtain ⟨t,rfl⟩:=ha.AS;obtain ⟨u,rfl⟩:=hb.int
 (with_reducible refine mul_fi_fits hf ?_);exact⟨.toks,.KN⟩
theorem C1.uU(hf:¬ dB b)(hb0:b≠0):C1 c d H .Div (.AS a) (.int b) (.AS (Cr a (Fk b))):=.of λA π s E ca cb R ha hb=>by
 obtain ⟨t,rfl⟩:=ha.AS;obtain ⟨u,rfl⟩:=hb.int
 exact PySem.Flt.truediv_fi R.handled (λq=>AL q hf) (λq=>AL q hb0) (λ_ _=>⟨.toks,.KN⟩)
theorem C1.Aac(hs:a.length+b.length<=BY):C1 c d H .Add (.str a) (.str b) (.str (a++b)):=.of λA π s E ca cb R ha hb=>by
 obtain ⟨t,rfl⟩:=ha.str;obtain ⟨u,rfl⟩:=hb.str
 exact PyProof.Rows.add_str (λt' tk=>⟨.toks,.mkStr⟩) hs
theorem CO.of(h:∀(A:AG)(π:Pl)(s:Aj)(E:EP)(ca cb:Ad),A5 d A->As π H.length s.heap a ca->As π H.length s.heap b cb->
  ∀Q:Ad->Aj->Prop,Q (.bool r) s->Ae c.m A (Oo op ca cb) Q E s):CO c d H op a b r:=
 λA π s E ca cb R _ ha hb=>h A π s E ca cb R ha hb _ ⟨.refl s,rfl⟩
theorem CO.ltI:CO c d H .Lt (.int a) (.int b) (decide (a<b)):=.of λA π s E ca cb R ha hb Q hq=>by
 obtain ⟨t,rfl⟩:=ha.int;obtain ⟨u,rfl⟩:=hb.int;(with_reducible refine Ry ?_);exact hq
theorem CO.leI:CO c d H .LtE (.int a) (.int b) (decide (a<=b)):=.of λA π s E ca cb R ha hb Q hq=>by
 obtain ⟨t,rfl⟩:=ha.int;obtain ⟨u,rfl⟩:=hb.int;(with_reducible refine PyProof.Rows.le_int ?_);exact hq
theorem CO.gtI:CO c d H .Gt (.int a) (.int b) (decide (b<a)):=.of λA π s E ca cb R ha hb Q hq=>by
 obtain ⟨t,rfl⟩:=ha.int;obtain ⟨u,rfl⟩:=hb.int;(with_reducible refine PyProof.Rows.gt_int ?_);exact hq
theorem CO.isNone(hp:∀π n h cv,As π n h a cv->plainIs cv .none=true/\cv≠.none):CO c d H .Is a .none false:=.of λA π s E ca cb R ha hb Q hq=>by
 rcases hb.val with ⟨⟩;obtain ⟨h1,h2⟩:=hp _ _ _ _ ha;(with_reducible refine wpAny_is_other h1 h2 ?_);exact hq
theorem CO.jJ:CO c d H .Is .none .none true:=.of λA π s E ca cb R ha hb Q hq=>by
 rcases ha.val with ⟨⟩;rcases hb.val with ⟨⟩;(with_reducible refine wpAny_is_self rfl ?_);exact hq
theorem Gq.int:Gq c d H (.int a) (a !=0):=λA π s E ca R _ ha=>by
 obtain ⟨t,rfl⟩:=ha.int;(with_reducible refine PyProof.Rows.truthy_int ?_);exact⟨.refl s,rfl⟩
theorem Gq.bool:Gq c d H (.bool b) b:=λA π s E ca R _ ha=>by
 rcases ha.val with ⟨⟩;(with_reducible refine RD ?_);exact⟨.refl s,rfl⟩
theorem Gq.none:Gq c d H .none false:=λA π s E ca R _ ha=>by
 rcases ha.val with ⟨⟩;(with_reducible refine PyProof.Rows.truthy_none ?_);exact⟨.refl s,rfl⟩
end
theorem au(a b:List Nat):Fu a b=(a==b):=by
 induction a generalizing b with
 |nil=>rcases b with ⟨⟩<;>rfl
 |cons x a ih=>induction b using B9 with
  |nil=>rfl
  |cons y b=>
   rw[List.cons_beq_cons,<-ih,<-show Aw x y=(x==y) from Aa.eq_iff_iff.mpr (by simp)]
   show JM (motive:=λ_=>Aa) false (Fu a b) (Aw x y)=_
   rcases Aw x y with ⟨⟩<;>rfl
theorem Mt(a b:Str):sEq a b=(a==b):=by
 unfold sEq
 rw[au]
 by_cases h:a=b
 ·subst h;simp
 ·have h':a.cps.toList≠b.cps.toList:=λq=>h (by rcases a with ⟨⟩;rcases b with ⟨⟩;simp at q;subst q;rfl)
  have h1:(a.cps.toList==b.cps.toList)=false:=by simpa using h'
  have h2:(a==b)=false:=by simpa using h
  rw[h1,h2]
theorem D8(x:Str)(l:List (Str×α)):lk x l=l.lookup x:=by
 induction l with
 |nil=>rfl
 |cons p r ih=>rw[Dk,<-ih,<-Mt];show JM (motive:=λ_=>Ab α) (lk x r) (some p.2) (sEq x p.1)=_;rcases sEq x p.1 with ⟨⟩<;>rfl
theorem BC(h:sEq a b=true):a=b:=by rw[Mt] at h;exact eq_of_beq h
theorem SJ(x:Str)(l:List Str):Ke x l=l.contains x:=by
 induction l with
 |nil=>rfl
 |cons y r ih=>rw[cu,<-ih,<-Mt];show JM (motive:=λ_=>Aa) (Ke x r) true (sEq x y)=_;rcases sEq x y with ⟨⟩<;>rfl
theorem jK(a b:Str):pe a b=a++b:=by
 unfold pe
 congr 1
 rcases a with ⟨⟩;rcases b with ⟨⟩;simp
section
variable{c:Cx}{H:List AO}
theorem As.lst{π n h xs cv}(r:As π n h (.lst xs) cv):∃a vs,cv=.ref a/\h.IsList a vs/\¬ π.M a/\Ag π n h xs vs.toList:=
 AH r λa r=>r.elim λvs r=>⟨a,vs,r.1,r.2.1.imp λ_ q=>⟨q.1,q.2.1,q.2.2.2⟩,r.2.2⟩
theorem As.tup{π n h xs cv}(r:As π n h (.tup xs) cv):∃a vs,cv=.ref a/\Ej h a vs/\¬ π.M a/\Ag π n h xs vs.toList:=r
theorem As.loc{π n h l cv}(r:As π n h (.loc l) cv):l<n/\cv=.ref (π.at' l):=r
theorem As.Gw{π n h x y z cv}(r:As π n h (.Gw x y z) cv):∃a,cv=.ref a/\IsRange h a x y z/\¬ π.M a:=r
theorem As.BI{π n h k cv}(r:As π n h (.BI k) cv):∃a,cv=.ref a/\OL π n h a k/\¬ π.M a:=r
def Jw(c:Cx)(H:List AO)(a:AV)(xs:List AV):Prop:=∀(π:Pl)(s:Aj),Av c π H s->∀cv,As π H.length s.heap a cv->∃b vs,cv=.ref b/\s.heap.IsList b vs/\Ag π H.length s.heap xs vs.toList
theorem Bs:Ok (DP H a) (Jw c H a):=by
 induction a using AV.casesOn with
 |lst xs=>exact .some λπ s G cv r=>r.lst.imp λ_ r=>r.imp λ_ r=>⟨r.1,r.2.1,r.2.2.2⟩
 |loc l=>exact listAt.mono λxs e π s G cv r=>(G.objs l _ e).elim λvs q=>q.elim λk q=>⟨_,vs,r.loc.2,⟨_,q.1,rfl,k,rfl⟩,q.2⟩
 |_=>exact .none
theorem Ag.size{π n h}{vs:AE Ad}(r:Ag π n h xs vs.toList):vs.size=xs.length:=by have:=r.length;simpa using this
theorem Kl(h:Ay)(o:Obj):∀b o',h.get? b=some o'->(h.push o).get? b=some o':=λ_ _ e=>B6 _ e
theorem Kp.push{X}(o:Obj):Kp X s {s with heap:=s.heap.push o,toks:=tk}:=.of_keeps (Kl _ _)
theorem Kp.BU{X}(o:Obj):Kp X s {s with heap:=s.heap.push o}:=.of_keeps (Kl _ _)
theorem Jt.push{π n}(o:Obj):Jt π n h π n (h.push o):=⟨λb _ e _ _ _=>Kl _ _ _ _ e,λ_ _ r=>r.push o,AP _,λ_ _=>rfl,λ_ h=>.inl h⟩
theorem Ag.push{π n}{xs vs}(r:Ag π n h xs vs)(o:Obj):Ag π n (h.push o) xs vs:=r.step (.push o)
theorem As.push{π n}{x v}(r:As π n h x v)(o:Obj):As π n (h.push o) x v:=r.step (.push o)
theorem As.newList(G:Av c π H s)(r:Ag π H.length s.heap xs vs):
  As π H.length (s.heap.push {cls:=.type "list",data:=.seq vs.toArray k}) (.lst xs) (.ref s.heap.objs.size):=
 ⟨_,vs.toArray,rfl,⟨_,Bp _ rfl,rfl,rfl,k,rfl⟩,G.Ki,r.push _⟩
theorem As.newTuple(G:Av c π H s)(r:Ag π H.length s.heap xs vs):
  As π H.length (s.heap.push {cls:=.type "tuple",data:=.seq vs.toArray}) (.tup xs) (.ref s.heap.objs.size):=
 ⟨_,vs.toArray,rfl,⟨_,Bp _ rfl,rfl,_,rfl⟩,G.Ki,r.push _⟩
theorem Ep{h:Ay}{b vs}(l:h.IsList b vs):∃d n sl,h.get? b=some ⟨.type "list",d,.seq vs n,sl⟩:=
 AH l λo q=>q.2.2.elim λn e=>⟨o.dict,n,o.slots,by rw[q.1];rcases o with ⟨⟩;rcases q.2.1 with ⟨⟩;rcases e with ⟨⟩;rfl⟩
theorem pE(h:a+b<100000):a+b<=BY:=AA (DX h) ⋯
theorem C1.OI(ha:Jw c H a xs)(hb:Jw c H b ys)(hsz:xs.length+ys.length<100000):C1 c d H .Add a b (.lst (xs++ys)):=by
 intro A π s E ca cb R G ra rb
 refine(ha π s G ca ra).elim λl q=>q.elim λvs q=>(hb π s G cb rb).elim λl' p=>p.elim λws p=>?_
 rw[q.1,p.1]
 refine(Ep q.2.1).elim λdd x=>x.elim λn x=>x.elim λsl ho=>(Ep p.2.1).elim λuV x=>x.elim λn2 x=>x.elim λuW nH=>?_
 refine concat_meets ⟨_,ho,rfl⟩ ⟨_,nH,rfl⟩ noFill_list_add seq_list_add PySem.F.slot_list_add PySem.F.entry_list_add (PySem.F.args_list_add_2 _ _) (list_addW l l' vs ws n n2 dd uV sl uW (by rw[q.2.2.size,p.2.2.size];exact pE hsz)) ⟨ho,nH,.BU _,?_⟩
 rw[show vs++ws=(vs.toList++ws.toList).toArray by simp]
 exact As.newList G (q.2.2.append p.2.2)
theorem Ag.rep{π n h}(r:As π n h x v)(k):Ag π n h (OP [x] k) (FQ k v):=by
 induction k with
 |zero=>exact .nil
 |succ k ih=>exact .cons r ih
theorem ez(v:Ad)(n:Nat):(FQ n [v]).flatten=FQ n v:=by
 induction n with
 |zero=>rfl
 |succ n ih=>exact Ai (v :: ·) ih
theorem lt1000{y:Int}(h0: 0<=y)(h1:y<1000):y.toNat<=1000:=Int.toNat_le.mpr (Ec h1)
theorem nI(h0: 0<=y)(h1:y<1000)(ra:As π H.length s.heap (.lst [x]) ca)(rb:As π H.length s.heap (.int y) cb)
  (fin:∀v,As π H.length s.heap x v->Q (.ref s.heap.objs.size) {s with heap:=s.heap.push {cls:=.type "list",data:=.seq (FQ y.toNat v).toArray}}):Ae c.m A (binaryOp .Mult ca cb) Q E s:=by
 refine ra.lst.elim λl q=>q.elim λvs q=>rb.int.elim λu hu=>(Ep q.2.1).elim λdd z=>z.elim λk z=>z.elim λsl ho=>?_
 obtain ⟨v,hv,rv⟩ :∃v,vs = #[v]/\As π H.length s.heap x v:=AH q.2.2.2 λv r=>r.elim λws r=>⟨v,by rw[<-VR (xs:=vs),r.1,r.2.2],r.2.1⟩
 rw[q.1,hu]
 subst hv
 have h3:=lt1000 h0 h1
 have Aeg:(#[v]:AE Ad).size*y.toNat<=1000:=by rw[show(#[v]:AE Ad).size=1 from rfl,C3];exact h3
 refine wpAny_binaryOp_repeat_ref ⋯ ⟨_,ho,rfl⟩ (λs'=>EK s' y u) noFill_list_mul F.fills_int_mul F.slot_int_rmul repeat_list F.slot_int_index.lookup
  (Ij F.slot_int_rmul (EK s y u) F.entry_int_rmul (F.args_int_rmul_2 _ _) (lm_int_rmul_list_any y u l #[v] k dd sl)
   ⟨ho,rfl,⟨_,ho,rfl⟩,Ij F.slot_list_mul ⟨_,ho,rfl⟩ F.entry_list_mul (F.args_list_mul_2 _ _)
    (lm_list_mul_any l #[v] k dd sl y u (by simp[Ow];omega) (by omega) (by simp[WL,BY];omega))
    ⟨ho,?_⟩⟩)
 rw[show(#[v]:AE Ad)=[v].toArray from rfl,listMul_foldl_if,ez]
 exact fin v rv
theorem C1.mulL(h0: 0<=y)(h1:y<1000):C1 c d H .Mult (.lst [x]) (.int y) (.lst (OP [x] y.toNat)):=λA π s E ca cb R G ra rb=>
 nI h0 h1 ra rb λv rv=>⟨.BU _,As.newList G (Ag.rep rv _)⟩
theorem O1(h:x.natAbs<2^n):Dy x<=n:=PySem.intBits_le_iff.mpr h
theorem pG(h:a<b):(2:Nat)^a<2^b:=Nat.pow_lt_pow_right ⋯ h
theorem QD(h:DI n=true)(hk: 1000<k):n.natAbs<2^k:=EH (Bi h) (pG hk)
theorem Xe(h:DI n=true):¬ dB n:=by
 have h1:=Bi h
 have h2:(2:Nat)^1000<2^1024-2^970:=⋯
 exact Nat.not_le.mpr (EH h1 h2)
theorem av(h:DI a=true)(hb:b≠0):¬Float64.isInf (OO a b)=true:=by
 have h1:=Bi h
 have yP:=NW.mpr hb
 unfold OO
 rw[PySem.Flt.notInf_ofFrac yP]
 ·exact BJ
 ·have h2: 2*(2^1000*2^1074)<1*((2^54-1)*2^2045):=⋯
  have h3: 2*(a.natAbs*2^1074)<=2*(2^1000*2^1074):=Jz _ (Ee _ (DX h1))
  exact CE h3 (BX h2 (Ee _ yP))
theorem IU(h:AM x=true):Dy x<=20000:=O1 (Bi h)
theorem Aae(h: 0<y/\y<2^60):cV x y=false:=
 PyProof.noPylong_of_log2 (EH ((Wr (by omega:y.natAbs≠0)).mpr (by omega:y.natAbs<2^60)) (by decide: 60<9000))
theorem uX(h: 0<=y/\y<1000/\x.natAbs<2^60):(Dy x:Int)*y<=2^27:=
 BA (Int.mul_le_mul (DL.mpr (O1 h.2.2)) (Ec h.2.1) h.1 ⋯) (by decide:((60:Nat):Int)*1000<=2^27)
theorem uY(h:y<100000)(k:Dy x<=20000):(Dy x:Int)+y<=2^27:=
 BA (Int.add_le_add (DL.mpr k) (Ec h)) (by decide:((20000:Nat):Int)+100000<=2^27)
theorem QC.mk{op a b v}(h:C1 c d S.H op a b v):QC c d S op a b ⟨v,S⟩:=AX.mk ⟨rfl,h⟩
theorem QC.need{op a b v}(h:t=true->C1 c d S.H op a b v):QC c d S op a b ⟨v,S.need t⟩:=AX.need λe=>⟨rfl,h e⟩
section
theorem QC.YB(h:∀x y,Ok (f x y) (QC c d S op (.int x) (.int y))):Ok (YB a b f) (QC c d S op a b):=
 Bd.bind λx e=>Bd.bind λy q=>e▸q▸h x y
theorem QC.i(h:∀y,Ok (f y) (QC c d S op a (.int y))):Ok ((intOf b).bind f) (QC c d S op a b):=Bd.bind λy q=>q▸h y
theorem QC.f{f:Al->Ab (Rt AV)}(h:∀y,Ok (f y) (QC c d S op a (.AS y))):Ok ((JD b).bind f) (QC c d S op a b):=IQ.bind λy q=>q▸h y
theorem YH:Ok (OI a b S) (QC c d S .Add a b):=
 Bs.bind λxs p=>Bs.bind λys q=>.guard λh=>.some (.mk (C1.OI p q (Bi h)))
theorem jL:Ok (dO a b S) (QC c d S .Add a b):=by
 induction a using AV.casesOn with
 |int x=>exact .i λy=>.some (.mk C1.zV)
 |AS x=>exact .f λy=>.some (.mk C1.z7)
 |str x=>exact Cz.bind λy q=>.some (.need λh=>q▸jK x y▸C1.Aac (AA (DX (Bi h)) ⋯))
 |lst xs=>exact YH
 |loc l=>exact YH
 |_=>exact .none
theorem jM:Ok (ui a b S) (QC c d S .Sub a b):=by
 induction a using AV.casesOn with
 |int x=>exact .i λy=>.some (.mk C1.zW)
 |AS x=>exact .f λy=>.some (.mk C1.z8)
 |_=>exact .none
theorem jN:Ok (uj a b S) (QC c d S .Mult a b):=by
 induction a using AV.casesOn with
 |int x=>induction b using AV.casesOn with
  |int y=>exact .some (.need λh=>C1.zX (PySem.IntMulOk.of_le (IU (Ax h)) (IU (Am h)) ⋯))
  |AS y=>exact .some (.need λh=>C1.uS (QD h ⋯))
  |_=>exact .none
 |AS x=>induction b using AV.casesOn with
  |int y=>exact .some (.need λh=>C1.uT (QD h ⋯))
  |AS y=>exact .some (.mk C1.z9)
  |_=>exact .none
 |lst xs=>exact BE.bind λx e=>.i λy=>.guard λh=>.some (.mk (by rw[e];exact C1.mulL (Bi h).1 (Bi h).2))
 |_=>exact .none
theorem jO:Ok (uk a b S) (QC c d S .Div a b):=by
 induction a using AV.casesOn with
 |int x=>exact .i λy=>.some (.need λh=>C1.z6 (Bi (Am h)) (av (Ax h) (Bi (Am h))))
 |AS x=>induction b using AV.casesOn with
  |int y=>exact .some (.need λh=>C1.uU (Xe (Ax h)) (Bi (Am h)))
  |AS y=>exact .some (.need λh=>C1.Aaa (by simpa using h))
  |_=>exact .none
 |_=>exact .none
theorem jP:Ok (um a b S) (QC c d S .Mod a b):=by
 induction a using AV.casesOn with
 |int x=>exact .i λy=>.some (.need λh=>C1.zY (Bi h))
 |AS x=>exact .f λy=>.some (.need λh=>C1.Aab (by simpa using h))
 |_=>exact .none
theorem jQ:Ok (uo op a b S) (QC c d S op a b):=by
 cases op with
 |Add=>exact jL
 |Sub=>exact jM
 |Mult=>exact jN
 |Div=>exact jO
 |Mod=>exact jP
 |FloorDiv=>exact .YB λx y=>.guard λh=>have h:=Bi h;.some (.mk (C1.uR (Int.ne_of_gt h.1) (Aae h)))
 |Pow=>exact .YB λx y=>.guard λh=>have h:=Bi h;.some (.mk (C1.zZ h.1 (uX h)))
 |RShift=>exact .YB λx y=>.guard λh=>.some (.mk (C1.z0 (Bi h).1))
 |LShift=>exact .YB λx y=>.guard λh=>.some (.need λq=>C1.z3 (Bi h).1 (uY (Bi h).2 (IU q)))
 |BitAnd=>exact .YB λx y=>.some (.mk C1.z4)
 |BitXor=>exact .YB λx y=>.some (.mk C1.z5)
 |_=>exact .none
end
end
section
open PySem.SeqAt
section
def tP(x:AV)(v:Ad):Aa:=match x with
 |.int i=>(match v with | .int j _=>decide (j=i) | _=>false)
 |.str i=>(match v with | .str j _=>sEq j i | _=>false)
 |.val w=>(match w with | .bool i=>(match v with | .bool j=>j==i | _=>false) | _=>false)
 |_=>false
abbrev uZ(A:AG)(s:Aj)(ca cb:Ad)(r:Aa):Prop:=EqAt A s ca cb r/\RcAt A s ca cb r/\RcNeAt A s ca cb (!r)
theorem uZ.int{t u}:uZ A s (.int i t) (.int j u) (decide (i=j)):=by
 have e:decide (i=j)=(i==j):=by by_cases q:i=j<;>simp[q]
 rw[e];exact⟨.int_int _ _ _ _,.int_int _ _ _ _,.int_int _ _ _ _⟩
theorem uZ.str{t u}:uZ A s (.str i t) (.str j u) (sEq i j):=by rw[Mt];exact⟨.str_str _ _ _ _,.str_str _ _ _ _,.str_str _ _ _ _⟩
theorem KO(i:Str):sEq i i=true:=by rw[Mt];exact Kc i
def Eq0(a b:AV)(r:Aa):Prop:=∀(π:Pl)(n:Nat)(h:Ay)(ca cb:Ad),As π n h a ca->As π n h b cb->(∀A s,uZ A s ca cb r)/\r=tP b ca/\(ca=cb->r=true)
theorem SK:Ok (i9 a b) (Eq0 a b):=by
 induction a using AV.casesOn with
 |int x=>
  exact Bd.bind λy e=>.some λπ n h ca cb ha hb=>by
   subst e;refine ha.int.elim λt p=>hb.int.elim λu q=>?_
   subst p q
   exact⟨λA s=>.int,rfl,λe=>AU (J9.inj e).1⟩
 |str x=>
  exact Cz.bind λy e=>.some λπ n h ca cb ha hb=>by
   subst e;refine ha.str.elim λt p=>hb.str.elim λu q=>?_
   subst p q
   exact⟨λA s=>.str,rfl,λe=>(ET.inj e).1▸KO x⟩
 |val v=>
  exact O0.bind λx e=>QA.bind λy e'=>.some λπ n h ca cb ha hb=>by
   subst e e';rcases ha.val with ⟨⟩;rcases hb.val with ⟨⟩
   exact⟨λA s=>⟨.bool_bool _ _,.bool_bool _ _,.bool_bool _ _⟩,rfl,λe=>Ad.bool.inj e▸Kc x⟩
 |_=>exact .none
def tQ(ys:List AV)(vs:List Ad)(j:Nat):Aa:=tP (ys.getD j .none) (vs.getD j .none)
def nJ(ys:List AV)(vs:List Ad):Aa:=(Cn (min vs.length ys.length)).all (tQ ys vs)&&vs.length==ys.length
theorem eA(y ys v vs):nJ (y::ys) (v::vs)=(tP y v&&nJ ys vs):=by
 unfold nJ
 rw[JQ,JQ,Nat.succ_min_succ,bV,List.all_cons,List.all_map,Aa.and_assoc]
 rw[show((vs.length+1==ys.length+1):Aa)=(vs.length==ys.length) from by simp]
 rfl
def Xf(xs ys:List AV)(r:Aa):Prop:=∀(π:Pl)(n:Nat)(h:Ay)(vs ws:List Ad),Ag π n h xs vs->Ag π n h ys ws->(∀j v w,vs[j]?=some v->ws[j]?=some w->∀A s,EqAt A s v w (tQ ys vs j))/\r=nJ ys vs/\(vs=ws->r=true)
theorem SM:Ok (TY xs ys) (Xf xs ys):=by
 induction xs generalizing ys with
 |nil=>induction ys using B9 with
  |nil=>exact .some λπ n h vs ws hx hy=>by subst hx;subst hy;exact⟨(λ_ _ _ e=>nomatch e),rfl,λ_=>rfl⟩
  |cons y ys=>
   exact .some λπ n h vs ws hx hy=>by
    subst hx
    refine⟨(λ_ _ _ e=>nomatch e),rfl,λe=>AH hy λ_ q=>q.elim λ_ q=>nomatch e.trans q.1⟩
 |cons x xs ih=>induction ys using B9 with
  |nil=>
   exact .some λπ n h vs ws hx hy=>by
    subst hy
    refine⟨(λ_ _ _ _ e=>nomatch e),AH hx λ_ q=>q.elim λ_ q=>q.1▸rfl,λe=>AH hx λ_ q=>q.elim λ_ q=>nomatch e.symm.trans q.1⟩
  |cons y ys=>
   exact SK.bind λp P=>ih.bind λq Q=>.some λπ n h vs ws hx hy=>by
    refine AH hx λv hx=>hx.elim λvs hx=>AH hy λw hy=>hy.elim λws hy=>?_
    rw[hx.1,hy.1]
    have p:=P _ _ _ _ _ hx.2.1 hy.2.1
    have q:=Q _ _ _ _ _ hx.2.2 hy.2.2
    refine⟨λj a b ea eb A s=>?_,by rw[eA,p.2.1,q.2.1],λe=>by rw[p.2.2 (Gk e).1,q.2.2 (Gk e).2];rfl⟩
    induction j using LO with
    |zero=>rcases ea with ⟨⟩;rcases eb with ⟨⟩;exact(show EqAt A s v w (tP y v) from p.2.1▸(p.1 A s).1)
    |succ j=>exact q.1 j a b ea eb A s
theorem Xf.he(he:Xf xs ys r){vs ws:AE Ad}(hx:Ag π n h xs vs.toList)(hy:Ag π n h ys ws.toList)(A:AG)(s:Aj):
  ∀j (h1:j<vs.size)(h2:j<ws.size),EqAt A s vs[j] ws[j] (tQ ys vs.toList j):=λj h1 h2=>(he _ _ _ _ _ hx hy).1 j _ _ (by simp[h1]) (by simp[h2]) A s
abbrev Rc2(A:AG)(s:Aj)(ca cb:Ad)(r:Aa):Prop:=RcAt A s ca cb r/\RcNeAt A s ca cb (!r)
theorem Xf.tup(he:Xf xs ys r){vs ws:AE Ad}(hl:s.heap.IsTuple l vs)(hb:s.heap.IsTuple b ws)(hx:Ag π n h xs vs.toList)(hy:Ag π n h ys ws.toList)(hu:A.units<cLine):
  Rc2 A s (.ref l) (.ref b) r:=by
 have e:r=((Cn (min vs.size ws.size)).all (tQ ys vs.toList)&&vs.size==ws.size):=(he _ _ _ _ _ hx hy).2.1.trans (by unfold nJ;rw[hy.size];rfl)
 exact e▸⟨RcAt.tuples hl hb hu (he.he hx hy _ _),RcNeAt.tuples hl hb hu (he.he hx hy _ _)⟩
theorem Xf.lst(he:Xf xs ys r){vs ws:AE Ad}(hl:s.heap.IsList l vs)(hb:s.heap.IsList b ws)(hx:Ag π n h xs vs.toList)(hy:Ag π n h ys ws.toList)(hu:A.units<cLine):
  Rc2 A s (.ref l) (.ref b) r:=by
 have hr:r=((Cn (min vs.size ws.size)).all (tQ ys vs.toList)&&vs.size==ws.size):=(he _ _ _ _ _ hx hy).2.1.trans (by unfold nJ;rw[hy.size];rfl)
 by_cases q:vs.size=ws.size
 ·have e:r=(Cn vs.size).all (tQ ys vs.toList):=by rw[hr,<-q];simp
  exact e▸⟨RcAt.lists hl hb q hu (he.he hx hy _ _),RcNeAt.lists hl hb q hu (he.he hx hy _ _)⟩
 ·have hsz:=bne_iff_ne.mpr q
  have e:r=false:=by rw[hr,Si q,Q4]
  exact e▸⟨RcAt.lists_lengths hl hb hsz hu,RcNeAt.lists_lengths hl hb hsz hu⟩
abbrev Nd(c:Cx)(d:Nat)(H:List AO)(a b:AV)(r:Aa):Prop:=CO c d H .Eq a b r/\CO c d H .NotEq a b (!r)
theorem Nd.rc(k:∀(A:AG)(π:Pl)(s:Aj)(ca cb:Ad),A5 d A->Av c π H s->As π H.length s.heap a ca->As π H.length s.heap b cb->Rc2 A s ca cb r):Nd c d H a b r:=
 ⟨λA π s E ca cb R G ha hb=>PySem.EqBoolInt.of_rc (k A π s ca cb R G ha hb).1 ⟨.refl s,rfl⟩,λA π s E ca cb R G ha hb=>PySem.EqBoolInt.of_rcne (k A π s ca cb R G ha hb).2 ⟨.refl s,rfl⟩⟩
theorem Nd.lst:Ok ((DP H a).bind λxs=>(DP H b).bind λys=>TY xs ys) (Nd c d H a b):=
 Bs.bind λxs p=>Bs.bind λys q=>SM.mono λr he=>.rc λA π s ca cb R G ha hb=>(p π s G ca ha).elim λl x=>x.elim λvs x=>(q π s G cb hb).elim λl' y=>y.elim λws y=>x.1▸y.1▸he.lst x.2.1 y.2.1 x.2.2 y.2.2 R.cl
theorem Nd.i9:Ok (i9 a b) (Nd c d H a b):=SK.mono λr he=>.rc λA π s ca cb R G ha hb=>((he _ _ _ _ _ ha hb).1 A s).2
theorem eB:Ok (m3 H a b) (Nd c d H a b):=by
 induction a using AV.casesOn with
 |AS x=>
  exact IQ.bind λy e=>.some <| by
   subst e
   refine⟨λA π s E ca cb R G ha hb=>ha.AS.elim λt p=>hb.AS.elim λu q=>p▸q▸AutoFloatOps.eq_0 ⟨.refl s,rfl⟩,λA π s E ca cb R G ha hb=>ha.AS.elim λt p=>hb.AS.elim λu q=>p▸q▸AutoFloatOps.ne_0 ⟨.refl s,rfl⟩⟩
 |tup xs=>
  exact Fw.bind λys e=>SM.mono λr he=>.rc λA π s ca cb R G ha hb=>by
   subst e
   exact ha.tup.elim λl x=>x.elim λvs x=>hb.tup.elim λl' y=>y.elim λws y=>x.1▸y.1▸he.tup x.2.1 y.2.1 x.2.2.2 y.2.2.2 R.cl
 |lst xs=>exact Nd.lst (a:=.lst xs)
 |loc l=>exact Nd.lst
 |val v=>exact Nd.i9 (a:=.val v)
 |int v=>exact Nd.i9 (a:=.int v)
 |str v=>exact Nd.i9 (a:=.str v)
 |_=>exact .none
noncomputable def YI(h:Ay)(a:Ah):List Ad:=match h.get? a with | some o=>(match o.data with | .seq vs _=>vs.toList | _=>[]) | none=>[]
theorem O2{vs}(t:Ej h a vs):YI h a=vs.toList:=t.elim λo q=>q.2.2.elim λk e=>by unfold YI;rw[q.1];simp only[e]
def cE(h:Ay)(x:AV)(v:Ad):Aa:=match x with
 |.tup ys=>(match v with | .ref a=>nJ ys (YI h a) | _=>false)
 |x=>tP x v
def aw(H:List AO)(y x:AV)(r:Aa):Prop:=∀(A:AG)(π:Pl)(s:Aj)(v cx:Ad),A.units<cLine->As π H.length s.heap y v->As π H.length s.heap x cx->EqAt A s v cx r/\r=cE s.heap x v
theorem aw.of0(k:∀h v,cE h x v=tP x v):Ok (Mine.i9 y x) (aw H y x):=SK.mono λr he A π s v cx hu hy hx=>k s.heap v▸have q:=he _ _ _ _ _ hy hx;⟨(q.1 A s).1,q.2.1⟩
theorem aw.flat(hk:okIn x=true):Ok (i9 y x) (aw H y x):=by
 induction x using AV.casesOn with
 |int i=>exact aw.of0 λ_ _=>rfl
 |str i=>exact aw.of0 λ_ _=>rfl
 |val i=>exact aw.of0 λ_ _=>rfl
 |tup i=>
  induction y using AV.casesOn with
  |val v=>exact Ok.bind (λ_ _=>trivial) λ_ _=>.none
  |_=>exact .none
 |_=>exact ff hk
theorem nK(hk:okIn x=true):DP H x=none:=by rcases x with ⟨⟩<;>first | rfl | exact ff hk
theorem u0(hk:okIn x=true):JD x=none:=by rcases x with ⟨⟩<;>first | rfl | exact ff hk
theorem aw.none{α:Type}{o:Ab α}:Ok (o.bind λ_=>(Ab.none:Ab Aa)) P:=Ok.bind (λ_ _=>trivial) λ_ _=>.none
theorem pH(hk:okIn x=true):Ok (m3 H y x) (aw H y x):=by
 induction y using AV.casesOn with
 |AS i=>unfold m3;rw[u0 hk];exact .none
 |lst i=>unfold m3;rw[nK hk];exact .none
 |loc i=>unfold m3;rw[nK hk];exact aw.none
 |tup xs=>
  exact Fw.bind λys e=>SM.mono λr he A π s v cx hu hy hx=>by
   subst e
   refine hy.tup.elim λl p=>p.elim λvs p=>hx.tup.elim λl' q=>q.elim λws q=>?_
   rw[p.1,q.1]
   have z:=(he _ _ _ _ _ p.2.2.2 q.2.2.2).2
   refine⟨?_,z.1.trans (by show _=nJ ys (YI s.heap l);rw[O2 p.2.1])⟩
   by_cases e:l=l'
   ·subst e
    rw[z.2 ((O2 p.2.1).symm.trans (O2 q.2.1))]
    exact EqAt.same _
   ·exact EqAt.of_refs e (he.tup p.2.1 q.2.1 p.2.2.2 q.2.2.2 hu).1
 |val i=>exact aw.flat (y:=.val i) hk
 |int i=>exact aw.flat (y:=.int i) hk
 |str i=>exact aw.flat (y:=.str i) hk
 |_=>exact .none
def InX(H:List AO)(x:AV)(ys:List AV)(r:Aa):Prop:=∀(A:AG)(π:Pl)(s:Aj)(vs:List Ad)(cx:Ad),A.units<cLine->Ag π H.length s.heap ys vs->As π H.length s.heap x cx->(∀v,v∈vs->EqAt A s v cx (cE s.heap x v))/\vs.any (cE s.heap x)=r
theorem pI(hk:okIn x=true):Ok (ja H x ys) (InX H x ys):=by
 induction ys with
 |nil=>exact .some λA π s vs cx hu hy hx=>by subst hy;exact⟨(λ_ q=>nomatch q),rfl⟩
 |cons y ys ih=>
  exact(pH hk).bind λp P=>ih.bind λq Q=>.some λA π s vs cx hu hy hx=>by
   refine AH hy λv hy=>hy.elim λws hy=>?_
   rw[hy.1]
   have p:=P A π s v cx hu hy.2.1 hx
   have q:=Q A π s ws cx hu hy.2.2 hx
   exact⟨λz hz=>(Bc.mp hz).elim (λe=>e▸p.2▸p.1) (q.1 z),by rw[Wd,q.2,<-p.2]⟩
abbrev In2(c:Cx)(d:Nat)(H:List AO)(x b:AV)(r:Aa):Prop:=CO c d H .In x b r/\CO c d H .NotIn x b (!r)
theorem A5.cl1(R:A5 d A):A.in1.units<cLine:=CE (AA (GW (by decide: 1<=40) _) (Ro (BG _ _) _)) R.units
theorem eE:Ok (yJ H x b) (In2 c d H x b):=
 .guard λhk=>Bs.bind λys p=>(pI hk).mono λr he=>by
  have main:∀(A:AG)(π:Pl)(s:Aj)(cx cb:Ad),A5 d A->Av c π H s->As π H.length s.heap x cx->As π H.length s.heap b cb->
    ∃l vs,cb=.ref l/\s.heap.IsList l vs/\(∀y,y∈vs->EqAt A.in1 s y cx (cE s.heap x y))/\vs.any (cE s.heap x)=r:=λA π s cx cb R G rx rb=>
   (p π s G cb rb).imp λl q=>q.imp λvs q=>have z:=he A.in1 π s vs.toList cx R.cl1 q.2.2 rx;⟨q.1,q.2.1,λv hv=>z.1 v (AE.mem_toList_iff.mpr hv),by rw[<-z.2];simp⟩
  exact⟨λA π s E cx cb R G rx rb=>(main A π s cx cb R G rx rb).elim λl q=>q.elim λvs q=>q.1▸q.2.2.2▸in_listAt _ q.2.1 q.2.2.1 ⟨.refl s,rfl⟩,
   λA π s E cx cb R G rx rb=>(main A π s cx cb R G rx rb).elim λl q=>q.elim λvs q=>q.1▸q.2.2.2▸notIn_listAt _ q.2.1 q.2.2.1 ⟨.refl s,rfl⟩⟩
theorem O3(a b:Ah)(x1 y1 x2 y2:Int)(t1 u1 t2 u2:Tok)(n n2:Nat)(dd uV:Ab Ah)(sl uW:AE (Ab Ad)):
  Meets (Bo.«tuple.__lt__» ⟨[.ref a,.ref b],[]⟩)
   (λA R s=>s.heap.get? a=some {cls:=.type "tuple",dict:=dd,data:=.seq #[.int x1 t1,.int y1 u1] n,slots:=sl}/\s.heap.get? b=some {cls:=.type "tuple",dict:=uV,data:=.seq #[.int x2 t2,.int y2 u2] n2,slots:=uW}/\
    R (.ok (.ret (.bool (decide (x1<x2)||(decide (x1=x2)&&decide (y1<y2)))))) s):=
 .of_wp λprog w A R s h=>by
  obtain ⟨hp,g,d,tk,os⟩:=s;obtain ⟨hl,hb,h⟩:=h
  have f2:=AutoSeq1.sub_tuple_tuple
  have q1:∀{A:AG}{E:EP}{Q:Aa->Aj->Prop},Q (x1==x2) ⟨hp,g,d,tk,os⟩->Ae (AW prog w) A (eqBool (.int x1 t1) (.int x2 t2)) Q E ⟨hp,g,d,tk,os⟩:=λhq=>EqAt.int_int x1 t1 x2 t2 prog w _ _ hq
  have q2:∀{A:AG}{E:EP}{Q:Aa->Aj->Prop},Q (y1==y2) ⟨hp,g,d,tk,os⟩->Ae (AW prog w) A (eqBool (.int y1 u1) (.int y2 u2)) Q E ⟨hp,g,d,tk,os⟩:=λhq=>EqAt.int_int y1 u1 y2 u2 prog w _ _ hq
  have q3:∀{A:AG}{E:EP}{Q:EP},Q (.bool (decide (x1<x2))) ⟨hp,g,d,tk,os⟩->Ae (AW prog w) A (richCompare .Lt (.int x1 t1) (.int x2 t2)) Q E ⟨hp,g,d,tk,os⟩:=λhq=>Ry hq
  have q4:∀{A:AG}{E:EP}{Q:EP},Q (.bool (decide (y1<y2))) ⟨hp,g,d,tk,os⟩->Ae (AW prog w) A (richCompare .Lt (.int y1 u1) (.int y2 u2)) Q E ⟨hp,g,d,tk,os⟩:=λhq=>Ry hq
  wp_walk using dw hl,dw hb,q1
  by_cases hx:x1=x2
  ·have e1:(x1==x2)=true:=by simpa using hx
   rw[e1]
   wp_walk using q2
   by_cases hy:y1=y2
   ·have e2:(y1==y2)=true:=by simpa using hy
    rw[e2]
    wp_walk
    subst hx hy
    exact⟨_,rfl,by simpa[Bo.Tuple.tupleCompareSizes] using h⟩
   ·have e2:(y1==y2)=false:=by simpa using hy
    rw[e2]
    wp_walk using q4
    subst hx
    exact⟨_,rfl,by simpa using h⟩
  ·have e1:(x1==x2)=false:=by simpa using hx
   rw[e1]
   wp_walk using q3
   exact⟨_,rfl,by simpa[hx] using h⟩
theorem Mu{b vs}(l:Ej h b vs):∃d n sl,h.get? b=some ⟨.type "tuple",d,.seq vs n,sl⟩:=
 AH l λo q=>q.2.2.elim λn e=>⟨o.dict,n,o.slots,by rw[q.1];rcases o with ⟨⟩;rcases q.2.1 with ⟨⟩;rcases e with ⟨⟩;rfl⟩
theorem eF(ha:Ej s.heap a #[.int x1 t1,.int y1 u1])(hb:Ej s.heap b #[.int x2 t2,.int y2 u2])(hu:A.units<cLine)
  (hq:Q (.bool (decide (x1<x2)||(decide (x1=x2)&&decide (y1<y2)))) s):Ae (AW prog w) A (Oo .Lt (.ref a) (.ref b)) Q E s:=
 (Mu ha).elim λdd x=>x.elim λn x=>x.elim λsl ho=>(Mu hb).elim λuV x=>x.elim λn2 x=>x.elim λuW nH=>
  richCompare_meets_room (op:=.Lt) ⟨_,ho,rfl⟩ ⟨_,nH,rfl⟩ F.slot_tuple_lt F.entry_tuple_lt (F.args_tuple_lt_2 _ _) (O3 a b x1 y1 x2 y2 t1 u1 t2 u2 n n2 dd uV sl uW)
   ⟨ho,nH,⟨(λx=>nomatch x),hq⟩⟩ hu
theorem O4:Ok (YA xs) λp=>xs=[.int p.1,.int p.2]:=Ms.bind λp e=>Bd.bind λx e1=>Bd.bind λy e2=>.some (by rw[e,e1,e2])
theorem Ag.ints2(r:Ag π n h [.int i,.int j] vs.toList):∃t u,vs = #[.int i t,.int j u]:=
 AH r λv r=>r.elim λws r=>r.2.1.int.elim λt e=>AH r.2.2 λw q=>q.elim λzs q=>q.2.1.int.elim λu e'=>⟨t,u,by rw[<-VR (xs:=vs),r.1,q.1,q.2.2,e,e']⟩
theorem IV:Ok (ltV a b) (CO c d H .Lt a b):=by
 induction a using AV.casesOn with
 |int x=>exact Bd.bind λy e=>.some (e▸CO.ltI)
 |tup xs=>
  exact O4.bind λp e=>Fw.bind λys e1=>O4.bind λq e2=>.some λA π s E ca cb R G ha hb=>by
   subst e1 e e2
   refine ha.tup.elim λl x=>x.elim λvs x=>hb.tup.elim λl' y=>y.elim λws y=>x.2.2.2.ints2.elim λt1 z=>z.elim λu1 z1=>y.2.2.2.ints2.elim λt2 z=>z.elim λu2 z2=>?_
   rw[x.1,y.1]
   exact eF (z1▸x.2.1) (z2▸y.2.1) R.cl ⟨.refl s,rfl⟩
 |_=>exact .none
theorem CO.ff(k:∀{A:AG}{s:Aj}{E:EP}{Q:EP}{t u:Tok},Q (.bool r) s->Ae c.m A (Oo op (.float x t) (.float y u)) Q E s):CO c d H op (.AS x) (.AS y) r:=
 λA π s E ca cb R G ha hb=>ha.AS.elim λt p=>hb.AS.elim λu q=>p▸q▸k ⟨.refl s,rfl⟩
theorem CO.fi(k:∀{A:AG}{s:Aj}{E:EP}{Q:EP}{t u:Tok},Q (.bool r) s->Ae c.m A (Oo op (.float x t) (.int y u)) Q E s):CO c d H op (.AS x) (.int y) r:=
 λA π s E ca cb R G ha hb=>ha.AS.elim λt p=>hb.int.elim λu q=>p▸q▸k ⟨.refl s,rfl⟩
theorem pJ:Ok (ltA a b) (CO c d H .Lt a b):=by
 induction a using AV.casesOn with
 |AS x=>induction b using AV.casesOn with
  |int y=>exact .some (.fi lt_fi)
  |AS y=>exact .some (.ff cU)
  |_=>exact .none
 |val v=>exact IV (a:=.val v)
 |int v=>exact IV (a:=.int v)
 |str v=>exact IV (a:=.str v)
 |tup v=>exact IV (a:=.tup v)
 |lst v=>exact IV (a:=.lst v)
 |loc v=>exact IV (a:=.loc v)
 |Gw x y z=>exact IV (a:=.Gw x y z)
 |BI v=>exact IV (a:=.BI v)
theorem pK:Ok (leA a b) (CO c d H .LtE a b):=by
 induction a using AV.casesOn with
 |AS x=>induction b using AV.casesOn with
  |int y=>exact .some (.fi le_fi)
  |AS y=>exact .some (.ff AutoFloatOps.le_0)
  |_=>exact .none
 |int x=>induction b using AV.casesOn with
  |int y=>exact .some CO.leI
  |AS y=>exact .some λA π s E ca cb R G ha hb=>ha.int.elim λt p=>hb.AS.elim λu q=>p▸q▸le_if ⟨.refl s,rfl⟩
  |_=>exact .none
 |_=>exact .none
theorem pL:Ok (gtA a b) (CO c d H .Gt a b):=by
 induction a using AV.casesOn with
 |AS x=>exact IQ.bind λy e=>.some (e▸.ff cT)
 |int x=>exact Bd.bind λy e=>.some (e▸CO.gtI)
 |_=>exact .none
theorem O5(h:Nu v=true):v=.none:=by rcases v with ⟨⟩<;>first | rfl | exact Mine.ff h
theorem pM(hb:isNone b=true):Ok (isA a) (CO c d H .Is a b):=by
 rcases QB hb with ⟨⟩
 induction a using AV.casesOn with
 |val v=>exact .guard λh=>.some (O5 h▸CO.jJ)
 |BI v=>exact .some (CO.isNone λπ n h cv r=>r.BI.elim λa q=>⟨(q.1▸rfl),q.1▸nofun⟩)
 |int v=>exact .some (CO.isNone λπ n h cv r=>r.int.elim λa q=>⟨(q▸rfl),q▸nofun⟩)
 |lst v=>exact .some (CO.isNone λπ n h cv r=>r.lst.elim λa q=>q.elim λ_ q=>⟨(q.1▸rfl),q.1▸nofun⟩)
 |_=>exact .none
theorem YJ(h:Ok o P)(k:∀r,P r->Q (!r)):Ok (dP o) Q:=h.bind λr p=>.some (k r p)
theorem YK:Ok (Gz op a b S) (CO c d S.H op a b):=by
 cases op with
 |Lt=>exact pJ
 |LtE=>exact pK
 |Gt=>exact pL
 |Eq=>exact eB.mono λ_ p=>p.1
 |NotEq=>exact YJ eB λ_ p=>p.2
 |Is=>exact .guard λh=>pM h
 |In=>exact eE.mono λ_ p=>p.1
 |NotIn=>exact YJ eE λ_ p=>p.2
 |_=>exact .none
end
end
section
open PySem.Spec PySem.Calls
section
variable{c:Cx}{lo:Lo}
theorem Bt.pure
  (h:∀(A:AG)(env:Env)(π:Pl)(s:Aj)(E:EP),A5 d A->Bu π H.length fr env->Av c π H s->Br c π H.length s.heap env.locals lo->
   Ae c.m A (eval e env) (λcv s'=>Kp no s s'/\As π H.length s'.heap v cv) E s):Bt c d fr lo H e v H:=
 λA env π s E R F G L=>AJ (h A env π s E R F G L) (λcv s' h'=>⟨π,.pure G h'.1,h'.2⟩) λ_ _ x=>x
theorem Nw(h:W6 x=false):(x==("__debug__" :Str))=false/\(x==("__class__" :Str))=false/\(x==("__classdict__" :Str))=false:=by
 unfold W6 at h
 rw[SJ] at h
 simp only[cu,List.contains_nil,VW,NQ] at h
 exact h
theorem Bu.kd(F:Bu π n fr env):env.scope.kind=.function:=F.scope▸F.kind
theorem Bu.kindOf(F:Bu π n fr env)(h:fr.scope.names.lookup x=some k):env.kindOf x=some k:=by unfold Sg;rw[F.scope];exact h
theorem O6(h:CX fr x=some k):fr.scope.names.lookup x=some k:=(D8 ..).symm.trans h
theorem Ns.pN{h:Ay}{a m}(hn:h.Ns a m):∃o,h.get? a=some o/\∀vs,o.data≠.fields vs:=AH hn λo q=>q.elim λes q=>q.elim λep q=>⟨o,q.1,Fz q.2.1⟩
theorem Ns.up(G:Av c π H s){a m}(hn:c.B.heap.Ns a m):s.heap.Ns a m:=
 (Ns.pN hn).elim λo q=>hn.at' λo' e=>G.base.keep _ o' id (c.tabs.Mq e (AQ (q.1.symm.trans e)▸q.2)) e
theorem Glob.up(G:Av c π H s)(h:Glob c.B.heap x v):Glob s.heap x v:=
 h.imp λ_ q=>q.imp λ_ q=>⟨Ns.up G q.1,Ns.up G q.2.1,q.2.2⟩
theorem KP(hk:env.scope.kind=.function)(hx:env.kindOf x=some .globalImplicit)(hg:env.globals=DN)(hb:env.builtins=C4)(G:Glob s.heap x v)
  (hd:(x==("__debug__" :Str))=false)(q:Q v s):Ae c.m A (eval (.Name x p) env) Q E s:=
 AH G λmg G=>G.elim λmb G=>Name_function_global hk hx (G.2.2.elim (λh3=>loadGlobal_global (hg▸G.1) h3 q) λh3=>loadGlobal_builtin (hg▸G.1) h3.1 (hb▸G.2.1) h3.2 q) hd
theorem O7{s:Aj}(R:Br c π n s.heap L lo)(h:lo.lookup x=some v):∃m cv,s.heap.Ns L m/\m x=some cv/\As π n s.heap v cv:=R.ns.elim λm q=>(q.2 x v h).imp' (λ_=>m) λcv r=>⟨cv,q.1,r.1,r.2⟩
theorem Ji{m}(hk:env.scope.kind=.function)(hx:env.kindOf x=some .local)(hn:s.heap.Ns env.locals m)(hm:m x=some v)
  (hd:(x==("__debug__" :Str))=false)(q:Q v s):Ae c.m A (eval (.Name x p) env) Q E s:=wpAny_Name (Wv hk hx hn hm q) hd
theorem Ud:Ok (dQ fr S x) λv=>∃l,fr.cells.lookup x=some l/\S.H[l]?=some (.cell (some v)):=
 Ok.self.bind λl hl=>cellAt.bind λo ho=>Ok.self.mono λv hv=>⟨l,(D8 ..).symm.trans hl,hv▸ho⟩
theorem Ue{S:St}(hcl:(x==("__class__" :Str))=false)(h:∃l,fr.cells.lookup x=some l/\S.H[l]?=some (.cell (some v)))(F:Bu π S.H.length fr env)(G:Av c π S.H s):
  ∃a o cv,env.cells.lookup x=some a/\s.heap.get? a=some o/\o.data=.cell (some cv)/\As π S.H.length s.heap v cv:=
 h.elim λl h=>(G.objs l _ h.2).elim λcv q=>q.2.elim λw r=>⟨_,_,w,(F.cells x hcl).trans (Ai (Ab.map π.at') h.1),q.1,by rw[r.1],r.2⟩
theorem IW{x:Str}{S:St}:Ok (nameA fr lo S x) λv=>Bt c d fr lo S.H (.Name x p) v S.H:=by
 refine .guard λhb=>Ok.self.bind λk hk=>?_
 have hd:=Nw (HN hb)
 have hk:=O6 hk
 cases k with
 | «local» =>exact Ok.self.mono λv h=>.pure λA env π s E R F G L=>(O7 L ((D8 ..).symm.trans h)).elim λm q=>q.elim λcv q=>Ji F.kd (F.kindOf hk) q.1 q.2.1 hd.1 ⟨.refl s,q.2.2⟩
 |cell=>exact Ud.mono λv h=>.pure λA env π s E R F G L=>(Ue hd.2.1 h F G).elim λa q=>q.elim λo q=>q.elim λcv q=>wpAny_Name (wpAny_loadName_cell F.kd (F.kindOf hk) q.1 ⟨_,q.2.1,q.2.2.1⟩ ⟨.refl s,q.2.2.2⟩) hd.1
 |free=>exact Ud.mono λv h=>.pure λA env π s E R F G L=>(Ue hd.2.1 h F G).elim λa q=>q.elim λo q=>q.elim λcv q=>wpAny_Name (wpAny_loadName_free F.kd (F.kindOf hk) q.1 ⟨_,q.2.1,q.2.2.1⟩ ⟨.refl s,q.2.2.2⟩ hd.2.2) hd.1
 |globalExplicit=>exact .none
 |globalImplicit=>exact Ok.self.bind λv h=>.some (.pure λA env π s E R F G L=>KP F.kd (F.kindOf hk) F.glob F.bi (.up G (c.gt x v h)) hd.1 ⟨.refl s,rfl⟩)
theorem GC:Ok (d9 v) λa=>Bt c d fr lo H (.Constant v k p) a H:=by
 cases v with
 |int i=>exact .some (.pure λA env π s E _ _ _ _=>wpAny_Constant_int ⟨.toks,_,rfl⟩)
 |str x=>exact .some (.pure λA env π s E _ _ _ _ Γ p' _=>⟨.toks,_,rfl⟩)
 |float x=>exact .some (.pure λA env π s E _ _ _ _ Γ p' _=>⟨.toks,_,rfl⟩)
 |bool x=>exact .some (.pure λA env π s E _ _ _ _ Γ p' _=>⟨.refl s,rfl⟩)
 |none=>exact .some (.pure λA env π s E _ _ _ _ Γ p' _=>⟨.refl s,rfl⟩)
 |_=>exact .none
theorem Bt.use(h:Bt c d fr lo H e a H1)(R:A5 d A)(F:Bu π H.length fr env)(G:Av c π H s)
  (L:Br c π H.length s.heap env.locals lo)
  (k:∀cv s₁ π₁,PG c fr.wr none π H s H1 π₁ s₁->Bu π₁ H1.length fr env->Br c π₁ H1.length s₁.heap env.locals lo->As π₁ H1.length s₁.heap a cv->Q cv s₁):
  Ae c.m A (eval e env) Q E s:=
 AJ (h A env π s E R F G L) (λcv s₁ ⟨π₁,P,r⟩=>k cv s₁ π₁ P (P.fr F) (L.pg P G) r) λ_ _ x=>x
theorem Jv.use(h:Jv c d fr lo H e b H1)(R:A5 d A)(F:Bu π H.length fr env)(G:Av c π H s)
  (L:Br c π H.length s.heap env.locals lo)
  (k:∀s₁ π₁,PG c fr.wr none π H s H1 π₁ s₁->Bu π₁ H1.length fr env->Br c π₁ H1.length s₁.heap env.locals lo->Q b s₁):
  Ae c.m A (RP e env (eval e env)) Q E s:=
 AJ (h A env π s E R F G L) (λb' s₁ ⟨π₁,P,r⟩=>r▸k s₁ π₁ P (P.fr F) (L.pg P G)) λ_ _ x=>x
theorem Bt.bin(hl:Bt c d fr lo H l a H1)(hr:Bt c d fr lo H1 r b H2)(ho:C1 c d H2 op a b v):Bt c d fr lo H (.BinOp l op r p) v H2:=by
 intro A env π s E R F G L
 refine wpAny_BinOp (hl.use R F G L λca s₁ π₁ P₁ F₁ L₁ r₁=>?_)
 refine hr.use R F₁ P₁.g L₁ λcb s₂ π₂ P₂ F₂ L₂ r₂=>?_
 refine AJ (ho A π₂ s₂ E ca cb R P₂.g (r₁.pg P₂ P₁.g) r₂) (λcv s₃ h₃=>?_) λ_ _ e=>e
 exact⟨π₂,(P₁.trans P₂).DT h₃.1,h₃.2⟩
theorem Bt.cmp(hl:Bt c d fr lo H l a H1)(hr:Bt c d fr lo H1 r b H2)(ho:CO c d H2 op a b v)(hm:Oh op r=false):
  Bt c d fr lo H (.Compare l [op] [r] p) (.bool v) H2:=by
 intro A env π s E R F G L
 refine wpAny_Compare1 (hl.use R F G L λca s₁ π₁ P₁ F₁ L₁ r₁=>?_) hm
 refine hr.use R F₁ P₁.g L₁ λcb s₂ π₂ P₂ F₂ L₂ r₂=>?_
 refine AJ (ho A π₂ s₂ E ca cb R P₂.g (r₁.pg P₂ P₁.g) r₂) (λcv s₃ h₃=>?_) λ_ _ e=>e
 exact⟨π₂,(P₁.trans P₂).DT h₃.1,h₃.2⟩
theorem Jv.cmp(hl:Bt c d fr lo H l a H1)(hr:Bt c d fr lo H1 r b H2)(ho:CO c d H2 op a b v)(hm:Oh op r=false):
  Jv c d fr lo H (.Compare l [op] [r] p) v H2:=by
 intro A env π s E R F G L
 refine wpAny_isTrue_Compare1 (hl.use R F G L λca s₁ π₁ P₁ F₁ L₁ r₁=>?_) hm
 refine hr.use R F₁ P₁.g L₁ λcb s₂ π₂ P₂ F₂ L₂ r₂=>?_
 refine AJ (ho A π₂ s₂ E ca cb R P₂.g (r₁.pg P₂ P₁.g) r₂) (λcv s₃ h₃=>?_) λ_ _ e=>e
 obtain ⟨k,rfl⟩:=h₃
 exact RD ⟨π₂,(P₁.trans P₂).DT k,rfl⟩
theorem Jv.not(he:Jv c d fr lo H e b H1):Jv c d fr lo H (.UnaryOp .Not e p) (!b) H1:=by
 intro A env π s E R F G L
 rw[arm_isTrue_UnaryOp]
 exact Ac (he.use R F G L λs₁ π₁ P₁ F₁ L₁=>An ⟨π₁,P₁,rfl⟩)
theorem Bt.ite(ht:Jv c d fr lo H t z H1)(ha:Bt c d fr lo H1 (cond z a b) v H2):Bt c d fr lo H (.IfExp t a b p) v H2:=by
 intro A env π s E R F G L
 rw[arm_eval_IfExp]
 refine Ac (ht.use R F G L λs₁ π₁ P₁ F₁ L₁=>?_)
 rcases z with ⟨⟩<;>exact ha.use R F₁ P₁.g L₁ λcv s₂ π₂ P₂ F₂ L₂ r₂=>⟨π₂,P₁.trans P₂,r₂⟩
theorem Jv.pO:Jv c d fr lo H (.BoolOp .And [] p) true H:=by
 intro A env π s E R F G L;rw[LS,arm_allTrue_nil];exact An ⟨π,.refl G,rfl⟩
theorem Jv.u3:Jv c d fr lo H (.BoolOp .Or [] p) false H:=by
 intro A env π s E R F G L;rw[LS,arm_allTrue_nil];exact An ⟨π,.refl G,rfl⟩
theorem Jv.Aag(he:Jv c d fr lo H e false H1):Jv c d fr lo H (.BoolOp .And (e::r) p) false H1:=by
 intro A env π s E R F G L
 rw[LS,WB]
 exact Ac (he.use R F G L λs₁ π₁ P₁ F₁ L₁=>An ⟨π₁,P₁,rfl⟩)
theorem Jv.YL(he:Jv c d fr lo H e true H1):Jv c d fr lo H (.BoolOp .Or (e::r) p) true H1:=by
 intro A env π s E R F G L
 rw[LS,WB]
 exact Ac (he.use R F G L λs₁ π₁ P₁ F₁ L₁=>An ⟨π₁,P₁,rfl⟩)
theorem Jv.u4(hz:z=(match op with | .And=>true | .Or=>false))(he:Jv c d fr lo H e z H1)(hr:Jv c d fr lo H1 (.BoolOp op r p) b H2):Jv c d fr lo H (.BoolOp op (e::r) p) b H2:=by
 intro A env π s E R F G L
 rw[LS,WB]
 refine Ac (he.use R F G L λs₁ π₁ P₁ F₁ L₁=>?_)
 have:=hr A env π₁ s₁ E R F₁ P₁.g L₁
 rw[LS] at this
 subst hz
 rcases op with ⟨⟩<;>exact AJ this (λcv s₂ h=>h.imp λπ₂ h₂=>⟨P₁.trans h₂.1,h₂.2⟩) λ_ _ e=>e
theorem Bt.YM(hz:z=(match op with | .And=>true | .Or=>false))(ha:Bt c d fr lo H a (.bool x) H1)(hb:x=z->Bt c d fr lo H1 b v H2)(hs:x≠z->v=.bool x/\H2=H1):
  Bt c d fr lo H (.BoolOp op [a,b] p) v H2:=by
 intro A env π s E R F G L
 rw[arm_eval_BoolOp,arm_evalEach_cons,arm_evalEach_cons,arm_evalEach_nil]
 refine Ac (ha.use R F G L λca s₁ π₁ P₁ F₁ L₁ r₁=>?_)
 rcases r₁.val with ⟨⟩
 refine Ac (DM (Ac (BF (RD ?_))))
 have go:x=z->Ae c.m A (eval b env) (FV c fr.wr π H s v H2) E s₁:=λq=>(hb q).use R F₁ P₁.g L₁ λcv s₂ π₂ P₂ F₂ L₂ r₂=>⟨π₂,P₁.trans P₂,r₂⟩
 have stop:x≠z->FV c fr.wr π H s v H2 (.bool x) s₁:=λq=>by rw[(hs q).1,(hs q).2];exact⟨π₁,P₁,rfl⟩
 subst hz
 rcases op with ⟨⟩<;>rcases x with ⟨⟩<;>first | exact go rfl | exact An (stop nofun)
theorem Bt.neg(he:Bt c d fr lo H e (.int i) H1):Bt c d fr lo H (.UnaryOp .USub e p) (.int (-i)) H1:=by
 intro A env π s E R F G L
 rw[arm_eval_UnaryOp]
 refine Ac (he.use R F G L λca s₁ π₁ P₁ F₁ L₁ r₁=>Ac (DM (BF ?_)))
 obtain ⟨t,rfl⟩:=r₁.int
 refine PyProof.Rows.neg_int ⟨π₁,P₁.DT .toks,.mkInt⟩
theorem IT.nil:IT c d fr lo H [] [] H:=by
 intro A env π s E R F G L
 exact Mk ⟨π,.refl G,.nil⟩
theorem IT.cons(he:Bt c d fr lo H e v H1)(hes:IT c d fr lo H1 es vs H2):IT c d fr lo H (e::es) (v::vs) H2:=by
 intro A env π s E R F G L
 refine IB (he.use R F G L λcv s₁ π₁ P₁ F₁ L₁ r₁=>?_)
 refine AJ (hes A env π₁ s₁ E R F₁ P₁.g L₁) (λcvs s₂ ⟨π₂,P₂,r₂⟩=>?_) λ_ _ e=>e
 exact⟨π₂,P₁.trans P₂,.cons (r₁.pg P₂ P₁.g) r₂⟩
end
section
variable{lo:Lo}
def D9(es:List Expr):Prop:=∀env pos,J4 pos (G4 es env)=es.map λe=>(false,eval e env)
theorem Qh(e:Expr)(es:List Expr)(env:Env)(h:T4 22 e=false):G4 (e::es) env=(false,eval e env)::G4 es env:=by
 rcases e with ⟨⟩<;>first | rfl | exact ff (h.symm▸rfl)
theorem BM(h:noStar n es=true):D9 es/\es.length<=n:=by
 refine⟨λenv pos=>?_,Bm (Ax h)⟩
 replace h:(es.all λe => !T4 22 e)=true:=Am h
 induction es with
 |nil=>rfl
 |cons e es ih=>
  have h:=h
  rw[Qh e es env (HN (Ax h))]
  exact Ai ((false,eval e env) :: ·) (ih (Am h))
theorem Bt.list(h:IT c d fr lo H es vs H1)(hst:D9 es)(hsz:vs.length<=BY):Bt c d fr lo H (.List es p) (.lst vs) H1:=by
 intro A env π s E R F G L
 have hh:=h A env π s E R F G L
 rw[<-hst env p] at hh
 exact List_ (AJ hh (λcvs s₁ h=>h.elim λπ₁ q=>Oi ⟨π₁,q.1.DT (.BU _),As.newList q.1.g q.2⟩ (q.2.length.symm▸hsz)) λ_ _ e=>e)
theorem Bt.tuple(h:IT c d fr lo H es vs H1)(hst:D9 es)(hsz:vs.length<=BY):Bt c d fr lo H (.Tuple es k p) (.tup vs) H1:=by
 intro A env π s E R F G L
 have hh:=h A env π s E R F G L
 rw[<-hst env p] at hh
 exact Tuple_ (AJ hh (λcvs s₁ h=>h.elim λπ₁ q=>LV ⟨π₁,q.1.DT (.BU _),As.newTuple q.1.g q.2⟩ (q.2.length.symm▸hsz)) λ_ _ e=>e)
def Km(c:Cx)(d:Nat)(H:List AO)(a i r:AV):Prop:=
 ∀(A:AG)(π:Pl)(s:Aj)(E:EP)(ca ci:Ad)(value slice:Expr),A5 d A->Av c π H s->As π H.length s.heap a ca->As π H.length s.heap i ci->
  (∀o i,Oj slice false o i=operate [o,i] (Md o i))->Ae c.m A (Ws value slice ca ci) (λcv s'=>Kp no s s'/\As π H.length s'.heap r cv) E s
theorem Bt.sub(he:Bt c d fr lo H e a H1)(hi:Bt c d fr lo H1 i k H2)(hs:Km c d H2 a k r)(hsl:∀o x,Oj i false o x=operate [o,x] (Md o x)):
  Bt c d fr lo H (.Subscript e i p) r H2:=by
 intro A env π s E R F G L
 refine Subscript_ (he.use R F G L λca s₁ π₁ P₁ F₁ L₁ r₁=>hi.use R F₁ P₁.g L₁ λci s₂ π₂ P₂ F₂ L₂ r₂=>?_)
 exact AJ (hs A π₂ s₂ E ca ci e i R P₂.g (r₁.pg P₂ P₁.g) r₂ hsl) (λcv s₃ h₃=>⟨π₂,(P₁.trans P₂).DT h₃.1,h₃.2⟩) λ_ _ e=>e
set_option tactic.hygienic true in
theorem eG{i:Int}{n j:Nat}(h:(if (decide (0<=i)&&decide (i<n))=true then some i.toNat else none)=some j): 0<=i/\i<n/\i.toNat=j:=by
 split at h
 ·rename_i hc;exact⟨Bi (Ax hc),Bi (Am hc),AQ h⟩
 ·rcases h with ⟨⟩
theorem IX{k:Int}(h:Cp k n=some j)(hn:n<2^20):(-(2^63)<=k/\k<2^63)/\(0<=k->k.toNat=j):=by
 by_cases hk:k<0
 ·have h:=eG (by unfold Cp at h;rw[Bh hk] at h;exact h)
  exact(pw [.t .p (.k (2^20)),.a (.L (.j 0) (.A .p (.n .p))) (.a (.T (.A .p (.n .p)) (.n .p)) (.e (.d (.A .p (.n .p))) .q))] (.a (.a (.L (.g (.j (2^63))) .p) (.T .p (.j (2^63)))) (.i (.L (.j 0) .p) (.e (.d .p) .q))) [_] [_,_]) hn h
 ·have h:=eG (by unfold Cp at h;rw[AD hk] at h;exact h)
  exact(pw [.t .p (.k (2^20)),.a (.L (.j 0) .p) (.a (.T .p (.n .p)) (.e (.d .p) .q))] (.a (.a (.L (.g (.j (2^63))) .p) (.T .p (.j (2^63)))) (.i (.L (.j 0) .p) (.e (.d .p) .q))) [_] [_,_]) hn h
theorem jR(h:n<100000):n<2^20:=EH h ⋯
theorem Km.list(ha:Jw c H a xs)(hsz:xs.length<100000)(hj:Cp k xs.length=some j)(hx:xs[j]?=some r):Km c d H a (.int k) r:=by
 intro A π s E ca ci value slice R G ra ri hsl
 refine(ha π s G ca ra).elim λb q=>q.elim λvs q=>ri.int.elim λt ht=>(q.2.2.get hx).elim λv hv=>?_
 rw[q.1,ht]
 have h:=IX hj (jR hsz)
 refine(Sj.em (0<=k)).elim (λh0=>Ie q.2.1.typeIs LR.lookup (wpAny_getItem_list q.2.1 h0 h.1.2 (by rw[h.2 h0];simpa using hv.1) ⟨.refl s,hv.2⟩) (hsl _ _)) λh0=>?_
 have h0:=Fd.mp h0
 exact Ie q.2.1.typeIs LR.lookup (kde_getNeg q.2.1 h0 h.1.1 (q.2.2.length.symm▸hj) hv.1 ⟨.refl s,hv.2⟩) (hsl _ _)
theorem Km.tup(hsz:xs.length<100000)(hj:Cp k xs.length=some j)(hx:xs[j]?=some r):Km c d H (.tup xs) (.int k) r:=by
 intro A π s E ca ci value slice R G ra ri hsl
 refine ra.tup.elim λb q=>q.elim λvs q=>ri.int.elim λt ht=>(q.2.2.2.get hx).elim λv hv=>?_
 rw[q.1,ht]
 have h:=IX hj (jR hsz)
 exact Ie q.2.1.typeIs slot_tuple_getitem.lookup (PyProof.Rows.getItem_tuple q.2.1 h.1.1 h.1.2 (q.2.2.2.size.symm▸hj) (by simpa using hv.1) ⟨.refl s,hv.2⟩) (hsl _ _)
theorem Km.str(hsz:CI x<2^20)(hj:(Cp k (CI x)).bind (x.cps[·]?)=some ch):Km c d H (.str x) (.int k) (.str ⟨#[ch]⟩):=by
 intro A π s E ca ci value slice R G ra ri hsl
 refine ra.str.elim λt ht=>ri.int.elim λu hu=>?_
 rw[ht,hu]
 have h: -(2^63)<=k/\k<2^63:=by
  cases e:Cp k (CI x) with
  |none=>rw[e] at hj;cases hj
  |some j=>exact(IX e hsz).1
 exact Ie (J1 s x t) F.slot_str_getitem.lookup (PySem.P.getItem_str (by rw[Ct (DD.mpr h.1),Ct (Fd.mpr h.2)];rfl) hj ⟨.toks,.mkStr⟩) (hsl _ _)
def eH(c:Cx):Prop:=∀(d:Nat)(H:List AO)(l dd:Nat)(xs:List AV)(k:Int)(j:Nat)(r:AV),H[l]?=some (.acc dd xs)->xs.length<100000->Cp k xs.length=some j->xs[j]?=some r->Km c d H (.loc l) (.int k) r
theorem Km.of{xs:List AV}(h:∀j r,Cp k xs.length=some j->xs[j]?=some r->xs.length<100000->Km c d H a (.int k) r):
  Ok (Af (decide (xs.length<100000)) ((Cp k xs.length).bind (xs[·]?))) (Km c d H a (.int k)):=.guard λq=>Ok.self.bind λj hj=>Ok.self.mono λr hr=>h j r hj hr (Bi q)
theorem jS(acc:eH c){a i:AV}:Ok (IH S a i) (Km c d S.H a i):=by
 refine Bd.bind λk e=>e▸?_
 induction a using AV.casesOn with
 |str x=>exact .guard λh=>Ok.self.bind λch hc=>.some (.str (Bi h) hc)
 |tup xs=>exact Ok.bind (.some rfl) λys e=>e▸Km.of λj r hj hr h=>.tup h hj hr
 |lst xs=>exact(Bs (a:=.lst xs)).bind λys p=>Km.of λj r hj hr h=>.list p h hj hr
 |loc l=>exact Ok.bind (P:=λys=>Jw c S.H (.loc l) ys\/∃dd,S.H[l]?=some (.acc dd ys)) (Ok.self.bind λo e=>by
   induction o using AO.casesOn with
   |list xs=>exact .some (.inl (Bs xs (by show(S.H[l]?).bind CW=_;rw[e];rfl)))
   |acc dd xs=>exact .some (.inr ⟨dd,e⟩)
   |_=>exact .none) λys p=>Km.of λj r hj hr h=>p.elim (λp=>.list p h hj hr) λp=>p.elim λdd p=>acc d S.H l dd _ k j r p h hj hr
 |_=>exact .none
def DR(c:Cx)(d:Nat)(fr:FD)(lo:Lo)(H:List AO)(e:Ab Expr)(k:Ab Int)(H':List AO):Prop:=match e with
 |none=>k=none/\H'=H
 |some e=>∃i,k=some i/\Bt c d fr lo H e (.int i) H'
theorem DR.use(h:DR c d fr lo H e k H1)(R:A5 d A)(F:Bu π H.length fr env)(G:Av c π H s)
  (L:Br c π H.length s.heap env.locals lo)
  (q:∀s₁ π₁ pt,PG c fr.wr none π H s H1 π₁ s₁->Bu π₁ H1.length fr env->Br c π₁ H1.length s₁.heap env.locals lo->IsPart (CU pt) k->pt.map (·.1)=k->Q (CU pt) s₁):
  Ae c.m A (evalPart e env) Q E s:=by
 induction e using BL with
 |none=>rw[h.1] at q;rw[h.2] at q;exact An (q s π none (.refl G) F L .none rfl)
 |some e=>exact AH h λi h=>Bt.use h.2 R F G L λcv s₁ π₁ P₁ F₁ L₁ r₁=>r₁.int.elim λt ht=>ht▸q s₁ π₁ (some (i,t)) P₁ F₁ L₁ (h.1▸.int i t) h.1.symm
theorem Ug(vs:AE Ad)(l u:Ab Int):RX vs l u none=(OQ vs.toList l u).toArray:=slicePick_plain vs l u
theorem Ag.cut{π n h}(r:Ag π n h xs vs)(l u:Ab Int):Ag π n h (OQ xs l u) (OQ vs l u):=by
 unfold OQ
 rw[r.length]
 exact(r.drop _).take _
noncomputable abbrev Dc(l u:Ad):Obj:={cls:=.type "slice",data:=.fields #[l,u,.none]}
theorem Bt.slice(he:Bt c d fr lo H e a H1)(hl:DR c d fr lo H1 lower l H2)(hu:DR c d fr lo H2 upper u H3)
  (k:∀(A:AG)(π:Pl)(s:Aj)(E:EP)(ca:Ad)(pl pu:Ab (Int×Tok)),A5 d A->Av c π H3 s->As π H3.length s.heap a ca->IsPart (CU pl) l->IsPart (CU pu) u->pl.map (·.1)=l->pu.map (·.1)=u->
   Ae c.m A (Ws e (.Slice lower upper none p) ca (.ref s.heap.objs.size)) (λcv s'=>Kp no s s'/\As π H3.length s'.heap v cv) E {s with heap:=s.heap.push (Dc (CU pl) (CU pu))}):
  Bt c d fr lo H (.Subscript e (.Slice lower upper none p) q) v H3:=by
 intro A env π s E R F G L
 rw[eval_Subscript]
 refine Ac (he.use R F G L λca s₁ π₁ P₁ F₁ L₁ r₁=>?_)
 refine Ac (BF (wpAny_Slice (hl.use R F₁ P₁.g L₁ λs₂ π₂ pl P₂ F₂ L₂ hpl u5=>hu.use R F₂ P₂.g L₂ λs₃ π₃ pu P₃ F₃ L₃ pP Aah=>?_)))
 rw[WJ]
 exact An (Ac (DM (AJ (k A π₃ s₃ E ca pl pu R P₃.g ((r₁.pg P₂ P₁.g).pg P₃ P₂.g) hpl pP u5 Aah) (λcv s' h=>⟨π₃,((P₁.trans P₂).trans P₃).DT h.1,h.2⟩) λ_ _ x=>x)))
theorem size_le(h:n<100000)(e:m=n):m<=BY:=e▸AA (DX h) ⋯
theorem Bt.eI(he:Bt c d fr lo H e a H1)(hl:DR c d fr lo H1 lower l H2)(hu:DR c d fr lo H2 upper u H3)
  (ha:Jw c H3 a xs)(hsz:xs.length<100000):Bt c d fr lo H (.Subscript e (.Slice lower upper none p) q) (.lst (OQ xs l u)) H3:=
 he.slice hl hu λA π s E ca pl pu R G r hpl pP _ _=>(ha π s G ca r).elim λb q=>q.elim λvs q=>q.1.symm▸(by
  refine Ie ((q.2.1.push _).typeIs) LR.lookup (cL (q.2.1.push _) (WS.new ..) hpl pP .none (by simp) ⟨(Kp.BU _).trans (.BU _),?_⟩ (size_le hsz q.2.2.size)) rfl
  rw[Ug]
  exact As.newList (G.DT (Kp.BU (Dc (CU pl) (CU pu)))) ((q.2.2.push _).cut l u))
theorem Uh(x:Str)(l u:Ab Int)(h:CI x<2^20):(Oz x l u).length<=BY:=AA (Txt.slice_le x l u) (AA (DX h) ⋯)
theorem jT(x:Str)(t:Tok)(l u:Ab (Int×Tok)):(sliceMade x t l u none=.val (.str x t)/\Oz x (l.map (·.1)) (u.map (·.1))=x)\/sliceMade x t l u none=.str (Oz x (l.map (·.1)) (u.map (·.1))):=by
 by_cases hc:((1:Int)==1&&(Bo.Str.strSliceIndices (l.map (·.1)) (u.map (·.1)) 1 x.length).length==x.length)=true
 ·exact .inl ⟨Bh hc,Bh hc⟩
 ·exact .inr ((AD hc).trans (Ai Made.str (AD hc).symm))
theorem Bt.pQ(he:Bt c d fr lo H e (.str x) H1)(hl:DR c d fr lo H1 lower l H2)(hu:DR c d fr lo H2 upper u H3)
  (hsz:CI x<2^20):Bt c d fr lo H (.Subscript e (.Slice lower upper none p) q) (.str (Oz x l u)) H3:=
 he.slice hl hu λA π s E ca pl pu R G r hpl pP el eu=>r.str.elim λt ht=>ht.symm▸el▸eu▸(by
  refine Ie (J1 _ x t) PySem.F.slot_str_getitem.lookup (wpAny_getItem_str_slice (st:=none) ⟨_,Bp _ rfl,rfl,rfl⟩ rfl ?_) rfl
  have hx:=Uh x (pl.map (·.1)) (pu.map (·.1)) hsz
  exact(jT x t pl pu).elim (λm=>by rw[m.1,m.2];exact⟨.BU _,.mkStr⟩) λm=>by rw[m];exact⟨hx,.push _,.mkStr⟩)
theorem Bt.pR(he:Bt c d fr lo H e (.tup xs) H1)(hl:DR c d fr lo H1 lower (some i) H2)
  (h1: 1<=i)(hi:i<=xs.length)(hsz:xs.length<100000):Bt c d fr lo H (.Subscript e (.Slice lower none none p) q) (.tup (xs.drop i.toNat)) H2:=
 he.slice hl ⟨rfl,rfl⟩ λA π s E ca pl pu R G r hpl pP el eu=>r.tup.elim λb q=>q.elim λvs q=>q.1.symm▸(by
  induction pl using BL with
  |none=>cases el
  |some z=>
  induction pu using BL with
  |some z=>cases eu
  |none=>
  cases el
  have yH:=Q5 (BA ⋯ h1)
  have ej:CU (some z)=.int (z.1.toNat:Nat) z.2:=by rw[yH];rfl
  have t:Ej (s.heap.push (Dc (CU (some z)) .none)) b vs:=q.2.1.keeps λ_ _ e=>B6 _ e
  refine Ie t.typeIs slot_tuple_getitem.lookup (getItem_tuple_from t (by rw[<-ej];exact WS.new ..) (DL.mp (yH.symm▸h1)) (DL.mp (by rw[yH,q.2.2.2.size];exact hi)) ⟨(Kp.BU _).trans (.BU _),?_⟩ (size_le hsz q.2.2.2.size)) rfl
  exact As.newTuple (G.DT (Kp.BU (Dc (CU (some z)) .none))) ((q.2.2.2.push _).drop _))
end
section
variable{c:Cx}{lo Bv BK:Lo}
theorem Ns.obj{h:Ay}{m}(hn:h.Ns a m):∃o es k,h.get? a=some o/\o.data=.dict es k:=AH hn λo q=>q.elim λes q=>q.elim λep q=>⟨o,es,ep,q.1,q.2.1⟩
theorem YN(x:Str)(v:AV)(y:Str)(l:Lo):(Sv x v l).lookup y=cond (y==x) (some v) (l.lookup y):=by
 induction l with
 |nil=>show C2 y [(x,v)]=_;rw[Dk];cases y==x<;>rfl
 |cons p r ih=>
  show C2 y (cond (sEq x p.1) ((p.1,v)::r) (p::Sv x v r))=_
  cases e:sEq x p.1 with
  |true=>rw[BC e];show C2 y ((p.1,v)::r)=cond _ _ (C2 y ((p.1,p.2)::r));rw[Dk,Dk];cases y==p.1<;>rfl
  |false=>
   show C2 y ((p.1,p.2)::Sv x v r)=cond _ _ (C2 y ((p.1,p.2)::r))
   rw[Dk,Dk,ih]
   cases e1:y==p.1 with
   |true=>rw[show(y==x)=false from Gx.mpr λq=>by rw[Mt,<-eq_of_beq q,e1] at e;cases e];rfl
   |false=>rfl
def FA(c:Cx)(d:Nat)(fr:FD)(lo:Lo)(H:List AO)(x:Str)(v:AV)(Bv:Lo)(H':List AO):Prop:=
 ∀(A:AG)(env:Env)(π:Pl)(s:Aj)(E:EP)(cv:Ad),A5 d A->Bu π H.length fr env->Av c π H s->Br c π H.length s.heap env.locals lo->As π H.length s.heap v cv->
  Ae c.m A (Im env x cv) (λ_ s'=>PG c fr.wr (some env.locals) π H s H' π s'/\Br c π H'.length s'.heap env.locals Bv/\H'.length=H.length) E s
theorem PG.chg(K:Kp (λb=>b=a) s s')(hX:L=some a\/π.M a)(hthere:∃o,s'.heap.get? a=some o)(G':Av c π H' s')(hlen:H'.length=H.length)(hold:∀l,l<wr->H'[l]?=H[l]?)
  (hsame:∀b,π.M b->(∀l,wr<=l->l<H.length->π.at' l≠b)->b≠a)(G:Av c π H s):PG c wr L π H s H' π s':=
 ⟨Bn hlen.symm,hold,λ_ _=>rfl,λl h1 h2=>AL h2 (EI.mpr (hlen.symm▸h1)),λ_ h=>h,λ_ h=>.inl h,K.weaken λb q=>q▸hX,λb o e=>(DH (b=a)).elim (λq=>q▸hthere) λq=>K.there b o q e,
  G',λb o hb hn e=>G.keep K hb (hsame b hb hn) e⟩
theorem pS{x:Str}(hk:fr.scope.names.lookup x=some .local):FA c d fr lo H x v (Sv x v lo) H:=by
 intro A env π s E cv R F G L r
 refine L.ns.elim λm q=>(Ns.obj q.1).elim λo w=>w.elim λes w=>w.elim λk w=>?_
 refine wpAny_storeName_local (F.kindOf hk) q.1 (λh' SN hs=>?_) (by rw[F.scope,F.kind];rfl)
 have K:Kp (λb=>b=env.locals) s {s with heap:=h',toks:=s.toks+1}:=.one w.1 (.data (Fz w.2)) (λb o' hb e=>(hs.2 b hb).trans e) trivial G.tabs
 have hok:mY π s.heap (λb=>b=env.locals):=λb q=>.inr (.inl (.inl ⟨o,es,k,q▸w⟩))
 have hnf:jz s.heap (λb=>b=env.locals):=λb ob q e=>.data (AQ (w.1.symm.trans (q▸e))▸Fz w.2)
 have S:Jt π H.length s.heap π H.length h':=Kp.En (s':={s with heap:=h',toks:=s.toks+1}) K G.tabs hok hnf (AP _) (λ_ _=>rfl) (λ_ h=>.inl h)
 have ne:∀l,l<H.length->π.at' l≠env.locals:=λl hl q=>L.nl (q▸G.mem l hl)
 refine⟨.chg K (.inl rfl) ((Ns.obj SN).imp λ_ q=>q.elim λ_ q=>q.elim λ_ q=>q.1) (G.upd K hok hnf (λb q=>q▸L.new) (λb q hm=>AL (q▸hm) L.nl) rfl λl o' e=>.inl ⟨e,ne l (G.lt e)⟩) rfl (λ_ _=>rfl) (λb hb _ q=>L.nl (q▸hb)) G,⟨⟨_,SN,λy z e=>?_⟩,L.nl,L.new⟩,rfl⟩
 rw[YN] at e
 by_cases p:y=x
 ·rw[p,Kc] at e
  exact⟨cv,by simp[p],AQ e▸r.step S⟩
 ·rw[Si p] at e
  exact(q.2 y z e).imp λcw u=>⟨by simpa[p] using u.1,u.2.step S⟩
theorem CY(G:Av c π H s)(hl:l<H.length)(hw:wr<=l)
  (ho:s.heap.get? (π.at' l)=some ob)(hnf:Jg ob)(Aai:Jg (f ob))(hfr:(f ob).isFreed=false)(tk:Nat)
  (hor:∀h',Jt π H.length s.heap π H.length h'->h'.get? (π.at' l)=some (f ob)->IS π H.length h' o (π.at' l)):
  PG c wr none π H s (H.set l o) π {s with heap:=s.heap.update (π.at' l) f,toks:=tk}/\Jt π H.length s.heap π H.length (s.heap.update (π.at' l) f):=by
 have Qi:=Kz f ho hfr
 have hs:Hb (π.at' l) s.heap (s.heap.update (π.at' l) f):=Ml ..
 have K:Kp (λb=>b=π.at' l) s {s with heap:=s.heap.update (π.at' l) f,toks:=tk}:=.one ho hnf (λb o' hb e=>(hs.2 b hb).trans e) trivial G.tabs
 have S:Jt π H.length s.heap π H.length (s.heap.update (π.at' l) f):=Kp.En (s':={s with heap:=s.heap.update (π.at' l) f,toks:=tk}) K G.tabs (λb q=>.inl (q▸G.mem l hl)) (λb ob' q e=>AQ (ho.symm.trans (q▸e))▸hnf) (AP _) (λ_ _=>rfl) (λ_ h=>.inl h)
 have ne:∀{j},j<wr->l≠j:=λhj=>Nat.ne_of_gt (BX hj hw)
 exact⟨.chg K (.inr (G.mem l hl)) ⟨_,Qi⟩ (G.set hl K (hor _ S Qi) ⟨_,Qi,Aai⟩) F6 (λj hj=>Rd (ne hj)) (λb _ hn q=>hn l hw hl q.symm) G,S⟩
theorem pT(hk:fr.scope.names.lookup x=some .cell)(hcl:(x==("__class__" :Str))=false)(hl:fr.cells.lookup x=some l)(hH:H[l]?=some (.cell v₀))(hW:fr.wr<=l):
  FA c d fr lo H x v lo (H.set l (.cell (some v))):=by
 intro A env π s E cv R F G L r
 refine(G.objs l _ hH).elim λpU q=>?_
 have hc:=(F.cells x hcl).trans (Ai (Ab.map π.at') hl)
 unfold Im
 simp -iota only[F.kindOf hk,F.kd]
 unfold cellOf
 rw[hc]
 refine Ac (An ?_)
 refine Ac (Ol q.1 (wpAny_update q.1 ?_))
 have P:=CY (o:=.cell (some v)) (f:=λo=>{o with data:=.cell (some cv)}) G (G.lt hH) hW q.1 (.data nofun) (.data nofun) rfl s.toks (λh' S e=>⟨some cv,e,cv,rfl,r.step S⟩)
 exact⟨P.1.any,L.pg P.1 G,F6⟩
def NOk(c:Cx)(d:Nat)(fr:FD)(lo:Lo)(S:St)(x:Str)(v:AV)(p:Rt Lo):Prop:=FA c d fr lo S.H x v p.v p.S.H/\p.S.ob=S.ob
theorem Jj:Ok (W7 wr S l o) λS'=>wr<=l/\S'=S.on (S.H.set l o):=.guard λh=>.some ⟨Bm h,rfl⟩
theorem E7:Ok (putN fr lo S x v) (NOk c d fr lo S x v):=by
 refine .guard λhb=>Ok.self.bind λk hk=>?_
 have hd:=Nw (HN hb)
 have hk:=O6 hk
 cases k with
 | «local» =>exact .some ⟨pS hk,rfl⟩
 |cell=>exact Ok.self.bind λl hl=>cellAt.bind λv₀ hH=>Jj.bind λS' q=>.some (q.2▸⟨pT hk hd.2.1 ((D8 ..).symm.trans hl) hH q.1,rfl⟩)
 |_=>exact .none
theorem FA.use(h:FA c d fr lo H x v Bv H')(R:A5 d A)(F:Bu π H.length fr env)(G:Av c π H s)
  (L:Br c π H.length s.heap env.locals lo)(r:As π H.length s.heap v cv)
  (k:∀s₁,PG c fr.wr (some env.locals) π H s H' π s₁->Bu π H'.length fr env->Br c π H'.length s₁.heap env.locals Bv->H'.length=H.length->Q () s₁):Ae c.m A (Im env x cv) Q E s:=
 AJ (h A env π s E cv R F G L r) (λ_ s₁ ⟨P,L',hl⟩=>k s₁ P (P.fr F) L' hl) λ_ _ x=>x
def Nf(c:Cx)(d:Nat)(fr:FD)(lo:Lo)(H:List AO)(m:Env->List (Ad->Sem Ce))(vs:List AV)(Bv:Lo)(H':List AO):Prop:=
 ∀(A:AG)(env:Env)(π:Pl)(s:Aj)(E:EP)(cvs:List Ad),A5 d A->Bu π H.length fr env->Av c π H s->Br c π H.length s.heap env.locals lo->Ag π H.length s.heap vs cvs->
  Ae c.m A (assignInOrder (m env) cvs) (λ_ s'=>PG c fr.wr (some env.locals) π H s H' π s'/\Br c π H'.length s'.heap env.locals Bv/\H'.length=H.length) E s
theorem Nf.nil(hm:∀env,m env=[]):Nf c d fr lo H m [] lo H:=by
 intro A env π s E cvs R F G L r
 rw[hm,r]
 exact An ⟨.refl G,L,rfl⟩
theorem Nf.cons(t:Env->Ad->Sem Ce)(hm:∀env,m env=t env::m' env)
  (ht:∀env cv (A:AG)(s:Aj)(E:EP)(Q:Ce->Aj->Prop),Ae c.m A (Im env x cv) Q E s->Ae c.m A (t env cv) Q E s)
  (h:FA c d fr lo H x v Bv H')(hr:Nf c d fr Bv H' m' vs BK EY):Nf c d fr lo H m (v::vs) BK EY:=by
 intro A env π s E cvs R F G L r
 refine AH r λcv r=>r.elim λcvs r=>?_
 rw[hm,r.1]
 refine Ac (BF (ht env cv A s E _ (h.use R F G L r.2.1 λs₁ P₁ F₁ L₁ hl₁=>?_)))
 exact AJ (hr A env π s₁ E cvs R F₁ P₁.g L₁ (r.2.2.pg P₁ G L.dict)) (λ_ s₂ q=>⟨P₁.trans q.1,q.2.1,q.2.2.trans hl₁⟩) λ_ _ x=>x
theorem u6(x:Str):∀env cv (A:AG)(s:Aj)(E:EP)(Q:Ce->Aj->Prop),Ae c.m A (Im env x cv) Q E s->Ae c.m A (bindName env x cv) Q E s:=
 λenv cv A s E Q h=>WG h
theorem nL(x:Str)(p:Pos):∀env cv (A:AG)(s:Aj)(E:EP)(Q:Ce->Aj->Prop),Ae c.m A (Im env x cv) Q E s->Ae c.m A (assign (.Name x p) env cv) Q E s:=
 λenv cv A s E Q h=>by rw[arm_assign_Name];exact Ac (DM (WG h))
theorem eJ:∀{vs:List AV}{lo:Lo}{S:St},Ok (T6 fr lo S xs vs) λp=>Nf c d fr lo S.H (λenv=>xs.map λn=>bindName env n) vs p.v p.S.H/\p.S.ob=S.ob:=by
 induction xs with
 |nil=>exact .guard λh=>.some (Bj h▸⟨Nf.nil λ_=>rfl,rfl⟩)
 |cons x xs ih=>
  intro vs lo S
  induction vs using B9 with
  |nil=>exact .none
  |cons v vs=>exact E7.bind λp i=>ih.mono λq j=>⟨Nf.cons (λenv=>bindName env x) (λ_=>rfl) (u6 x) i.1 j.1,j.2.trans i.2⟩
theorem O8:Ok (Qv e) λx=>e=.Name x.1 x.2:=by rcases e with ⟨⟩<;>first | exact .none | exact .some rfl
theorem eK:∀{vs:List AV}{lo:Lo}{S:St},Ok (KE fr lo S ts vs) λp=>
  Nf c d fr lo S.H (λenv=>(RU ts env).map (·.2)) vs p.v p.S.H/\p.S.ob=S.ob/\ts.length=vs.length/\∀env,(RU ts env).length=ts.length/\(RU ts env).findIdx? (·.1)=none:=by
 induction ts with
 |nil=>exact .guard λh=>.some (Bj h▸⟨Nf.nil λ_=>rfl,rfl,rfl,λenv=>⟨rfl,rfl⟩⟩)
 |cons t ts ih=>
  intro vs lo S
  induction vs using B9 with
  |nil=>exact .none
  |cons v vs=>
   exact O8.bind λx e=>E7.bind λp i=>ih.mono λq j=>by
           subst e
           refine⟨Nf.cons (λenv=>assign (.Name x.1 x.2) env) (λenv=>rfl) (nL x.1 x.2) i.1 j.1,j.2.1.trans i.2,Ai Gb j.2.2.1,λenv=>⟨Ai Gb (j.2.2.2 env).1,?_⟩⟩
           show List.findIdx? _ ((false,assign (.Name x.1 x.2) env)::RU ts env)=none
           rw[List.findIdx?_cons,(j.2.2.2 env).2] at ⊢;rfl
theorem E9.Ng{st:Az}(h:E9 c d fr lo H st fl Bv H1)(R:A5 d A)(F:Bu π H.length fr env)(G:Av c π H s)
  (L:Br c π H.length s.heap env.locals lo)
  (k:∀cf s₁ π₁,PG c fr.wr (some env.locals) π H s H1 π₁ s₁->Bu π₁ H1.length fr env->Br c π₁ H1.length s₁.heap env.locals Bv->aq π₁ H1.length s₁.heap fl cf->Q cf s₁):
  Ae c.m A (exec st env) Q E s:=
 AJ (h A env π s E R F G L) (λcf s₁ ⟨π₁,P,L',r⟩=>k cf s₁ π₁ P (P.fr F) L' r) λ_ _ x=>x
theorem Kk.Ng{st:List Az}(h:Kk c d fr lo H st fl Bv H1)(R:A5 d A)(F:Bu π H.length fr env)(G:Av c π H s)
  (L:Br c π H.length s.heap env.locals lo)
  (k:∀cf s₁ π₁,PG c fr.wr (some env.locals) π H s H1 π₁ s₁->Bu π₁ H1.length fr env->Br c π₁ H1.length s₁.heap env.locals Bv->aq π₁ H1.length s₁.heap fl cf->Q cf s₁):
  Ae c.m A (execs st env) Q E s:=
 AJ (h A env π s E R F G L) (λcf s₁ ⟨π₁,P,L',r⟩=>k cf s₁ π₁ P (P.fr F) L' r) λ_ _ x=>x
theorem Kk.nil:Kk c d fr lo H [] .next lo H:=λA env π s E R F G L=>WC ⟨π,.refl G,L,rfl⟩
theorem Kk.cons{st:Az}(h:E9 c d fr lo H st .next Bv H1)(hr:Kk c d fr Bv H1 rest fl BK H2):Kk c d fr lo H (st::rest) fl BK H2:=by
 intro A env π s E R F G L
 refine wpAny_execs_cons (h.Ng R F G L λcf s₁ π₁ P₁ F₁ L₁ r₁=>?_)
 subst r₁
 exact hr.Ng R F₁ P₁.g L₁ λcf s₂ π₂ P₂ F₂ L₂ r₂=>⟨π₂,P₁.trans P₂,L₂,r₂⟩
theorem Kk.stop{st:Az}(hfl:fl.C8=false)(h:E9 c d fr lo H st fl Bv H1):Kk c d fr lo H (st::rest) fl Bv H1:=by
 intro A env π s E R F G L
 refine wpAny_execs_cons (h.Ng R F G L λcf s₁ π₁ P₁ F₁ L₁ r₁=>?_)
 cases fl with
 |next=>cases hfl
 |brk=>subst r₁;exact⟨π₁,P₁,L₁,rfl⟩
 |cont=>subst r₁;exact⟨π₁,P₁,L₁,rfl⟩
 |ret v=>exact AH r₁ λcv q=>q.1▸⟨π₁,P₁,L₁,cv,rfl,q.2⟩
theorem QE{a:AF}(h:a.C8=true):a=.next:=by rcases a with ⟨⟩<;>first | rfl | rcases h with ⟨⟩
theorem MR(Sd:Bk c d r){st:List Az}:∀{lo:Lo}{S:St},Ok (Xs r fr lo S st) (zU c d fr lo S st):=by
 induction st with
 |nil=>exact .some (.mk .nil)
 |cons st rest ih=>exact λ{lo S}=>(Sd.X fr lo S st).bind λx i=>.cond (λh=>ih.mono λy j=>AX.bind i j λi j=>.cons (QE h▸i) j) λh=>.some (AX.imp i (.stop h))
theorem Mv(Sd:Bk c d r):∀{S:St},Ok (Jh r fr lo S es) λx=>uQ c d fr lo S es x/\x.v.length=es.length:=by
 induction es with
 |nil=>exact .some ⟨.mk .nil,rfl⟩
 |cons e es ih=>exact λ{S}=>(Sd.E fr lo S e).bind λx i=>ih.bind λy j=>.some ⟨AX.bind i j.1 .cons,Ai Gb j.2⟩
theorem E9.ite{t:Expr}{a b:List Az}(ht:Jv c d fr lo H t z H1)(ha:Kk c d fr lo H1 (cond z a b) fl Bv H2):E9 c d fr lo H (.If t a b p) fl Bv H2:=by
 intro A env π s E R F G L
 refine wpAny_If (ht.use R F G L λs₁ π₁ P₁ F₁ L₁=>?_)
 rcases z with ⟨⟩<;>exact ha.Ng R F₁ P₁.g L₁ λcf s₂ π₂ P₂ F₂ L₂ r₂=>⟨π₂,P₁.any.trans P₂,L₂,r₂⟩
theorem E9.ret(he:Bt c d fr lo H e v H1):E9 c d fr lo H (.Return (some e) p) (.ret v) lo H1:=by
 intro A env π s E R F G L
 exact wpAny_Return_some (he.use R F G L λcv s₁ π₁ P₁ F₁ L₁ r₁=>⟨π₁,P₁.any,L₁,cv,rfl,r₁⟩)
theorem E9.Aaj:E9 c d fr lo H (.Return none p) (.ret .none) lo H:=λA env π s E R F G L=>wpAny_Return_none ⟨π,.refl G,L,.none,rfl,.FW⟩
theorem E9.brk:E9 c d fr lo H (.Break p) .brk lo H:=by
 intro A env π s E R F G L;rw[arm_exec_Break];exact Ac (DM (An ⟨π,.refl G,L,rfl⟩))
theorem E9.cont:E9 c d fr lo H (.Continue p) .cont lo H:=by
 intro A env π s E R F G L;rw[arm_exec_Continue];exact Ac (DM (An ⟨π,.refl G,L,rfl⟩))
theorem E9.pass:E9 c d fr lo H (.Pass p) .next lo H:=λA env π s E R F G L=>wpAny_Pass ⟨π,.refl G,L,rfl⟩
end
section
variable{lo Bv BK:Lo}{H H' EY H1 H2 H3:List AO}
theorem Kp.Nx(he:Hc s.heap.objs.size s.heap h'):Kp no s {s with heap:=h'}:=
 .of_keeps λb o e=>he b o (EG (Ew e)) e
def jU(c:Cx)(d:Nat)(H:List AO)(v:AV)(vs:List AV):Prop:=∀(A:AG)(π:Pl)(s:Aj)(E:EP)(cv:Ad),A5 d A->Av c π H s->As π H.length s.heap v cv->∀Q:List Ad->Aj->Prop,
 (∀cvs s₁,Kp no s s₁->Ag π H.length s₁.heap vs cvs->Q cvs s₁)->Ae c.m A (unpackItems cv vs.length none) Q E s
theorem jU.tup:jU c d H (.tup vs) vs:=λA π s E cv R G r Q k=>r.tup.elim λb q=>q.elim λws q=>by
 rw[q.1,<-q.2.2.2.size]
 exact unpackItems_tuple R.handled q.2.1 λh' he=>k _ _ (Kp.Nx he) (q.2.2.2.DT (Kp.Nx he) G.tabs)
theorem jU.lst(p:Jw c H v vs):jU c d H v vs:=λA π s E cv R G r Q k=>(p π s G cv r).elim λb q=>q.elim λws q=>by
 rw[q.1,<-q.2.2.size]
 exact kun_itemsOf R.handled q.2.1 λh' he=>k _ _ (Kp.Nx he) (q.2.2.DT (Kp.Nx he) G.tabs)
theorem eL:Ok (mZ H v) (jU c d H v):=by
 induction v using AV.casesOn with
 |tup xs=>exact .some .tup
 |lst xs=>exact(Bs (a:=.lst xs)).mono λ_ p=>.lst p
 |loc l=>exact(Bs (a:=.loc l)).mono λ_ p=>.lst p
 |_=>exact .none
def jc(c:Cx)(d:Nat)(fr:FD)(lo:Lo)(H:List AO)(t:Expr)(v:AV)(Bv:Lo)(H':List AO):Prop:=
 ∀(A:AG)(env:Env)(π:Pl)(s:Aj)(E:EP)(cv:Ad),A5 d A->Bu π H.length fr env->Av c π H s->Br c π H.length s.heap env.locals lo->As π H.length s.heap v cv->
  Ae c.m A (assign t env cv) (λ_ s'=>PG c fr.wr (some env.locals) π H s H' π s'/\Br c π H'.length s'.heap env.locals Bv/\H'.length=H.length) E s
theorem jc.name(h:FA c d fr lo H x v Bv H'):jc c d fr lo H (.Name x p) v Bv H':=λA env π s E cv R F G L r=>nL x p env cv A s E _ (h A env π s E cv R F G L r)
theorem jc.tuple(hv:jU c d S.H v vs):Ok (KE fr lo S ts vs) λq=>jc c d fr lo S.H (.Tuple ts k p) v q.v q.S.H/\q.S.ob=S.ob:=eK.mono λq h=>⟨by
 intro A env π s E cv R F G L r
 rw[arm_assign_Tuple]
 refine Ac (DM ?_)
 unfold unpack
 rw[(h.2.2.2 env).1,(h.2.2.2 env).2,h.2.2.1]
 refine Ac (BF (hv A π s E cv R G r _ λcvs s₁ K rs=>?_))
 exact AJ (h.1 A env π s₁ E cvs R F (G.DT K) (L.DT G K) rs) (λ_ s₂ q=>⟨(PG.pure G K).trans q.1,q.2⟩) λ_ _ x=>x,h.2.1⟩
theorem Ny:Ok (Ju fr lo S t v) λq=>jc c d fr lo S.H t v q.v q.S.H/\q.S.ob=S.ob:=by
 induction t using Hg with
 |Name x p=>exact E7.mono λq h=>⟨.name h.1,h.2⟩
 |Tuple ts k p=>exact eL.bind λvs hv=>jc.tuple hv
 |_=>exact .none
theorem KQ(h:Hh e=true)(t:Ab Expr)(n:Nat)(env:Env):RW e t n env=pure false:=by
 rcases e with ⟨⟩<;>first | rfl | exact ff h
theorem E9.expr(he:Bt c d fr lo H e v H1)(hn:Hh e=true):E9 c d fr lo H (.Expr e p) .next lo H1:=by
 intro A env π s E R F G L
 refine wpAny_Expr_any (he.use R F G L λcv s₁ π₁ P₁ F₁ L₁ r₁=>⟨π₁,P₁.any,L₁,rfl⟩) ?_ (KQ hn _ _ _)
 unfold interactive
 rw[F.scope,F.kind];rfl
theorem E9.jV(he:Bt c d fr lo H e v H1)(hn:Hh e=true)(h:FA c d fr lo H1 x v Bv H2):E9 c d fr lo H (.Assign [.Name x xp] e p) .next Bv H2:=by
 intro A env π s E R F G L
 refine wpAny_Assign_Name (he.use R F G L λcv s₁ π₁ P₁ F₁ L₁ r₁=>?_) (KQ hn _ _ _)
 exact h.use R F₁ P₁.g L₁ r₁ λs₂ P₂ F₂ L₂ hl=>⟨π₁,P₁.any.trans P₂,L₂,rfl⟩
theorem O9(e:Expr)(ts:List Expr)(k:Nat)(p:Pos)(n:Nat)(env:Env):swapsWithSole [.Tuple ts k p] e n env=pure false:=by rcases e with ⟨⟩<;>rfl
theorem SO(he:ae e=none):LY [.Tuple ts k p] e env=pure none:=by
 rcases e with ⟨⟩<;>first | rfl | rcases he with ⟨⟩
theorem E9.eM(he:Bt c d fr lo H e v H1)(hn:ae e=none)(h:jc c d fr lo H1 (.Tuple ts k tp) v Bv H2):E9 c d fr lo H (.Assign [.Tuple ts k tp] e p) .next Bv H2:=by
 intro A env π s E R F G L
 refine wpAny_Assign_stores (he.use R F G L λcv s₁ π₁ P₁ F₁ L₁ r₁=>?_) (O9 ..) (SO hn)
 exact AJ (h A env π₁ s₁ E cv R F₁ P₁.g L₁ r₁) (λ_ s₂ q=>⟨π₁,P₁.any.trans q.1,q.2.1,rfl⟩) λ_ _ x=>x
theorem E9.aug(hk:fr.scope.names.lookup x=some .local)(hx:lo.lookup x=some (.int a))(he:Bt c d fr lo H e (.int b) H1)(h:FA c d fr lo H1 x (.int (a+b)) Bv H2):
  E9 c d fr lo H (.AugAssign (.Name x xp) .Add e p) .next Bv H2:=λA env π s E R F G L=>(O7 L hx).elim λm q=>q.elim λcv q=>q.2.2.int.elim λt ht=>by
 refine wpAny_AugAssign_Name (Wv F.kd (F.kindOf hk) q.1 q.2.1 ?_)
 rw[ht]
 refine he.use R F G L λcv s₁ π₁ P₁ F₁ L₁ r₁=>r₁.int.elim λu hu=>hu▸?_
 exact PySem.P.iadd_int (h.use R F₁ (P₁.g.DT .toks) (L₁.DT P₁.g .toks) .mkInt λs₂ P₂ F₂ L₂ hl=>⟨π₁,(P₁.any.DT .toks).trans P₂,L₂,rfl⟩)
set_option backward.match.sparseCases true in
theorem eO(F:Bu π n fr env)(line:Nat)(ts:List Expr):(ts.filterMap fun
  |.Name id pos=>if env.kindOf id==some .local&&pos.line==line then some id else none
  |_=>none)=OY fr line ts:=by
 have e:∀x,env.kindOf x=CX fr x:=λx=>by unfold Sg CX;rw[F.scope,D8]
 congr 1
 funext t
 induction t using Hg with
 |Name x p=>show(if (env.kindOf x==some .local&&p.line==line)=true then some x else none)=_;rw[e];rfl
 |_=>rfl
set_option backward.match.sparseCases true in
theorem Xg(h:noStar n vs=true):¬ (vs.any fun | .Starred .. =>true | _=>false)=true:=by
 replace h:(vs.all λe => !T4 22 e)=true:=Am h
 induction vs with
 |nil=>exact BJ
 |cons e es ih=>
  have h:=h
  have h1:=HN (Ax h)
  have h2:=ih (Am h)
  rw[Wd]
  rcases e with ⟨⟩<;>first | exact h2 | exact ff (h1.symm▸rfl)
theorem eP(hs:noStar 200 vs=true):
  Ok (YG fr ts vs) λo=>∀{π:Pl}{n:Nat}{env:Env},Bu π n fr env->LY [.Tuple ts k p] (.Tuple vs k' p') env=pure o:=by
 have main:∀{π:Pl}{n:Nat}{env:Env},Bu π n fr env->LY [.Tuple ts k p] (.Tuple vs k' p') env=
   if (!(ts.length==2||ts.length==3)||vs.length !=ts.length)=true then pure none else if ((OY fr ((ts.head?.map (·.pos.line)).getD 0) ts).length !=ts.length||(OY fr ((ts.head?.map (·.pos.line)).getD 0) ts).eraseDups.length !=(OY fr ((ts.head?.map (·.pos.line)).getD 0) ts).length)=true then pure none
   else if vs.all (foldedForSure 8)=true then pure none else if vs.all (constantsAlone 8)=true then (RQ "assign.tuple-of-constant-expressions:order-of-the-stores" >>=λ_=>pure (some (OY fr ((ts.head?.map (·.pos.line)).getD 0) ts))) else pure (some (OY fr ((ts.head?.map (·.pos.line)).getD 0) ts)):=λ{π n env} F=>by
  have hb:env.blockKind=.function:=by simp only[Env.blockKind,F.scope,F.kind,dr];rfl
  rw[<-eO F]
  unfold LY
  simp -iota only[pure_bind,hb,bne_self_eq_false,VW]
  refine ite_congr rfl (λ_=>rfl) λ_=>(AD (Xg hs)).trans ?_
  rfl
 refine .cond (λh=>.some λF=>(main F).trans (Bh h)) λh1=>.cond (λh=>.some λF=>(main F).trans ((AD (h1▸BJ)).trans (Bh h))) λh2=>.cond (λh=>.some λF=>(main F).trans ((AD (h1▸BJ)).trans ((AD (h2▸BJ)).trans (Bh h)))) λh3=>.guard λh4=>.some λF=>
  (main F).trans ((AD (h1▸BJ)).trans ((AD (h2▸BJ)).trans ((AD (h3▸BJ)).trans (AD (HN h4▸BJ)))))
theorem Ag.rev{π n h}(r:Ag π n h xs ys):Ag π n h xs.reverse ys.reverse:=
 r.Na (P:=λxs ys=>Ag π n h xs.reverse ys.reverse) .nil λx xs y ys a _ b=>by rw[List.reverse_cons,List.reverse_cons];exact b.append (.cons a .nil)
theorem E9.YO{k k':Nat}{tp ep p:Pos}(hsw:∀{π:Pl}{n:Nat}{env:Env},Bu π n fr env->LY [.Tuple ts k tp] (.Tuple es k' ep) env=pure o)(he:Bt c d fr lo H (.Tuple es k' ep) (.tup vs) H1)
  (h:match o with
   |none=>jc c d fr lo H1 (.Tuple ts k tp) (.tup vs) Bv H2
   |some xs=>xs.length=vs.length/\Nf c d fr lo H1 (λenv=>xs.reverse.map λn=>bindName env n) vs.reverse Bv H2):
  E9 c d fr lo H (.Assign [.Tuple ts k tp] (.Tuple es k' ep) p) .next Bv H2:=by
 intro A env π s E R F G L
 rw[exec_Assign_arm]
 refine Ac (DM ?_)
 rw[O9]
 refine Ac (An ?_)
 rw[AD ⋯]
 refine Ac (he.use R F G L λcv s₁ π₁ P₁ F₁ L₁ r₁=>?_)
 rw[hsw F]
 refine Ac (An ?_)
 induction o using BL with
 |none=>
  exact Ac (AJ (h A env π₁ s₁ E cv R F₁ P₁.g L₁ r₁) (λ_ s₂ q=>An ⟨π₁,P₁.any.trans q.1,q.2.1,rfl⟩) λ_ _ x=>x)
 |some xs=>
  refine Ac (Gd (Ac ?_))
  rw[h.1]
  exact jU.tup A π₁ s₁ E cv R P₁.g r₁ _ λcvs s₂ K rs=>Ac (AJ (h.2 A env π₁ s₂ E _ R F₁ (P₁.g.DT K) (L₁.DT P₁.g K) rs.rev) (λ_ s₃ q=>An ⟨π₁,(P₁.any.DT K).trans q.1,q.2.1,rfl⟩) λ_ _ x=>x)
end
section
variable{H H' EY H1 H2 H3:List AO}
theorem Cx.QF(c:Cx)(G:Av c π H s):s.heap.NoLimit:=AH c.nolimit λmc q=>⟨mc,Ns.up G q.1,q.2⟩
theorem Cx.DA(c:Cx)(G:Av c π H s):c.K.In s.heap:=λa o e=>G.base.keep a o id (c.knt a o e) (c.yL a o e)
theorem Cx.codeS(c:Cx)(G:Av c π H s)(h:BZ c.B.heap cd q):BZ s.heap cd q:=G.base.Yx c.tabs .no h
def By(π:Pl)(n:Nat)(cs:List (Str×Ah))(cn:List (Str×Nat)):Prop:=
 (∀x,(x==("__class__" :Str))=false->cs.lookup x=(cn.lookup x).map π.at')/\∀x l,cn.lookup x=some l->l<n
theorem PG.add(G:Av c π H s)(hw:wr<=H.length)(K:Kp no s s')(ha:s.heap.get? a=none)(ho:IS (ext π H.length a) (H.length+1) s'.heap o a)(hex:∃o,s'.heap.get? a=some o/\Jg o):
  PG c wr none π H s (H++[o]) (ext π H.length a) s':=
 ⟨by rw[BP];exact BG _ _,λl hl=>Rc (BX hl hw),λl hl=>Eo hl,λl h1 h2=>by
  rw[BP] at h2
  rw[Rp (Wj h2) h1,D7];exact ha,λb h=>.inl h,λb h=>er ha b h,K.weaken λ_ x=>x.elim,λb o e=>K.there b o id e,G.add K ha ho hex,λb o hb _ e=>G.keep K hb id e⟩
theorem By.cons{Cc:List (Str×Nat)}(hok:By π H.length acc Cc):By (ext π H.length a) (H++[o]).length ((x,a)::acc) ((x,H.length)::Cc):=by
 rw[BP]
 refine⟨λy hy=>?_,λy l hl=>?_⟩
 ·rw[Dk,Dk]
  induction y==x using Eh with
  |true=>exact Ai some D7.symm
  |false=>
   refine(hok.1 y hy).trans ?_
   cases q:Cc.lookup y with
   |none=>rfl
   |some l=>exact Ai some (Eo (hok.2 y l q)).symm
 ·rw[Dk] at hl
  cases e:y==x with
  |true=>rw[e] at hl;exact AQ hl▸CF _
  |false=>rw[e] at hl;exact N6 (hok.2 y l hl)
theorem Ui(f:Str×BD->List (Str×Ah)->Sem (Em (List (Str×Ah))))
  (hf:∀name kind cells,f (name,kind) cells=if kind==.cell then (do let a <-alloc {cls:=.type "cell",data:=.cell none};pure (.yield ((name,a)::cells))) else pure (.yield cells))(names:List (Str×BD)):
  ∀(acc:List (Str×Ah))(Cc:List (Str×Nat))(H:List AO)(π:Pl)(s:Aj)(Q:List (Str×Ah)->Aj->Prop),KH names=true->Av c π H s->By π H.length acc Cc->
   (∀cells s' π',PG c wr none π H s (H++AK names) π' s'->By π' (H++AK names).length cells (II H.length names Cc)->cells.lookup ("__class__" :Str)=acc.lookup ("__class__" :Str)->Q cells s')->
   wr<=H.length->Ae c.m A (forIn names acc f) Q E s:=by
 induction names with
 |nil=>
  intro acc Cc H π s Q _ G hok k hw
  rw[show H++AK []=H from DW H] at k
  rw[LJ]
  exact An (k acc s π (.refl G) hok rfl)
 |cons p r ih=>
  intro acc Cc H π s Q hnc G hok k hw
  have hnc:=hnc
  have step:∀{b:Aa},EX p.2=b->(p.2==Mm)=b:=λe=>e▸by cases p.2<;>rfl
  rw[FP,hf]
  revert k
  show(∀cells s' π',PG c wr none π H s (H++cond (EX p.2) (.cell none::AK r) (AK r)) π' s'->By π' (H++cond (EX p.2) (.cell none::AK r) (AK r)).length cells (cond (EX p.2) (II (H.length+1) r ((p.1,H.length)::Cc)) (II H.length r Cc))->_->_)->_
  intro k
  cases hk:EX p.2 with
  |true=>
   rw[hk] at k
   rw[step hk,Bh rfl]
   refine Ac (Ac (wpAny_alloc (An ?_)))
   have P:=PG.add (o:=.cell none) G hw (Kp.BU {cls:=.type "cell",data:=.cell none}) (Bx _ (AP _)) ⟨none,Bp _ rfl,rfl⟩ ⟨_,Bp _ rfl,.data (λ_ q=>nomatch q)⟩
   have el:(H++[AO.cell none]).length=H.length+1:=BP
   refine ih ((p.1,s.heap.objs.size)::acc) ((p.1,H.length)::Cc) (H++[.cell none]) _ _ Q (Am hnc) P.g hok.cons (λcells s' π' P' hc hcl=>?_) (el▸JT hw)
   have e:H++.cell none::AK r=(H++[.cell none])++AK r:=by rw[FO];rfl
   refine k cells s' π' (by show PG _ _ _ _ _ _ (H++.cell none::AK r) _ _;rw[e];exact P.trans P') (by show By _ (H++.cell none::AK r).length _ (II (H.length+1) r _);rw[e];exact el▸hc) (hcl.trans ?_)
   rw[Dk,show(("__class__" :Str)==p.1)=false from Gx.mpr λq=>?_] at ⊢
   have h1:=HN (Ax hnc)
   rw[hk,<-eq_of_beq q,KO] at h1
   cases h1
  |false=>
   rw[hk] at k
   rw[step hk,AD BJ]
   exact Ac (An (ih acc Cc H π s Q (Am hnc) G hok k hw))
def yQ(c:Cx)(fr:FD)(lo:Lo)(S:St)(bs:Lo)(p:Rt Lo):Prop:=p.S.ob=S.ob/\
 ∀(d:Nat)(A:AG)(E:EP)(f:Str×Ad->EW->Sem (Em EW))(env:Env),(∀n v u,f (n,v) u=(do Im env n v;pure (.yield ⟨⟩)))->A5 d A->∀(cbs:List (Str×Ad))(π:Pl)(s:Aj)(Q:EW->Aj->Prop),Bu π S.H.length fr env->Av c π S.H s->Br c π S.H.length s.heap env.locals lo->cbs.map (·.1)=bs.map (·.1)->Ag π S.H.length s.heap (bs.map (·.2)) (cbs.map (·.2))->
   (∀s',PG c fr.wr (some env.locals) π S.H s p.S.H π s'->Bu π p.S.H.length fr env->Br c π p.S.H.length s'.heap env.locals p.v->Q ⟨⟩ s')->Ae c.m A (forIn cbs ⟨⟩ f) Q E s
theorem YP:∀{lo:Lo}{S:St},Ok (IJ fr lo S bs) (yQ c fr lo S bs):=by
 induction bs with
 |nil=>
  exact .some ⟨rfl,λd A E f env hf R cbs π s Q F G L hn hv k=>by
   induction cbs using B9 with
   |nil=>rw[LJ];exact An (k s (.refl G) F L)
   |cons _ _=>cases hn⟩
 |cons b bs ih=>
  refine Ok.bind (Ok.self) λp hp=>ih.mono λq j=>⟨j.1.trans (E7 (c:=c) (d:=0) p hp).2,λd A E f env hf R cbs π s Q F G L hn hv k=>?_⟩
  induction cbs using B9 with
  |nil=>cases hn
  |cons cb cbs=>
   have hn:=Gk hn
   have hv:=Ag.inv hv
   rw[FP,hf]
   refine Ac (Ac ((show cb.1=b.1 from hn.1)▸(E7 p hp).1.use R F G L hv.1 λs₁ P₁ F₁ L₁ hl₁=>An ?_))
   exact j.2 d A E f env hf R cbs π s₁ Q F₁ P₁.g L₁ hn.2 (hv.2.pg P₁ G L.dict) λs₂ P₂ F₂ L₂=>k s₂ (P₁.trans P₂) F₂ L₂
theorem PG.Uj(P:PG c wr none π H s H' π' s')(hL:s.heap.get? L=none)(Q:PG c wr (some L) π' H' s' EY yM HM):PG c wr none π H s EY yM HM:=
 have K:=(P.any).trans Q
 have ne:∀{b o},¬ Xw π none b->s.heap.get? b=some o->¬ Xw π (some L) b:=λhb e x=>x.elim (λq=>nomatch hL.symm.trans ((Ai s.heap.get? (AQ q)).trans e)) λm=>hb (.inr m)
 {K with kp:=⟨λb o hb ht e=>K.kp.keep b o (ne hb e) ht e,λb o hb e=>K.kp.there b o (ne hb e) e,K.kp.tabs,K.kp.tok,K.kp.os,K.kp.gens⟩}
section
theorem OL.back(ha:∀l,l<n->π'.at' l=π.at' l)(hc:∀x l,k.cells.lookup x=some l->l<n)(t:OL π' n' h a k):OL π n h a k:=
 t.imp λo t=>t.imp λfd t=>⟨t.1,t.2.1,t.2.2.1,t.2.2.2.1,t.2.2.2.2.1,λx=>(t.2.2.2.2.2.1 x).trans <| by
  cases q:k.cells.lookup x with
  |none=>rfl
  |some l=>exact Ai some (ha l (hc x l q)),hc⟩
theorem As.YQ(ha:∀l,l<n->π'.at' l=π.at' l)(hm:∀b,π.M b->π'.M b):(∀v pU cv,As π n h₀ v pU->As π' n' h v cv->As π n h v cv)/\∀xs u7 vs,Ag π n h₀ xs u7->Ag π' n' h xs vs->Ag π n h xs vs:=by
 have L:=λv=>AV.rec (motive_1:=λv=>∀pU cv,As π n h₀ v pU->As π' n' h v cv->As π n h v cv) (motive_2:=λxs=>∀u7 vs,Ag π n h₀ xs u7->Ag π' n' h xs vs->Ag π n h xs vs)
  (λ_ _ _ _ r=>r) (λ_ _ _ _ r=>r) (λ_ _ _ _ r=>r) (λ_ _ _ _ r=>r)
  (λxs ih pU cv q r=>AH q λ_ q=>q.elim λ_ q=>AH r λa r=>r.elim λvs r=>⟨a,vs,r.1,r.2.1,λz=>r.2.2.1 (hm _ z),ih _ _ q.2.2.2 r.2.2.2⟩)
  (λxs ih pU cv q r=>AH q λ_ q=>q.elim λ_ q=>AH r λa r=>r.elim λvs r=>⟨a,vs,r.1,r.2.1,λz=>r.2.2.1 (hm _ z),ih _ _ q.2.2.2 r.2.2.2⟩)
  (λl pU cv q r=>⟨Fp q,(And.right r).trans (Ai Bq (ha l (Fp q)))⟩)
  (λ_ _ _ _ cv _ r=>AH r λa r=>⟨a,r.1,r.2.1,λz=>r.2.2 (hm _ z)⟩)
  (λk _ cv q r=>AH q λ_ q=>q.2.1.elim λ_ q=>q.elim λ_ q=>AH r λa r=>⟨a,r.1,r.2.1.back ha q.2.2.2.2.2.2,λz=>r.2.2 (hm _ z)⟩)
  (λ_ _ _ r=>r) (λ_ _ i j u7 vs q r=>AH q λ_ q=>q.elim λ_ q=>AH r λv r=>r.elim λws r=>⟨v,ws,r.1,i _ _ q.2.1 r.2.1,j _ _ q.2.2 r.2.2⟩) v
 refine⟨L,λxs=>?_⟩
 induction xs with
 |nil=>exact λ_ _ _ r=>r
 |cons x xs ih=>exact λu7 vs q r=>AH q λ_ q=>q.elim λ_ q=>AH r λv r=>r.elim λws r=>⟨v,ws,r.1,L _ _ _ q.2.1 r.2.1,ih _ _ q.2.2 r.2.2⟩
theorem IS.back(ha:∀l,l<n->π'.at' l=π.at' l)(hm:∀b,π.M b->π'.M b)(q:IS π n h₀ o a)(r:IS π' n' h o a):IS π n h o a:=by
 induction o using AO.casesOn with
 |list xs=>exact AH q λ_ q=>q.elim λ_ q=>r.imp λvs r=>r.imp λk r=>⟨r.1,(As.YQ ha hm).2 _ _ _ q.2 r.2⟩
 |cell v=>induction v using BL with
  |none=>exact r
  |some v=>exact AH q λ_ q=>q.2.elim λ_ q=>r.imp λcv r=>⟨r.1,r.2.imp λw r=>⟨r.1,(As.YQ ha hm).1 _ _ _ q.2 r.2⟩⟩
 |dict es=>
  refine AH q λ_ q=>q.elim λ_ q=>r.imp λm r=>r.imp λo r=>⟨r.1,r.2.1,r.2.2.1,λx=>?_⟩
  have q:=q.2.2.2 x
  have r:=r.2.2.2 x
  revert q r
  induction es.lookup x using BL with
  |none=>exact λ_ r=>r
  |some v=>exact λq r=>AH q λ_ q=>r.imp λw r=>⟨r.1,(As.YQ ha hm).1 _ _ _ q.2 r.2⟩
 |acc d xs=>exact AH q λ_ q=>q.elim λ_ q=>q.elim λ_ q=>r.imp λvs r=>r.imp λk r=>r.imp λsl r=>⟨ha d q.2.1▸r.1,q.2.1,(As.YQ ha hm).2 _ _ _ q.2.2 r.2.2⟩
 |inst C d=>exact AH q λ_ q=>r.imp λsl r=>⟨ha d q.2▸r.1,q.2⟩
 |OK=>exact r
 |raw k=>exact r
end
structure LG(π₂:Pl)(n:Nat)(H₂:List AO)(π:Pl)(H:List AO):Prop where
 le:n<=H.length
 old:∀l,l<n->H[l]?=H₂[l]?
 agree:∀l,l<n->π.at' l=π₂.at' l
 mono:∀b,π₂.M b->π.M b
 fresh:∀l,n<=l->l<H.length->¬ π₂.M (π.at' l)
theorem LG.refl:LG π H.length H π H:=⟨AP _,λ_ _=>rfl,λ_ _=>rfl,λ_ h=>h,λl h1 h2=>AL h2 (EI.mpr h1)⟩
theorem LG.pg(D:LG π₂ n H₂ π H)(G:Av c π H s)(P:PG c wr L π H s H' π' s')(hn:n<=wr):LG π₂ n H₂ π' H' where
 le:=AA D.le P.le
 old:=λl h=>(P.old l (BX h hn)).trans (D.old l h)
 agree:=λl h=>(P.agree l (BX h D.le)).trans (D.agree l h)
 mono:=λb h=>P.mono b (D.mono b h)
 fresh:=λl h1 h2 q=>(Rr l H.length).elim (λhl=>D.fresh l h1 hl (P.agree l hl▸q)) λhl=>(G.ex _ (D.mono _ q)).elim λ_ z=>nomatch (P.ew l hl h2).symm.trans z.1
theorem Av.back(G:Av c π H s)(G':Av c π' H' s')(D:LG π H.length H π' H'):Av c π H s':=
 ⟨G'.base,λl o e=>IS.back D.agree D.mono (G.objs l o e) (D.agree l (G.lt e)▸G'.objs l o ((D.old l (G.lt e)).trans e)),G.inj,G.mem,G.new,λb hb=>G'.ex b (D.mono b hb)⟩
theorem PG.forget(G:Av c π H s)(P:PG c H.length none π H s H' π' s'):PG c wr none π H s H π s':=
 ⟨AP _,λ_ _=>rfl,λ_ _=>rfl,λl h1 h2=>AL h2 (EI.mpr h1),λ_ h=>h,λ_ h=>.inl h,P.kp,P.there,G.back P.g (LG.refl.pg G P (AP _)),λb o hb _=>P.same b o hb λl h1 h2=>AL h2 (EI.mpr h1)⟩
def FzP(c:Cx)(n:Nat)(H':List AO)(v v':AV):Prop:=∀(π π':Pl)(H₂:List AO)(s':Aj),LG π n H₂ π' H'->Av c π' H' s'->∀cv,As π' H'.length s'.heap v cv->As π n s'.heap v' cv
theorem Pa(hf:∀x,Ok (f x) (FzP c n H' x)):Ok (Gn f xs) λys=>∀(π π':Pl)(H₂:List AO)(s':Aj),LG π n H₂ π' H'->Av c π' H' s'->∀vs,Ag π' H'.length s'.heap xs vs->Ag π n s'.heap ys vs:=by
 induction xs with
 |nil=>exact .some λ_ _ _ _ _ _ _ r=>r
 |cons x xs ih=>exact(hf x).bind λy p=>ih.bind λys q=>.some λπ π' H₂ s' D G vs r=>AH r λv r=>r.elim λws r=>⟨v,ws,r.1,p π π' H₂ s' D G _ r.2.1,q π π' H₂ s' D G _ r.2.2⟩
theorem SP{α:Type}{l:List (Str×α)}{v:α}(h:l.lookup x=some v):(x,v)∈l:=mem_of_lookup h
theorem nM{n k:Nat}:∀{v:AV},Ok (fz k n H' v) (FzP c n H' v):=by
 induction k with
 |zero=>exact .none
 |succ k ih=>
  intro v
  induction v using AV.casesOn with
  |loc l=>exact .cond (λh=>.some λπ π' H₂ s' D G cv r=>⟨Rv.mp h,r.2.trans (Ai Bq (D.agree l (Rv.mp h)))⟩) λh=>listAt.bind λxs e=>(Pa λ_=>ih).bind λys q=>.some λπ π' H₂ s' D G cv r=>
    (G.objs l _ e).elim λvs z=>z.elim λkk z=>⟨_,vs,r.2,⟨_,z.1,rfl,rfl,kk,rfl⟩,D.fresh l (N8 λq=>BJ (h.symm.trans (Rv.mpr q))) r.1,q π π' H₂ s' D G _ z.2⟩
  |tup xs=>exact(Pa λ_=>ih).bind λys q=>.some λπ π' H₂ s' D G cv r=>r.tup.elim λa z=>z.elim λvs z=>⟨a,vs,z.1,z.2.1,λy=>z.2.2.1 (D.mono _ y),q π π' H₂ s' D G _ z.2.2.2⟩
  |lst xs=>exact(Pa λ_=>ih).bind λys q=>.some λπ π' H₂ s' D G cv r=>AH r λa z=>z.elim λvs z=>⟨a,vs,z.1,z.2.1,λy=>z.2.2.1 (D.mono _ y),q π π' H₂ s' D G _ z.2.2.2⟩
  |BI q=>exact .guard λhc=>.some λπ π' H₂ s' D G cv r=>AH r λa r=>⟨a,r.1,r.2.1.back D.agree λx l hx=>Rv.mp (BW.mp hc (x,l) (SP hx)),λz=>r.2.2 (D.mono _ z)⟩
  |Gw x y z=>exact .some λπ π' H₂ s' D G cv r=>AH r λa r=>⟨a,r.1,r.2.1,λz=>r.2.2 (D.mono _ z)⟩
  |_=>exact .some λ_ _ _ _ _ _ _ r=>r
end
section
variable{lo Bv BK:Lo}
structure FnAt(π:Pl)(n:Nat)(h:Ay)(a:Ah)(fi:FI)(fd:Io):Prop where
 obj:∃o,h.get? a=some o/\o.data=.func fd
 body:fd.body=fi.body
 scope:fd.scope=fi.scope
 glob:fd.globals=DN
 bi:fd.builtins=C4
 qual:fd.qualname=fi.qual
 code:BZ h fd.code fd.qualname
 YR:∀a',fi.code=some a'->fd.code=.ref a'
 BI:By π n fd.closure fi.cells
 cls:fi.cls.isSome=true->fd.closure.lookup ("__class__" :Str)=some 173
 kind:fi.scope.kind=.function
 gen:fi.scope.isGenerator=false
 co:fi.scope.isCoroutine=false
 ncl:KH fi.scope.names=true
def Pd(c:Cx)(fi:FI)(fd:Io)(as:List AV)(ks:List (Str×AV))(bs:Lo):Prop:=
 ∀(π:Pl)(n:Nat)(s:Aj)(cargs Gr:List Ad),c.K.In s.heap->Ag π n s.heap as cargs->Ag π n s.heap (ks.map (·.2)) Gr->
  ∃cbs,BindsTo s fd ⟨cargs,(ks.map (·.1)).zip Gr⟩ cbs/\cbs.map (·.1)=bs.map (·.1)/\Ag π n s.heap (bs.map (·.2)) (cbs.map (·.2))
theorem SQ{code:Ad}
  (h:∀f:Str×BD->List (Str×Ah)->Sem (Em (List (Str×Ah))),(∀name kind cells,f (name,kind) cells=if kind==.cell then (do let a <-alloc {cls:=.type "cell",data:=.cell none};pure (.yield ((name,a)::cells))) else pure (.yield cells))->
   Ae M A (forIn scope.names closure f) (λcells s₁=>∀g:Str×Ad->EW->Sem (Em EW),(∀n v u,g (n,v) u=(do Im (newEnv scope s.heap.objs.size globals cells qual func code none builtins) n v;pure (.yield ⟨⟩)))->
    Ae M A (forIn binds ⟨⟩ g) (λ_ s₂=>Q (newEnv scope s.heap.objs.size globals cells qual func code none builtins) s₂) E s₁) E
    {s with heap:=s.heap.push {cls:=.type "frame",data:=.dict #[]}}):
  Ae M A (Of scope globals closure binds qual func code none builtins) Q E s:=by
 refine Ac (wpAny_alloc ?_)
 refine Ac (AJ (h _ λname kind cells=>by cases hkc:kind==Mm<;>simp[hkc]) (λcells s₁ h₁=>?_) λ_ _ x=>x)
 exact Ac (AJ (h₁ _ λ_ _ _=>rfl) (λ_ s₂ h₂=>An h₂) λ_ _ x=>x)
theorem YS{S:St}{code:Ad}
  (R:A5 d A)(G:Av c π S.H s)(hw:(Au fi S.H.length wr).wr<=S.H.length)(hclo:By π S.H.length closure fi.cells)(hcls:fi.cls.isSome=true->closure.lookup ("__class__" :Str)=some 173)(hk:fi.scope.kind=.function)(hnc:KH fi.scope.names=true)
  (hcode:∀a',fi.code=some a'->code=.ref a')(hput:yQ c (Au fi S.H.length wr) [] (S.on (S.H++AK fi.scope.names)) bs p)
  (hn:cbs.map (·.1)=bs.map (·.1))(hv:Ag π S.H.length s.heap (bs.map (·.2)) (cbs.map (·.2)))
  (k:∀env s₁ π₁,env.func=func->env.code=code->env.locals=s.heap.objs.size->PG c (Au fi S.H.length wr).wr none π S.H s p.S.H π₁ s₁->
   Bu π₁ p.S.H.length (Au fi S.H.length wr) env->Br c π₁ p.S.H.length s₁.heap env.locals p.v->Q env s₁):
  Ae c.m A (Of fi.scope DN closure cbs (fi.qual++".<locals>.") func code none C4) Q E s:=by
 have hfr:s.heap.get? s.heap.objs.size=none:=Bx _ (AP _)
 have K0:Kp no s {s with heap:=s.heap.push {cls:=.type "frame",data:=.dict #[]}}:=Kp.BU _
 have G0:=G.DT K0
 refine SQ λf hf=>Ui f hf fi.scope.names closure fi.cells S.H π _ _ hnc G0 hclo (λcells s₁ π₁ P₁ hc hcl g hg=>?_) hw
 have hL0:Br c π S.H.length (s.heap.push {cls:=.type "frame",data:=.dict #[]}) s.heap.objs.size []:=⟨⟨_,Ay.Ns.new s.heap (.type "frame"),λx v e=>nomatch e⟩,G.Ki,G.absent hfr⟩
 have F1:Bu π₁ (S.H++AK fi.scope.names).length (Au fi S.H.length wr) (newEnv fi.scope s.heap.objs.size DN cells (fi.qual++".<locals>.") func code none C4):=
  ⟨rfl,hk,rfl,rfl,hc.1,λq=>hcl.trans (hcls q),hc.2,λhne=>by
   revert hne
   show T7 fi.code≠.none->code=T7 fi.code
   cases q:fi.code with
   |none=>exact λh=>AL rfl h
   |some a'=>exact λ_=>hcode a' q,rfl,AA hw (BP▸BG _ _)⟩
 exact hput.2 d A E g _ hg R cbs π₁ s₁ _ F1 P₁.g (hL0.pg P₁ G0) hn ((hv.push _).pg P₁ G0) λs₂ P₂ F₂ L₂=>k _ s₂ π₁ rfl rfl rfl (PG.Uj ((PG.pure G K0).trans P₁) hfr P₂) F₂ L₂
def nN(c:Cx)(d:Nat)(fr:FD)(lo:Lo)(H:List AO)(b:EL)(x:Rt AV):Prop:=match b with
 |.stmts b=>∃fl u9,Kk c d fr lo H b fl u9 x.S.H/\fl.Nb=some x.v
 |.expr e=>Bt c d fr lo H e x.v x.S.H
theorem Xh(Sd:Bk c d r):Ok (KJ r fr b lo S) λx=>AX S x.S (nN c d fr lo S.H b x):=by
 cases b with
 |stmts b=>exact(MR Sd).bind λx i=>Ok.self.bind λv hv=>.some (AX.imp i λi=>⟨_,_,i,hv⟩)
 |expr e=>exact Sd.E fr lo S e
def jW(c:Cx)(d:Nat)(fi:FI)(S:St)(wr:Nat)(bs:Lo)(v:AV)(H':List AO):Prop:=
 ∀(A:AG)(π:Pl)(s:Aj)(a:Ah)(fd:Io)(E:EP)(args:Args)(cbs:List (Str×Ad)),A5 (d+1) A->wr<=S.H.length->Av c π S.H s->
  FnAt π S.H.length s.heap a fi fd->BindsTo s fd args cbs->cbs.map (·.1)=bs.map (·.1)->Ag π S.H.length s.heap (bs.map (·.2)) (cbs.map (·.2))->
  EM c.m A (.call (.ref a) ⟨args.pos,args.kw⟩) (wants (FV c wr π S.H s v H') E) s
theorem pV(hput:yQ c (Au fi S.H.length wr) [] (S.on (S.H++AK fi.scope.names)) bs p)(hb:nN c d (Au fi S.H.length wr) p.v p.S.H fi.body x):
  jW c d fi S (Au fi S.H.length wr).wr bs x.v x.S.H:=by
 intro A π s a fd E args cbs R hw G Fn hbind hn hv
 refine Fn.obj.elim λo jd=>?_
 have enter:∀(E:EP)(Q:Env->Aj->Prop),(∀env s₁ π₁,env.locals=s.heap.objs.size->PG c (Au fi S.H.length wr).wr none π S.H s p.S.H π₁ s₁->Bu π₁ p.S.H.length (Au fi S.H.length wr) env->Br c π₁ p.S.H.length s₁.heap env.locals p.v->Q env s₁)->
   Ae c.m A.in1 (Of fd.scope fd.globals fd.closure cbs (fd.qualname++".<locals>.") (some a) fd.code none fd.builtins) Q E s:=λE Q k=>by
  rw[Fn.scope,Fn.glob,Fn.bi,Fn.qual]
  exact YS R.in1 G hw Fn.BI Fn.cls Fn.kind Fn.ncl Fn.YR hput hn hv λenv s₁ π₁ _ _=>k env s₁ π₁
 have co:=Fn.scope▸Fn.co
 have gn:=Fn.scope▸Fn.gen
 have bd:=Fn.body
 revert bd hb
 cases fi.body with
 |stmts b=>
  exact λhb bd=>AH hb λfl hb=>hb.elim λu9 hb=>codeAny_call_function R.rl jd.1 jd.2 co gn bd Fn.code.Na (hbind _ _ _ _ (enter _ _ λenv s₁ π₁ hL P₁ F₁ L₁=>⟨c.QF P₁.g,codeAny_func (hb.1.Ng (R.deeper) F₁ P₁.g L₁ λcf s₂ π₂ P₂ F₂ L₂ r₂=>by
   have P:=PG.Uj P₁ (hL▸Bx _ (AP _)) P₂
   have hv:=hb.2
   cases fl with
   |next=>subst r₂;exact AQ hv▸⟨π₂,P,rfl⟩
   |ret v=>exact AH r₂ λcv q=>q.1▸AQ hv▸⟨π₂,P,q.2⟩
   |brk=>cases hv
   |cont=>cases hv)⟩))
 |expr e=>
  exact λhb bd=>kla_callFunE R.rl jd.1 jd.2 co gn bd Fn.code.Na (hbind _ _ _ _ (enter _ _ λenv s₁ π₁ hL P₁ F₁ L₁=>⟨c.QF P₁.g,kla_codeExpr (Bt.use hb (R.deeper) F₁ P₁.g L₁ λcv s₂ π₂ P₂ F₂ L₂ r₂=>⟨π₂,P₁.trans P₂,r₂⟩)⟩))
theorem QG(h:∀v s,P v s->Q v s):∀r s,wants P E r s->wants Q E r s:=by
 rintro (e | (v | _ | _ | _)) s hr<;>first | exact h _ _ hr | exact hr
theorem Uk(Sd:Bk c d r):Ok (CM r fi as ks wr S) λx=>AX S x.S (∃bs,Cv fi as ks=some bs/\jW c d fi S wr bs x.v x.S.H):=
 Ok.self.bind λbs yR=>YP.bind λp hp=>(Xh Sd).bind λx i=>by
  have main:AX S x.S (jW c d fi S (Au fi S.H.length wr).wr bs x.v x.S.H):=λo=>⟨hp.1▸(i o).1,pV hp (i o).2⟩
  revert main
  show AX S x.S (jW c d fi S (cond fi.Ss wr S.H.length) bs x.v x.S.H)->_
  cases fi.Ss with
  |true=>exact λmain=>.some (main.imp λh=>⟨bs,yR,h⟩)
  |false=>exact λmain=>nM.bind λv hz=>.some (main.imp λh=>⟨bs,yR,λA π s a fd E args cbs R hw G Fn hbind hn hv=>codeAny_mono (h A π s a fd E args cbs R (AP _) G Fn hbind hn hv) (QG λv s' q=>q.elim λπ' q=>⟨π,PG.forget G q.1,hz π π' S.H s' (LG.refl.pg G q.1 (AP _)) q.1.g _ q.2⟩)⟩)
end
theorem ay(h:W8 l=true):l.Nodup:=by
 induction l with
 |nil=>exact Wc
 |cons x r ih=>
  have h:=h
  have h1:=HN (Ax h)
  rw[SJ] at h1
  exact EC.mpr ⟨λq=>BJ (h1.symm.trans (Wa.mpr q)),ih (Am h)⟩
theorem filterMap_eq{α β:Type}{f g:α->Ab β}{l:List α}(h:∀a∈l,f a=g a):l.filterMap f=l.filterMap g:=by
 induction l with
 |nil=>rfl
 |cons a l ih=>rw[LB,LB,h a (CT ..),ih λb hb=>h b (Ed _ hb)]
theorem Xi{α:Type}{ns:List Str}:∀{vs:List α},ns.Nodup->ns.length=vs.length->ns.filterMap (λn=>((ns.zip vs).lookup n).map (n,·))=ns.zip vs/\∀n∈ns,((ns.zip vs).lookup n).isNone=false:=by
 induction ns with
 |nil=>exact λ_ _=>⟨rfl,λ_ q=>nomatch q⟩
 |cons n ns ih=>
  intro vs hd hl
  induction vs using B9 with
  |nil=>cases hl
  |cons v vs=>
   have hd:=EC.mp hd
   have i:=ih hd.2 (He hl)
   have e:∀m∈ns,C2 m ((n::ns).zip (v::vs))=(ns.zip vs).lookup m:=λm hm=>by rw[cq,Dk,Si (λq:m=n=>hd.1 (q▸hm))]
   have e0:C2 n ((n::ns).zip (v::vs))=some v:=by rw[cq,Dk,Kc]
   refine⟨?_,λm hm=>(Bc.mp hm).elim (λq=>by rw[q,e0];rfl) λhm=>by rw[e m hm];exact i.2 m hm⟩
   rw[LB,e0]
   exact Ai ((n,v) :: ·) (Hd (filterMap_eq λm hm=>by rw[e m hm]) i.1)
theorem Pe(h:KG p=true):(p.posonlyargs=[]/\p.vararg=none/\p.kwonlyargs=[]/\p.kwarg=none)/\(p.args.map (·.arg)).Nodup:=
 ⟨⟨Bj (Ax (Ax h)),CN (Ax (Am (Ax h))),Bj (Ax (Am (Am (Ax h)))),CN (Am (Am (Am (Ax h))))⟩,ay (Am h)⟩
theorem Pf{vals:List Ad}(hp:KG fd.params=true)(hd:fd.defaults=.none)(hl:fd.params.args.length=vals.length):
  bindArgs fd ⟨vals,[]⟩=pure ((fd.params.args.map (·.arg)).zip vals):=by
 obtain ⟨⟨h1,h2,h3,h4⟩,hnd⟩:=Pe hp
 have hlen:(fd.params.args.map (·.arg)).length=vals.length:=(AY _).trans hl
 obtain ⟨i1,i2⟩:=Xi hnd hlen
 have vc:((fd.params.args.map (·.arg)).filter λn=>(((fd.params.args.map (·.arg)).zip vals).lookup n).isNone)=[]:=List.filter_eq_nil_iff.mpr λn hn=>by rw[i2 n hn];exact BJ
 unfold bindArgs
 generalize fd.params=p at*
 cases p with
 |mk po as va ko kd kw ds=>
 subst h1;subst h2;subst h3;subst h4
 rw[hd]
 show(if (decide (vals.length>(List.map (·.arg) as).length)&&true)=true then _ else _)=_
 refine(AD (λq=>AL (Bi (Ax q)) (by rw[hlen];exact F9 _))).trans ?_
 show(if (!(List.filter (λn=>(C2 n ((as.map (·.arg)).zip vals)).isNone) (List.take ((as.map (·.arg)).length-(Rk (0-(as.map (·.arg)).length) ([]:List Ad)).length) (as.map (·.arg)))).isEmpty)=true then _ else _)=_
 refine(AD (by rw[List.drop_nil,N2,Wp,Wb,vc];exact BJ)).trans ?_
 show(forIn ((Rk ((as.map (·.arg)).length-(Rk (0-(as.map (·.arg)).length) ([]:List Ad)).length) (as.map (·.arg))).zip (Rk (0-(as.map (·.arg)).length) ([]:List Ad))) ((as.map (·.arg)).zip vals) _>>=_)=_
 rw[List.drop_nil,N2,Wp,List.drop_length]
 show(pure (List.filterMap (λn=>((C2 n ((as.map (·.arg)).zip vals)).map λx=>(n,x))) (as.map (·.arg)++[])):Sem (List (Str×Ad)))=_
 rw[DW,i1]
section
theorem Ul{α β:Type}{ns:List α}:∀{vs:List β},ns.length=vs.length->(ns.zip vs).map (·.1)=ns/\(ns.zip vs).map (·.2)=vs:=by
 induction ns with
 |nil=>intro vs h;induction vs using B9 with
  |nil=>exact⟨rfl,rfl⟩
  |cons=>cases h
 |cons n ns ih=>intro vs h;induction vs using B9 with
  |nil=>cases h
  |cons v vs=>exact⟨Ai (n :: ·) (ih (He h)).1,Ai (v :: ·) (ih (He h)).2⟩
theorem MS(hpar:fd.params=fi.params)(hdf:(nil fi.dflt&&nil fi.kwd)=true)(hd:fd.defaults=.none)(h:Cv fi as ks=some bs):Pd c fi fd as ks bs:=by
 unfold Cv at h
 rw[hdf] at h
 revert h
 refine Ok.guard (λhs=>.some λπ n s cargs Gr X ra rk=>?_) bs
 have hl:=Cb (Am (Am hs))
 have hl':=hl.trans ra.length.symm
 rw[Bj (Ax hs)] at rk ⊢
 rw[rk]
 have z:=Ul (ns:=fi.params.args.map (·.arg)) ((AY _).trans hl)
 have y:=Ul (ns:=fi.params.args.map (·.arg)) ((AY _).trans hl')
 exact⟨(fi.params.args.map (·.arg)).zip cargs,BindsTo.of_eq (hpar▸Pf (hpar▸Ax (Am hs)) hd (hpar▸hl')),y.1.trans z.1.symm,by rw[z.2,y.2];exact ra⟩
structure vd(c:Cx)(fi:FI)(fd:Io):Prop where
 params:fd.params=fi.params
 body:fd.body=fi.body
 scope:fd.scope=fi.scope
 glob:fd.globals=DN
 bi:fd.builtins=C4
 qual:fd.qualname=fi.qual
 code:BZ c.B.heap fd.code fd.qualname
 YR:∀a',fi.code=some a'->fd.code=.ref a'
 cells:fi.cells=[]
 BI:∀x,(x==("__class__" :Str))=false->fd.closure.lookup x=none
 cls:fi.cls.isSome=true->fd.closure.lookup ("__class__" :Str)=some 173
 sc:Sx fi.scope=true
 plain:(nil fi.dflt&&nil fi.kwd)=true->fd.defaults=.none
 bind:(nil fi.dflt&&nil fi.kwd)=false->∀as ks bs,Cv fi as ks=some bs->Pd c fi fd as ks bs
structure Ez(c:Cx):Prop where
 fn:∀a fi,FT a=some fi->∃o fd,c.K.lookup a=some o/\o.data=.func fd/\vd c fi fd
theorem Um(h:isFun k=true):k=.function:=by rcases k with ⟨⟩<;>first | rfl | exact ff h
theorem SR(h:Sx sc=true):sc.kind=.function/\sc.isGenerator=false/\sc.isCoroutine=false/\KH sc.names=true:=
 ⟨Um (Ax h),HN (Ax (Am h)),HN (Ax (Am (Am h))),Am (Am (Am h))⟩
def CoP(c:Cx)(d:Nat)(wr:Nat)(H:List AO)(a:Ah)(as:List AV)(ks:List (Str×AV))(v:AV)(H':List AO):Prop:=
 ∀(A:AG)(π:Pl)(s:Aj)(E:EP)(cargs Gr:List Ad),A5 (d+1) A->wr<=H.length->Av c π H s->Ag π H.length s.heap as cargs->Ag π H.length s.heap (ks.map (·.2)) Gr->
  EM c.m A (.call (.ref a) ⟨cargs,(ks.map (·.1)).zip Gr⟩) (wants (FV c wr π H s v H') E) s
theorem vd.at(q:vd c fi fd)(hK:c.K.lookup a=some o)(hd:o.data=.func fd)(G:Av c π H s):FnAt π H.length s.heap a fi fd:=
 have k:=SR q.sc
 ⟨⟨o,c.DA G a o hK,hd⟩,q.body,q.scope,q.glob,q.bi,q.qual,c.codeS G q.code,q.YR,⟨λx hx=>by rw[q.BI x hx,q.cells];rfl,λx l hl=>by rw[q.cells] at hl;rcases hl with ⟨⟩⟩,q.cls,k.1,k.2.1,k.2.2.1,k.2.2.2⟩
theorem vd.bx(q:vd c fi fd)(h:Cv fi as ks=some bs):Pd c fi fd as ks bs:=by
 cases e:nil fi.dflt&&nil fi.kwd with
 |true=>exact MS q.params e (q.plain e) h
 |false=>exact q.bind e _ _ _ h
theorem Ph(Fs:Ez c)(Sd:Bk c d r)(hf:FT a=some fi):Ok (CM r fi as ks wr S) λx=>AX S x.S (CoP c d wr S.H a as ks x.v x.S.H):=
 (Uk Sd).mono λx i=>i.imp λi=>i.elim λbs i=>(Fs.fn a fi hf).elim λo q=>q.elim λfd q=>λA π s E cargs Gr R hw G ra rk=>
  (q.2.2.bx i.1 π S.H.length s cargs Gr (c.DA G) ra rk).elim λcbs b=>i.2 A π s a fd E ⟨cargs,(ks.map (·.1)).zip Gr⟩ cbs R hw G (q.2.2.at q.1 q.2.1 G) b.1 b.2.1 b.2.2
theorem SU(Fs:Ez c)(Sd:Bk c d r)(hf:FT a=some fi):Ok (CM r fi as ks wr S) (nG c (d+1) wr S (.val (.ref a)) as ks):=
 (Ph Fs Sd hf).mono λx i=>AX.imp i λrun A π s E cf cargs Gr R hw G rf ra rk=>by
  rcases rf.val with ⟨⟩
  exact DE (run A π s E cargs Gr R hw G ra rk)
theorem Un(Sd:Bk c d r):Ok (Xb r k as ks wr S) (nG c (d+1) wr S (.BI k) as ks):=
 .guard λve=>have k:=SR ve;(Uk Sd).mono λx i=>AX.imp i λi A π s E cf cargs Gr R hw G rf ra rk=>i.elim λbs i=>rf.BI.elim λa p=>p.2.1.elim λo q=>q.elim λfd q=>by
  rw[p.1]
  exact(MS q.2.2.2.1.params rfl q.2.2.2.1.dflt i.1 π S.H.length s cargs Gr (c.DA G) ra rk).elim λcbs b=>DE (i.2 A π s a fd E ⟨cargs,(ks.map (·.1)).zip Gr⟩ cbs R hw G
   ⟨⟨o,q.1,q.2.2.1⟩,q.2.2.2.1.body,q.2.2.2.1.scope,q.2.2.2.1.glob,q.2.2.2.1.bi,q.2.2.2.1.qual,q.2.2.2.1.qual.symm▸q.2.2.2.2.1,λa' z=>(nomatch z),⟨λx _=>q.2.2.2.2.2.1 x,q.2.2.2.2.2.2⟩,λz=>(nomatch z),k.1,k.2.1,k.2.2.1,k.2.2.2⟩ b.1 b.2.1 b.2.2)
end
section
variable{c:Cx}{d wr:Nat}{H H':List AO}{π π':Pl}{s s':Aj}
theorem az(f:ni x=true)(r:As π n h x v):As π' n' h' x v:=by
 induction x using AV.casesOn with
 |int i=>exact r
 |str x=>exact r
 |_=>exact ff f
theorem Mw:∀{xs:List AV}{vs:List Ad},d8 xs=true->Ag π n h xs vs->Ag π' n' h' xs vs
 |[],_,_,r=>r
 |_::_,_,f,r=>AH r λv r=>r.elim λws r=>⟨v,ws,r.1,az (Ax f) r.2.1,Mw (Am f) r.2.2⟩
theorem PG.off(G:Av c π H s)(P:PG c 0 none π [] s H' π' s'):PG c wr none π H s H ⟨π.at',π'.M⟩ s':=
 have up:=λb o hb e=>P.same b o hb (λl _ h=>AL h (Ff l)) e
 have S:Jt π H.length s.heap ⟨π.at',π'.M⟩ H.length s'.heap:=P.kp.En G.tabs (PG.uO .none) (PG.uP G .none) (AP _) (λ_ _=>rfl) P.new
 ⟨AP _,λ_ _=>rfl,λ_ _=>rfl,λl h1 h2=>AL h2 (EI.mpr h1),P.mono,P.new,P.kp,P.there,
  ⟨P.g.base,λl o e=>(G.objs l o e).step S λo' e'=>up _ _ (G.mem l (G.lt e)) e',G.inj,λl h=>P.mono _ (G.mem l h),P.g.new,P.g.ex⟩,λb o hb _ e=>up b o hb e⟩
theorem aA(Fs:Ez c)(Sd:Bk c d r):Ok (IK r a as S) (nG c (d+1) wr S (.val (.ref a)) as []):=
 .guard λhf=>Ok.self.bind λfi hfi=>(Ph Fs Sd hfi).bind λx i=>Fw.bind λxs e=>.guard λhx=>.some λo=>
  ⟨(i o).1,λA π s E cf cargs Gr R hw G rf ra rk=>by
   cases rf.val
   exact AJ (DE ((i o).2 A π s E cargs Gr R (AP _) ⟨G.base,nofun,nofun,nofun,G.new,G.ex⟩ (Mw hf ra) rk)) (λcv s' q=>q.elim λπ' q=>⟨_,q.1.off G,by
    have q:=q.2
    rw[e] at q
    exact AH q λa q=>q.elim λvs q=>⟨a,vs,q.1,q.2.1,q.2.2.1,Mw hx q.2.2.2⟩⟩) λ_ _ x=>x⟩
end
section
variable{lo Bv BK:Lo}
def Ef(c:Cx)(f:AV):Prop:=
 ∀(H:List AO)(π:Pl)(s:Aj)(cf:Ad),Av c π H s->As π H.length s.heap f cf->∃k,(k=Keeper.frame\/k=Keeper.machine\/k=Keeper.boundFrame)/\AR c.m s.heap (keeperOf cf) k
theorem Ef.bi{id:A3}:Ef c (.val (.builtin id)):=λH π s cf G r=>by cases r.val;exact⟨_,.inr (.inl rfl),.now⟩
theorem Ef.ty{id:A3}:Ef c (.val (.type id)):=λH π s cf G r=>by cases r.val;exact⟨_,.inr (.inl rfl),.now⟩
theorem Ef.BI:Ef c (.BI k):=λH π s cf G r=>r.BI.elim λa p=>p.2.1.elim λo q=>q.elim λfd q=>by
 rw[p.1]
 refine⟨.frame,.inl rfl,(D3 q.1).andThen ?_⟩
 rw[q.2.2.1];exact .now
def JF(c:Cx)(d:Nat)(fr:FD)(lo:Lo)(H:List AO)(ks:List EN)(vs:List (Str×AV))(H':List AO):Prop:=
 (∀env pos,(Fi pos (Fh ks env)).all (·.1.isSome)=true/\(Fi pos (Fh ks env)).filterMap (·.1)=vs.map (·.1))/\
 ∀(A:AG)(env:Env)(π:Pl)(pos:Pos)(s:Aj)(E:EP),A5 d A->Bu π H.length fr env->Av c π H s->Br c π H.length s.heap env.locals lo->
  Ae c.m A (evalAll ((Fi pos (Fh ks env)).map (·.2))) (λcvs s'=>∃π',PG c fr.wr none π H s H' π' s'/\Ag π' H'.length s'.heap (vs.map (·.2)) cvs) E s
theorem JF.nil:JF c d fr lo H [] [] H:=⟨λ_ _=>⟨rfl,rfl⟩,λA env π pos s E R F G L=>JX ⟨π,.refl G,.nil⟩⟩
theorem JF.cons(he:Bt c d fr lo H e v H1)(hr:JF c d fr lo H1 ks vs H2):JF c d fr lo H (⟨some n,e,p⟩::ks) ((n,v)::vs) H2:=
 ⟨λenv pos=>⟨by
   show((some n).isSome&&(Fi pos (Fh ks env)).all (·.1.isSome))=true
   rw[(hr.1 env pos).1];rfl,by
   show n::(Fi pos (Fh ks env)).filterMap (·.1)=_
   rw[(hr.1 env pos).2];rfl⟩,
  λA env π pos s E R F G L=>PyProof.Rows.kwAll_cons (he.use R F G L λcv s₁ π₁ P₁ F₁ L₁ r₁=>
   AJ (hr.2 A env π₁ pos s₁ E R F₁ P₁.g L₁) (λcvs s₂ h=>h.imp λπ₂ q=>⟨P₁.trans q.1,.cons (r₁.pg q.1 P₁.g) q.2⟩) λ_ _ x=>x)⟩
theorem jX(Sd:Bk c d r):∀{S:St},Ok (Sw r fr lo S ks) λx=>AX S x.S (JF c d fr lo S.H ks x.v x.S.H):=by
 induction ks with
 |nil=>exact .some (.mk .nil)
 |cons k ks ih=>
  intro S
  obtain ⟨x,e,p⟩:=k
  induction x using BL with
  |none=>exact .none
  |some x=>exact(Sd.E fr lo S e).bind λa i=>ih.bind λb j=>.some (AX.bind i j .cons)
theorem Dd{trees:List (Sem Ad)}
  (hall:keywords.all (·.1.isSome)=true)
  (h:Ae M A (spliced (trees.map λt=>(false,t))) (λvs s₁=>Ae M A (evalAll (keywords.map (·.2))) (λks s₂=>Q ⟨vs,(keywords.filterMap (·.1)).zip ks⟩ s₂) E s₁) E s):
  Ae M A (evalArgs f true (trees.map λt=>(false,t)) keywords) Q E s:=by
 induction trees using B9 with
 |nil=>
  refine PySem.evalArgs_kw_nil hall ?_
  intro Γ p hΓ
  exact(h Γ p hΓ:Ae M A (evalAll (keywords.map (·.2))) (λks s₂=>Q ⟨[],(keywords.filterMap (·.1)).zip ks⟩ s₂) E s) Γ p hΓ
 |cons x rest=>exact PySem.evalArgs_kw hall h
theorem any_false{α:Type}{l:List α}{f:α->Aa}(h:∀a∈l,f a=false):l.any f=false:=by
 rw[List.any_eq_false];exact λa ha=>h a ha▸BJ
theorem Bt.Ub{ks:List EN}(hf:Bt c d fr lo H (.Name x xp) f H)(ha:IT c d fr lo H es vs H1)(hk:JF c d fr lo H1 ks vg H2)
  (hst:D9 es)(hkp:Ef c f)(hc:DQ c d H2 fr.wr f vs vg r H3):Bt c d fr lo H (.Call (.Name x xp) es ks p) r H3:=by
 intro A env π s E R F G L
 refine Ac (hf.use R F G L λcf s₁ π₁ P₁ F₁ L₁ r₁=>?_)
 rw[hst env p]
 have em:(es.map λe=>(false,eval e env))=(es.map λe=>eval e env).map λt=>(false,t):=by rw[F8];rfl
 have hall:=hk.1 env p
 refine Iy (NQ.mpr ⟨any_false λx hx=>(CD.mp hx).elim λe q=>q.2▸rfl,any_false λy hy=>?_⟩) (λh x=>x) ?_
 ·have:=BW.mp hall.1 y hy
  revert this
  induction y.1 using BL with
  |none=>exact λq=>ff q
  |some _=>exact λ_=>rfl
 rw[em]
 refine Dd hall.1 ?_
 rw[<-em]
 refine AJ (ha A env π₁ s₁ E R F₁ P₁.g L₁) (λcvs s₂ h=>h.elim λπ₂ q₂=>?_) λ_ _ e=>e
 refine AJ (hk.2 A env π₂ p s₂ E R (q₂.1.fr F₁) q₂.1.g (L₁.pg q₂.1 P₁.g)) (λkcs s₃ h=>h.elim λπ₃ q₃=>?_) λ_ _ e=>e
 have rf:=(r₁.pg q₂.1 P₁.g).pg q₃.1 q₂.1.g
 refine⟨hkp H2 π₃ s₃ cf q₃.1.g rf,?_⟩
 rw[hall.2]
 exact AJ (hc A π₃ s₃ E cf cvs kcs R ((q₃.1.fr (q₂.1.fr F₁)).wr) q₃.1.g rf (q₂.2.pg q₃.1 q₂.1.g) q₃.2) (λcv s₄ h=>h.imp λπ₄ q=>⟨((P₁.trans q₂.1).trans q₃.1).trans q.1,q.2⟩) λ_ _ e=>e
end
section
variable{c:Cx}{d:Nat}{fr:FD}{lo Bv BK:Lo}{H H' EY H1 H2 H3:List AO}
structure nO(o:Obj):Prop where
 nv:¬ Mr o.cls
 nn:o.cls≠.none
 nc:o.cls≠.type "code"
 fs:∃fs,o.data=.fields fs
noncomputable def jY(ty:A3):Aa:=ty !="list" &&(ty !="tuple" &&(ty !="range" &&(ty !="function" &&ty !="code")))
theorem eQ(h:(a !=b)=true):(Fl a)≠.type b:=λq=>by rw[Fl.inj q] at h;simp at h
theorem nO.of{fs}(h:jY ty=true)(hc:o.cls=.type ty)(hd:o.data=.fields fs):nO o:=
 ⟨hc▸λq=>q.elim (eQ (Ax h)) λq=>q.elim (eQ (Ax (Am h))) λq=>q.elim (eQ (Ax (Am (Am h)))) (eQ (Ax (Am (Am (Am h))))),hc▸nofun,hc▸eQ (Am (Am (Am (Am h)))),fs,hd⟩
theorem nO.ok(h:nO o):Jg o:=.inl ⟨h.nc,h.nn⟩
theorem nO.nd(h:nO o){es k}(hd:o.data=.dict es k):Cd:=h.fs.elim λfs q=>nomatch hd.symm.trans q
def Kn(π:Pl)(h:Ay)(b:Ah):Prop:=¬ π.M b/\∃o,h.get? b=some o/\nO o
theorem Kn.ne(x:Kn π h b)(hL:C9 h L):¬ Xw π L b:=λq=>q.elim (λq=>(hL b q).elim λo' y=>y.elim λes y=>y.elim λk y=>x.2.elim λo z=>z.2.nd (AQ (y.1.symm.trans z.1)▸y.2)) x.1
theorem Kn.up(x:Kn π s.heap b)(K:Kp X s s')(T:TabsOk s.heap)(hx:¬ X b)(e:s.heap.get? b=some o):s'.heap.get? b=some o:=x.2.elim λo' q=>K.keep b o hx (T.D4 e (AQ (q.1.symm.trans e)▸q.2.nn)) e
theorem Kn.pg(P:PG c wr L π H s H' π' s')(G:Av c π H s)(hL:C9 s.heap L)(x:Kn π s.heap b):Kn π' s'.heap b/\∀o,s.heap.get? b=some o->s'.heap.get? b=some o:=
 have up:=λo e=>x.up P.kp G.tabs (x.ne hL) e
 ⟨⟨λq=>(P.new b q).elim x.1 λq=>x.2.elim λo y=>(nomatch q.symm.trans y.1),x.2.imp λo y=>⟨up o y.1,y.2⟩⟩,up⟩
structure BN(c:Cx)(π:Pl)(H:List AO)(X:Ah->Prop)(s s':Aj):Prop where
 kp:Kp X s s'
 is:∀b,X b->(Kn π s.heap b/\c.B.heap.get? b=none)\/∃l k,H[l]?=some (.raw k)/\π.at' l=b
 raw:∀l k,H[l]?=some (.raw k)->X (π.at' l)->IS π H.length s'.heap (.raw k) (π.at' l)
section
variable{π:Pl}{X:Ah->Prop}{s s':Aj}
theorem BN.uO(G:Av c π H s)(K:BN c π H X s s'):mY π s.heap X:=λb x=>(K.is b x).elim (λq=>.inr (.inl (.inr (q.1.2.imp λo z=>⟨z.1,z.2.nv⟩)))) λq=>q.elim λl q=>q.elim λk q=>.inl (q.2▸G.mem l (G.lt q.1))
theorem BN.uP(G:Av c π H s)(K:BN c π H X s s'):jz s.heap X:=λb o' x e=>(K.is b x).elim (λq=>q.1.2.elim λo z=>AQ (z.1.symm.trans e)▸z.2.ok) λq=>q.elim λl q=>q.elim λk q=>G.ok (q.2▸G.mem l (G.lt q.1)) e
theorem BN.En(G:Av c π H s)(K:BN c π H X s s'):Jt π H.length s.heap π H.length s'.heap:=K.kp.En G.tabs (K.uO G) (K.uP G) (AP _) (λ_ _=>rfl) (λ_ h=>.inl h)
theorem BN.g(G:Av c π H s)(K:BN c π H X s s'):Av c π H s':=
 G.upd K.kp (K.uO G) (K.uP G) (λb x=>(K.is b x).elim (·.2) λq=>q.elim λl q=>q.elim λk q=>q.2▸G.new _ (G.mem l (G.lt q.1)))
  (λb x hm=>(K.is b x).elim (λq=>AL hm q.1.1) λq=>q.elim λl q=>q.elim λk q=>by
   have r:=K.raw l k q.1 (q.2.symm▸x)
   rw[q.2] at r
   exact AH r λvs r=>r.elim λj r=>⟨_,r.1,.data nofun⟩) rfl λl o e=>
  (DH (X (π.at' l))).elim (λx=>.inr ((K.is _ x).elim (λq=>AL (G.mem l (G.lt e)) q.1.1) λq=>q.elim λl' q=>q.elim λk q=>by
   cases G.inj l' l (G.lt q.1) (G.lt e) q.2
   rw[AQ (e.symm.trans q.1)]
   exact K.raw _ _ q.1 x)) λx=>.inl ⟨e,x⟩
theorem BN.l(G:Av c π H s)(K:BN c π H X s s')(R:Br c π H.length s.heap A lo):Br c π H.length s'.heap A lo:=
 R.obj.elim λo q=>q.elim λes q=>q.elim λep q=>
  have hx:=λx=>(K.is A x).elim (λy=>y.1.2.elim λo' z=>z.2.nd (AQ (q.1.symm.trans z.1)▸q.2)) λy=>y.elim λl y=>y.elim λk y=>R.nl (y.2▸G.mem l (G.lt y.1))
  ⟨R.ns.imp λm r=>⟨r.1.at' λo' e=>K.kp.keep A o' hx (G.tabs.Mq e (AQ (q.1.symm.trans e)▸Fz q.2)) e,λx v e=>(r.2 x v e).imp λcv r=>⟨r.1,r.2.step (K.En G)⟩⟩,R.nl,R.new⟩
theorem PG.step(P:PG c wr L π₀ H₀ s₀ H π s)(K:BN c π H X s s')(hX:∀b,X b->s₀.heap.get? b=none):PG c wr L π₀ H₀ s₀ H π s':=
 have nx:∀{b o},s₀.heap.get? b=some o->¬ X b:=λe x=>nomatch (hX _ x).symm.trans e
 {P with
  kp:=P.kp.trans' K.kp (λ_ x=>x) (λb o x e=>AL x (nx e))
  there:=λb o e=>(P.there b o e).elim λo' e'=>K.kp.there b o' (nx e) e'
  g:=K.g P.g
  same:=λb o hb hn e=>have e':=P.same b o hb hn e;K.kp.keep _ o (nx e) (P.g.tabs.W4 e' (P.g.ok (P.mono b hb) e')) e'}
end
def LsSt(π:Pl)(n:Nat)(h:Ay)(I:Ah)(i:Nat)(xs:List AV):Prop:=∃a,(h.IsListIter I a i/\As π n h (.lst xs) (.ref a))\/(h.IsTupleIter I a i/\As π n h (.tup xs) (.ref a))
def vh(h:Ay)(I:Ah)(i:Nat)(x:List Nat):Prop:=∃ty t y,(ty="str_ascii_iterator" \/ty="str_iterator")/\h.IsStrIter I ty y t i/\y.cps.toList=x
def vk(h:Ay)(I:Ah)(i:Nat)(a b k:Int):Prop:=k≠0/\IsRangeIter h I (a+k*i) (E0 a b k-i) k
def KR(src:Src)(I:Ah)(i:Nat)(π:Pl)(n:Nat)(h:Ay):Prop:=match src with
 |.lst xs=>LsSt π n h I i xs
 |.loc l=>l<n/\h.IsListIter I (π.at' l) i
 |.Gw a b k=>vk h I i a b k
 |.str x=>vh h I i x
 |.zip _ _=>Cd
def Kw(c:Cx)(src:Src)(it:Ad)(i:Nat)(π:Pl)(n:Nat)(h:Ay):Prop:=∃I,it=.ref I/\Kn π h I/\c.B.heap.get? I=none/\KR src I i π n h
theorem KR.up(S:Jt π n h π' n' h')(up:∀o,h.get? I=some o->h'.get? I=some o)(x:KR src I i π n h):KR src I i π' n' h':=by
 induction src using Src.casesOn with
 |lst xs=>exact AH x λa x=>⟨a,x.imp (λx=>⟨x.1.at up,x.2.step S⟩) λx=>⟨x.1.imp λo q=>⟨up o q.1,q.2⟩,x.2.step S⟩⟩
 |loc l=>exact⟨BX x.1 S.le,by rw[S.ag l x.1];exact x.2.at up⟩
 |Gw a b k=>exact⟨x.1,up _ x.2⟩
 |str x=>exact WU (λty q=>q.imp λt q=>q.imp λy q=>⟨q.1,q.2.1.imp λo q=>⟨up o q.1,q.2⟩,q.2.2⟩) x
 |zip _ _=>exact x
theorem Kw.pg(P:PG c wr L π H s H' π' s')(G:Av c π H s)(hL:C9 s.heap L)(x:Kw c src it i π H.length s.heap):Kw c src it i π' H'.length s'.heap:=
 x.imp λI q=>have y:=q.2.1.pg P G hL;⟨q.1,y.1,q.2.2.1,q.2.2.2.up (P.En G hL) y.2⟩
theorem Kw.step(G:Av c π H s)(K:BN c π H X s s')(hX:∀I,it=.ref I->¬ X I)(x:Kw c src it i π H.length s.heap):Kw c src it i π H.length s'.heap:=
 x.imp λI q=>have up:=λo e=>q.2.1.up K.kp G.tabs (hX I q.1) (o:=o) e;⟨q.1,⟨q.2.1.1,q.2.1.2.imp λo z=>⟨up o z.1,z.2⟩⟩,q.2.2.1,q.2.2.2.up (K.En G) up⟩
def Mx(c:Cx)(H:List AO)(v:AV)(src:Src):Prop:=∀(A:AG)(π:Pl)(s:Aj)(E:EP)(cv:Ad),Av c π H s->As π H.length s.heap v cv->∀Q:Ad->Aj->Prop,
 (∀it s₁,Kp no s s₁->(∀I,it=.ref I->s.heap.get? I=none)->Kw c src it 0 π H.length s₁.heap->Q it s₁)->Ae c.m A (Fj cv) Q E s
theorem Jk(G:Av c π H s)(ho:nO o)(hf:o.isFreed=false){Q:EP}(k:∀it s₁,Kp no s s₁->(∀I,it=.ref I->s.heap.get? I=none)->Kw c src it 0 π H.length s₁.heap->Q it s₁)
  (h:(s.heap.push o).get? s.heap.objs.size=some o->KR src s.heap.objs.size 0 π H.length (s.heap.push o)):Q (.ref s.heap.objs.size) {s with heap:=s.heap.push o}:=
 have g:=Bp s.heap hf
 k _ _ (Kp.BU _) (λI q=>CV q▸Bx _ (AP _)) ⟨_,rfl,⟨G.Ki,o,g,ho⟩,G.absent (Bx _ (AP _)),h g⟩
theorem KS{S:St}:Ok (nt S v) (Mx c S.H v):=by
 induction v using AV.casesOn with
 |str x=>
  exact .some λA π s E cv G r Q k=>r.str.elim λt ht=>by
   rw[ht]
   cases ha:x.cps.all (· <128) with
   |true=>exact wpAny_pyIter_ascii ha (Jk G (.of ⋯ rfl rfl) rfl k λg=>⟨_,t,x,.inl rfl,⟨_,g,rfl,rfl⟩,rfl⟩)
   |false=>exact wpAny_pyIter_wide ha (Jk G (.of ⋯ rfl rfl) rfl k λg=>⟨_,t,x,.inr rfl,⟨_,g,rfl,rfl⟩,rfl⟩)
 |tup xs=>exact .some λA π s E cv G r Q k=>r.tup.elim λa q=>q.elim λvs q=>q.1.symm▸wpAny_pyIter_tuple q.2.1 (Jk G (.of ⋯ rfl rfl) rfl k λg=>⟨a,.inr ⟨⟨_,g,rfl,rfl⟩,(q.1▸r).push _⟩⟩)
 |lst xs=>exact .some λA π s E cv G r Q k=>r.lst.elim λa q=>q.elim λvs q=>q.1.symm▸RE q.2.1 (Jk G (.of ⋯ rfl rfl) rfl k λg=>⟨a,.inl ⟨⟨_,g,rfl,rfl⟩,(q.1▸r).push _⟩⟩)
 |loc l=>exact listAt.bind λxs e=>.some λA π s E cv G r Q k=>(G.objs l _ e).elim λvs q=>q.elim λkk q=>r.2.symm▸RE ⟨_,q.1,rfl,kk,rfl⟩ (Jk G (.of ⋯ rfl rfl) rfl k λg=>⟨r.1,⟨_,g,rfl,rfl⟩⟩)
 |Gw a b kk=>
  exact .guard λhc=>.some λA π s E cv G r Q k=>r.Gw.elim λad q=>q.2.1.elim λtx h=>h.elim λty h=>h.elim λtz ho=>by
   rw[q.1]
   refine wpAny_pyIter_range ho (Am hc) (Jk G (.of ⋯ rfl rfl) rfl k λg=>⟨Bi (Ax hc),?_⟩)
   rw[show kk*((0:Nat):Int)=0 from V5 _,Ei,show E0 a b kk-((0:Nat):Int)=E0 a b kk from Int.sub_zero _]
   exact g
 |_=>exact .none
theorem Hm(G:Av c π H s)(hI:Kn π s.heap I)(hB:c.B.heap.get? I=none)(he:Hc I s.heap h'):
  BN c π H (λb=>Bq I=.ref b) s {s with heap:=h',toks:=tk}:=
 hI.2.elim λo q=>⟨(Kp.one (s':={s with heap:=h',toks:=tk}) q.1 q.2.ok (λb o' hb e=>he b o' hb e) trivial G.tabs).weaken λb q=>Ai Bq q.symm,λb q=>.inl (CV q▸⟨hI,hB⟩),λl k e q=>AL (CV q▸G.mem l (G.lt e)) hI.1⟩
def NxQ(c:Cx)(src:Src)(it:Ad)(i:Nat)(π:Pl)(n:Nat)(h:Ay)(o:Ab AV)(co:Ab Ad):Prop:=match o with
 |some v=>∃cv,co=some cv/\Kw c src it (i+1) π n h/\As π n h v cv
 |none=>co=none
def NxP(c:Cx)(d:Nat)(H:List AO)(src:Src)(i:Nat)(o:Ab AV):Prop:=∀(A:AG)(π:Pl)(s:Aj)(E:EP)(it:Ad),A5 d A->Av c π H s->Kw c src it i π H.length s.heap->∀Q:Ab Ad->Aj->Prop,
 (∀co s₁,BN c π H (λb=>it=.ref b) s s₁->NxQ c src it i π H.length s₁.heap o co->Q co s₁)->Ae c.m A (pyNext it) Q E s
section
variable{src:Src}{i:Nat}{A:AG}{π:Pl}{s:Aj}{E:EP}{I:Ah}{Q:Ab Ad->Aj->Prop}
theorem vm{fs}(hM:¬ π.M I)(h:∃o,h'.get? I=some o/\o.cls=.type ty/\o.data=.fields fs)(hc:jY ty=true):Kn π h' I:=⟨hM,h.imp λo q=>⟨q.1,.of hc q.2.1 q.2.2⟩⟩
theorem My(G:Av c π H s)(hI:Kn π s.heap I)(hB:c.B.heap.get? I=none)(he:Hc I s.heap h'){fs}(hty:jY ty=true)(hit:∃o,h'.get? I=some o/\o.cls=.type ty/\o.data=.fields fs)
  (k:∀co s₁,BN c π H (λb=>Bq I=.ref b) s s₁->NxQ c src (.ref I) i π H.length s₁.heap (some v) co->Q co s₁)(h:Jt π H.length s.heap π H.length h'->KR src I (i+1) π H.length h'/\As π H.length h' v cv):Q (some cv) {s with heap:=h',toks:=tk}:=
 have K:=Hm G hI hB he
 have q:=h (K.En G)
 k _ _ K ⟨cv,rfl,⟨I,rfl,vm hI.1 hit hty,hB,q.1⟩,q.2⟩
theorem Jl{vs:AE Ad}(hr:Ag π n h xs vs.toList)(e:xs[i]?=none):vs[i]?=none:=AE.getElem?_eq_none (hr.size.symm▸bT.mp e)
theorem Ko{vs:AE Ad}(hr:Ag π n h xs vs.toList)(e:xs[i]?=some v):∃w,vs[i]?=some w/\As π n h v w:=(hr.get e).imp λw q=>⟨by simpa using q.1,q.2⟩
theorem eU{src:Src}:Ok (src.at H i) (NxP c d H src i):=by
 induction src using Src.casesOn with
 |lst xs=>
  refine .some λA π s E it R G x Q k=>x.elim λI q=>?_
  rw[q.1] at k ⊢
  refine AH q.2.2.2 λa z=>?_
  cases e:xs[i]? with
  |none=>exact have fin:=λh' he=>k none _ (Hm G q.2.1 q.2.2.1 (h':=h') he) (e▸rfl);z.elim (λz=>z.2.lst.elim λa' y=>y.elim λvs y=>wpAny_pyNext_list_end R.handled z.1 (CV y.1▸y.2.1) (Jl y.2.2.2 e) fin) λz=>z.2.tup.elim λa' y=>y.elim λvs y=>wpAny_pyNext_tuple_end R.handled z.1 (CV y.1▸y.2.1) (Jl y.2.2.2 e) fin
  |some v=>
   rw[e] at k
   exact z.elim (λz=>z.2.lst.elim λa' y=>y.elim λvs y=>(Ko y.2.2.2 e).elim λw u=>wpAny_pyNext_list_item z.1 (CV y.1▸y.2.1) u.1 λh' hit hs=>My G q.2.1 q.2.2.1 hs.extBut ⋯ hit k λS=>⟨⟨a,.inl ⟨hit,z.2.step S⟩⟩,u.2.step S⟩)
    λz=>z.2.tup.elim λa' y=>y.elim λvs y=>(Ko y.2.2.2 e).elim λw u=>wpAny_pyNext_tuple_item z.1 (CV y.1▸y.2.1) u.1 λh' hit hs=>My G q.2.1 q.2.2.1 hs.extBut ⋯ hit k λS=>⟨⟨a,.inr ⟨hit,z.2.step S⟩⟩,u.2.step S⟩
 |loc l=>
  refine listAt.bind λxs ex=>.some λA π s E it R G x Q k=>x.elim λI q=>(G.objs l _ ex).elim λvs y=>y.elim λkk y=>?_
  rw[q.1] at k ⊢
  cases e:xs[i]? with
  |none=>exact wpAny_pyNext_list_end R.handled q.2.2.2.2 ⟨_,y.1,rfl,kk,rfl⟩ (Jl y.2 e) λh' he=>k none _ (Hm G q.2.1 q.2.2.1 (h':=h') he) (e▸rfl)
  |some v=>
   rw[e] at k
   exact(Ko y.2 e).elim λw u=>wpAny_pyNext_list_item q.2.2.2.2 ⟨_,y.1,rfl,kk,rfl⟩ u.1 λh' hit hs=>My G q.2.1 q.2.2.1 hs.extBut ⋯ hit k λS=>⟨⟨q.2.2.2.1,hit⟩,u.2.step S⟩
 |Gw a b kk=>
  refine .some λA π s E it R G x Q k=>x.elim λI q=>?_
  rw[q.1] at k ⊢
  cases e:decide (0<E0 a b kk-i) with
  |false=>exact wpAny_pyNext_range_end R.handled q.2.2.2.2 (DD.mp (Mn e)) λh' he=>k none _ (Hm G q.2.1 q.2.2.1 (h':=h') he) (e▸rfl)
  |true=>
   rw[e] at k
   refine wpAny_pyNext_range_item q.2.2.2.2 (Bi e) λh' hit hs=>My G q.2.1 q.2.2.1 hs.extBut ⋯ ⟨_,hit,rfl,rfl⟩ k λS=>⟨⟨q.2.2.2.1,?_⟩,.mkInt⟩
   rw[show a+kk*((i+1:Nat):Int)=a+kk*i+kk from by rw[Int.natCast_add,NY,<-V4];exact Ai (a+kk*i + ·) (Fc kk),show E0 a b kk-((i+1:Nat):Int)=E0 a b kk-i-1 from by rw[Int.natCast_add];exact(Int.sub_sub ..).symm]
   exact hit
 |str x=>
  refine .some λA π s E it R G x Q k=>x.elim λI q=>AH q.2.2.2 λty z=>z.elim λt z=>z.elim λy z=>?_
  rw[q.1,<-z.2.2] at k
  rw[q.1]
  have hy:y.cps.toList[i]?=y.cps[i]?:=by simp
  cases e:y.cps[i]? with
  |none=>
   have fin:=λh' he=>k none _ (Hm G q.2.1 q.2.2.1 (h':=h') he (tk:=s.toks)) (by rw[hy,e];rfl)
   exact z.1.elim (λw=>wpAny_pyNext_ascii_end R.handled (w▸z.2.1) e fin) λw=>wpAny_pyNext_wide_end R.handled (w▸z.2.1) e fin
  |some ch=>
   rw[hy,e] at k
   exact z.1.elim (λw=>wpAny_pyNext_ascii_item (w▸z.2.1) e λh' hit hs=>My G q.2.1 q.2.2.1 hs.extBut ⋯ hit k λS=>⟨⟨_,t,y,.inl rfl,hit,rfl⟩,.mkStr⟩)
    λw=>wpAny_pyNext_wide_item (w▸z.2.1) e λh' hit hs=>My G q.2.1 q.2.2.1 hs.extBut ⋯ hit k λS=>⟨⟨_,t,y,.inr rfl,hit,rfl⟩,.mkStr⟩
 |zip l ss=>exact λo _ A π s E it R G x Q k=>x.elim λI q=>q.2.2.2.elim
end
end
section
variable{c:Cx}{lo Bv BK:Lo}
theorem Ok.any{o:Ab α}:Ok o λ_=>True:=λ_ _=>trivial
theorem FC{α β:Type}{o:Ab α}{f:α->Ab β}{y:β}(h:o.bind f=some y):∃a,o=some a/\f a=some y:=by
 induction o using BL with
 |none=>cases h
 |some a=>exact⟨a,rfl,h⟩
def NxT(c:Cx)(t:Expr)(it:Ad)(X:Ah->Prop)(I:Nat->Pl->Nat->Ay->Prop)(A:AG)(i:Nat)(π:Pl)(H:List AO)(s:Aj)(o:Ab AV)(co:Ab Ad)(s₁:Aj):Prop:=match o with
 |some v=>∃cv,co=some cv/\∀(E':EP)(Q':Ce->Aj->Prop),(∀s₂,BN c π H X s s₂->I (i+1) π H.length s₂.heap->As π H.length s₂.heap v cv->Q' () s₂)->Ae c.m A (WD t it cv) Q' E' s₁
 |none=>co=none/\BN c π H X s s₁
structure Pj(c:Cx)(d:Nat)(src:Src)(t:Expr)(it:Ad)(X:Ah->Prop)(I:Nat->Pl->Nat->Ay->Prop):Prop where
 pg:∀{i wr:Nat}{L:Ab Ah}{π π':Pl}{H H':List AO}{s s':Aj},PG c wr L π H s H' π' s'->Av c π H s->C9 s.heap L->I i π H.length s.heap->I i π' H'.length s'.heap
 nx:∀{H:List AO}{i:Nat},Ok (src.at H i) λo=>∀(A:AG)(π:Pl)(s:Aj)(E:EP)(Q:Ab Ad->Aj->Prop),A5 d A->Av c π H s->I i π H.length s.heap->(∀co s₁,NxT c t it X I A i π H s o co s₁->Q co s₁)->Ae c.m A (pyNext it) Q E s
 self:∀{i:Nat}{π:Pl}{n:Nat}{A:AG}{s:Aj}{E:EP}{Q:EP},I i π n s.heap->Q it s->Ae c.m A (Fj it) Q E s
noncomputable def Uo(ty:A3):Aa:=["enumerate","zip","dict_itemiterator","dict_reverseitemiterator","odict_iterator","itertools.zip_longest","itertools.pairwise"].contains ty
set_option backward.match.sparseCases true in
theorem eW(h:∃o,s.heap.get? I=some o/\o.cls=.type ty)
  (hn:Uo ty=false)(hq:Q () s):Ae c.m A (WD t (.ref I) cv) Q E s:=by
 have main:Ae c.m A (do
   let (.ref r,.ref a):=((Bq I,cv):Ad×Ad) | return
   let o <-load r
   match o.cls,o.data with
   |.type n,.fields vs=>
    if ["enumerate","zip","dict_itemiterator","dict_reverseitemiterator","odict_iterator","itertools.zip_longest","itertools.pairwise"].contains n&&vs[0]?==some (D0 a) then
     rule "for.unpacks-the-owned-tuple"
     updateField r 0 .none
   |_,_=>pure ()) Q E s:=by
  rcases cv with ⟨⟩<;>first | exact An hq | skip
  refine h.elim λo q=>Ac (Ol q.1 ?_)
  rw[q.2]
  rcases o.data with ⟨⟩<;>first | exact An hq | skip
  refine(show Ae _ A (if (Uo ty&&_)=true then _ else _) Q E s from ?_)
  rw[hn]
  exact An hq
 rcases t with ⟨⟩<;>first | exact An hq | exact main
theorem KR.cls(x:KR src I i π n h):∃ty,(∃o,h.get? I=some o/\o.cls=.type ty)/\Uo ty=false:=by
 have cl:∀{ty:A3}{fs},(∃o,h.get? I=some o/\o.cls=.type ty/\o.data=.fields fs)->Uo ty=false->∃ty,(∃o,h.get? I=some o/\o.cls=.type ty)/\Uo ty=false:=λq e=>⟨_,q.imp λo q=>⟨q.1,q.2.1⟩,e⟩
 induction src using Src.casesOn with
 |lst xs=>exact AH x λa z=>z.elim (λz=>cl z.1 ⋯) λz=>cl z.1 ⋯
 |loc l=>exact cl x.2 ⋯
 |Gw a b k=>exact⟨_,⟨_,x.2,rfl⟩,by decide +kernel⟩
 |str x=>exact AH x λty z=>z.elim λt z=>z.elim λy z=>cl z.2.1 (z.1.elim (λe=>e▸⋯) λe=>e▸⋯)
 |zip _ _=>exact x.elim
theorem Kw.self(x:Kw c src it i π n s.heap)(q:Q it s):Ae c.m A (Fj it) Q E s:=x.elim λI z=>by
 rw[z.1] at q ⊢
 have h:=z.2.2.2
 induction src using Src.casesOn with
 |lst xs=>exact AH h λa h=>h.elim (λh=>Wu h.1 q) λh=>wpAny_pyIter_tupleiter h.1 q
 |loc l=>exact Wu h.2 q
 |Gw a b k=>exact wpAny_pyIter_rangeiter h.2 q
 |str x=>exact AH h λty h=>h.elim λt h=>h.elim λy h=>h.1.elim (λe=>wpAny_pyIter_striter_ascii (e▸h.2.1) q) λe=>wpAny_pyIter_striter_wide (e▸h.2.1) q
 |zip _ _=>exact h.elim
theorem Kw.iter(src:Src)(t:Expr)(it:Ad):Pj c d src t it (λb=>it=.ref b) (λi π n h=>Kw c src it i π n h) where
 pg:=λP G hL x=>x.pg P G hL
 nx:=eU.mono λo h A π s E Q R G x k=>h A π s E it R G x Q λco s₁ K q=>by
  refine k co s₁ ?_
  induction o using BL with
  |none=>exact⟨q,K⟩
  |some v=>exact WU (λcv q=>⟨q.1,λE' Q' k'=>q.2.1.elim λI z=>z.2.2.2.cls.elim λty y=>by rw[z.1];exact eW y.1 y.2 (k' s₁ K q.2.1 q.2.2)⟩) q
 self:=Kw.self
theorem AF.eY{a:AF}(h:a.GB=false):a=.brk\/∃v,a=.ret v:=by
 cases a with
 |brk=>exact .inl rfl
 |ret v=>exact .inr ⟨v,rfl⟩
 |_=>rcases h with ⟨⟩
theorem AF.jZ{a:AF}(h:a.GB=true):a=.next\/a=.cont:=by rcases a with ⟨⟩<;>first | exact .inl rfl | exact .inr rfl | rcases h with ⟨⟩
theorem Nz(Sd:Bk c d r):∀{i:Nat}{lo:Lo}{S:St},Ok (forL r fr src t body k i lo S) λx=>(x.S.ob=true->S.ob=true)/\(x.fl=.next\/x.fl.GB=false):=by
 induction k with
 |zero=>exact .none
 |succ k ih=>
  exact λ{i lo S}=>Ok.any.bind λo _=>by
   induction o using BL with
   |none=>exact .some ⟨id,.inl rfl⟩
   |some v=>exact(Ny (c:=c) (d:=d)).bind λp q=>(MR Sd).bind λx i=>.cond (λ_=>ih.mono λy j=>⟨λo=>q.2▸(i (j.1 o)).1,j.2⟩) λh=>.some ⟨λo=>q.2▸(i o).1,.inr h⟩
theorem Bl{G:Prop}(h:∀P:Prop,(G->P)->P):G:=h G id
def vn(c:Cx)(fr:FD)(r:Ev)(src:Src)(t:Expr)(body:List Az)(x:Rx)(L₀:Ah)(env:Env)(π₀:Pl)(H₀:List AO)(s₀:Aj)(I:Nat->Pl->Nat->Ay->Prop)(n:Nat)(s:Aj):Prop:=
 ∃i lo S π,forL r fr src t body n i lo S=some x/\PG c fr.wr (some L₀) π₀ H₀ s₀ S.H π s/\Bu π S.H.length fr env/\Br c π S.H.length s.heap L₀ lo/\I i π S.H.length s.heap
theorem Up(g:a.GB=true)(r:aq π n h a cf):cf=.next\/cf=.cont:=(AF.jZ g).elim (λw=>by rw[w] at r;exact .inl r) λw=>by rw[w] at r;exact .inr r
theorem QH(g:a.GB=false)(r:aq π n h a cf):(a=.brk/\cf=.brk)\/∃v cv,a=.ret v/\cf=.ret cv/\As π n h v cv:=(AF.eY g).elim (λw=>by rw[w] at r;exact .inl ⟨w,r⟩) λw=>w.elim λv w=>by rw[w] at r;exact .inr (AH r λcv q=>⟨v,cv,w,q.1,q.2⟩)
theorem Xj(Sd:Bk c d r)(IP:Pj c d src t it X I)
  (h:forL r fr src t body k 0 lo S=some x)(ho:x.S.ob=true)(R:A5 d A)(hX:∀b,X b->s₀.heap.get? b=none)
  (hE:∀s' π' cf,PG c fr.wr (some env.locals) π₀ H₀ s₀ x.S.H π' s'->Bu π' x.S.H.length fr env->Br c π' x.S.H.length s'.heap env.locals x.lo->aq π' x.S.H.length s'.heap x.fl cf->match x.fl with
   |.next=>Ae c.m A (execs orelse env) (λf s₃=>RR (.ok f) s₃) (J2 c.m A env λe s'=>RR (.error e) s') s'
   |.brk=>RR (.ok .next) s'
   |.cont=>True
   |.ret _=>RR (.ok cf) s')
  (P:PG c fr.wr (some env.locals) π₀ H₀ s₀ S.H π s)(F:Bu π S.H.length fr env)(L:Br c π S.H.length s.heap env.locals lo)(x₀:I 0 π S.H.length s.heap):
  EM c.m A (.forLoop t it body orelse env) RR s:=by
 refine codeAny_forLoop_any (vn c fr r src t body x env.locals env π₀ H₀ s₀ I) (λn s h=>Bl λGG fin=>?_) k ⟨0,lo,S,π,h,P,F,L,x₀⟩
 refine AH h λi h=>h.elim λlo h=>h.elim λS h=>h.elim λπ h=>?_
 induction n using LO with
 |zero=>cases h.1
 |succ n=>
  refine(FC h.1).elim λo q=>fin (IP.nx o q.1 A π s _ _ R h.2.1.g h.2.2.2.2 λco s₁ hn=>?_)
  induction o using BL with
  |none=>
   cases q.2
   rw[hn.1]
   exact hE s₁ π .next (h.2.1.step hn.2 hX) h.2.2.1 (hn.2.l h.2.1.g h.2.2.2.1) rfl
  |some v=>
   refine Bl λGG fin=>(FC q.2).elim λp q=>(FC q.2).elim λy z=>AH hn λcv hn=>?_
   have bx:=MR Sd y z.1
   have oy:y.S.ob=true:=by
    have e:=z.2
    cases g:y.fl.GB with
    |true=>rw[g] at e;exact(Nz Sd x e).1 ho
    |false=>rw[g] at e;exact(AQ e).symm▸ho
   refine fin ?_
   rw[hn.1]
   refine hn.2 _ _ λs₂ K x₂ r₂=>?_
   have P₂:=h.2.1.step K hX
   have L₂:=K.l h.2.1.g h.2.2.2.1
   refine AJ ((Ny p q.1).1 A env π s₂ _ cv R h.2.2.1 P₂.g L₂ r₂) (λ_ s₃ u=>(bx oy).2.Ng R (u.1.fr h.2.2.1) u.1.g u.2.1 λcf s₄ π₄ P₄ F₄ L₄ r₄=>Bl λGG fin=>?_) λ_ _ x=>x
   have P₅:=(P₂.trans u.1).trans P₄
   have e:=z.2
   cases g:y.fl.GB with
   |true=>
    rw[g] at e
    have N:∃m,m<n+1/\vn c fr r src t body x env.locals env π₀ H₀ s₀ I m s₄:=⟨n,CF n,i+1,y.lo,y.S,π₄,e,P₅,F₄,L₄,IP.pg P₄ u.1.g u.2.1.dict (IP.pg u.1 P₂.g L₂.dict x₂)⟩
    exact fin ((Up g r₄).elim (λw=>by rw[w];exact N) λw=>by rw[w];exact N)
   |false=>
    rw[g] at e
    cases AQ e
    have z:=hE s₄ π₄ cf P₅ F₄ L₄ r₄
    exact fin ((QH g r₄).elim (λw=>by rw[w.1] at z;exact w.2▸z) λw=>w.elim λv w=>w.elim λcv w=>by rw[w.1,w.2.1] at z;exact w.2.1▸z)
def Pn(c:Cx)(d:Nat)(fr:FD)(lo:Lo)(H:List AO)(e:Expr)(t:Expr)(src:Src)(H':List AO):Prop:=
 ∀(A:AG)(env:Env)(π:Pl)(s:Aj)(E:EP),A5 d A->Bu π H.length fr env->Av c π H s->Br c π H.length s.heap env.locals lo->
  Ae c.m A (eval e env) (λx s₁=>Ae c.m A (Fj x) (λit s₂=>∃π' X I,PG c fr.wr none π H s H' π' s₂/\(∀b,X b->s.heap.get? b=none)/\Pj c d src t it X I/\I 0 π' H'.length s₂.heap) E s₁) E s
theorem Pn.base(he:Bt c d fr lo H e v H1)(hs:Mx c H1 v src):Pn c d fr lo H e t src H1:=
 λA env π s E R F G L=>he.use R F G L λcv s₁ π₁ P₁ F₁ L₁ r₁=>hs A π₁ s₁ E cv P₁.g r₁ _ λit s₂ K hf x=>⟨π₁,λb=>it=.ref b,λi π n h=>Kw c src it i π n h,P₁.DT K,λb q=>P₁.gone (hf b q),Kw.iter src t it,x⟩
theorem JG(h:Gp e=true)(env:Env)(x:Ad):foldedSetIterable e env x=pure x:=by
 rcases e with ⟨⟩<;>first | rfl | exact ff h
theorem Uq(h:x.fl=.ret v):IM x=x:=by unfold IM;rw[h];rfl
theorem Ur(h:x.fl=.brk):IM x=⟨.next,x.lo,x.S⟩:=by unfold IM;rw[h];rfl
theorem eZ:(IM x).S=x.S:=by unfold IM;rcases x.fl.m4 with ⟨⟩<;>rfl
theorem E9.vo(Sd:Bk c d r)(hit:Pn c d fr lo H it t src S1.H)(hn:Gp it=true)
  (hl:forL r fr src t body k 0 lo S1=some x)(ho:x.S.ob=true)(hy:(x.fl=.next/\Kk c d fr x.lo x.S.H orelse y.fl y.lo y.S.H)\/(x.fl.GB=false/\y=IM x)):
  E9 c d fr lo H (.For t it body orelse p) y.fl y.lo y.S.H:=by
 intro A env π s E R F G L
 refine wpAny_For (AJ (hit A env π s E R F G L) (λx s₁ h₁=>AJ h₁ (λitv s₂ h₂=>?_) λ_ _ x=>x) λ_ _ x=>x) (JG hn env)
 refine h₂.elim λπ₂ q=>q.elim λX q=>q.elim λI q=>Xj Sd q.2.2.1 hl ho R q.2.1 (λs₃ π₃ cf P₃ F₃ L₃ r₃=>?_) q.1.any (q.1.fr F) (L.pg q.1 G) q.2.2.2
 refine hy.elim (λz=>?_) λz=>(AF.eY z.1).elim (λw=>?_) λw=>w.elim λv w=>?_
 ·rw[z.1];exact z.2.Ng R F₃ P₃.g L₃ λcf s₄ π₄ P₄ F₄ L₄ r₄=>⟨π₄,P₃.trans P₄,L₄,r₄⟩
 ·rw[z.2,Ur w,w];exact⟨π₃,P₃,L₃,rfl⟩
 ·rw[z.2,Uq w,w];exact⟨π₃,P₃,L₃,w▸r₃⟩
theorem QI(Sd:Bk c d r):∀{lo:Lo}{S:St},Ok (Hk r fr t body k lo S) λx=>x.S.ob=true->S.ob=true:=by
 induction k with
 |zero=>exact .none
 |succ k ih=>exact λ{lo S}=>(Sd.T fr lo S t).bind λb j=>.cond (λ_=>(MR Sd).bind λx i=>.cond (λ_=>ih.mono λy z o=>(j (i (z o)).1).1) λ_=>.some λo=>(j (i o).1).1) λ_=>.some λo=>(j o).1
def WhI(c:Cx)(fr:FD)(r:Ev)(t:Expr)(body:List Az)(x:Rx)(L₀:Ah)(env:Env)(π₀:Pl)(H₀:List AO)(s₀:Aj)(n:Nat)(s:Aj):Prop:=
 ∃lo1 S1 π1,Hk r fr t body n lo1 S1=some x/\PG c fr.wr (some L₀) π₀ H₀ s₀ S1.H π1 s/\Bu π1 S1.H.length fr env/\Br c π1 S1.H.length s.heap L₀ lo1
theorem E9.pW(Sd:Bk c d r)(h:Hk r fr t body k lo S=some x)(ho:x.S.ob=true):
  E9 c d fr lo S.H (.While t body [] p) (IM x).fl (IM x).lo (IM x).S.H:=by
 intro A env π s E R F G L
 refine wpAny_While (codeAny_whileLoop (WhI c fr r t body x env.locals env π S.H s) (λn s₁ h=>Bl λGG fin=>?_) k ⟨lo,S,π,h,.refl G,F,L⟩)
 refine AH h λlo1 h=>h.elim λS1 h=>h.elim λπ₁ h=>?_
 induction n using LO with
 |zero=>cases h.1
 |succ n=>
  refine(FC h.1).elim λb q=>?_
  have tx:=Sd.T fr lo1 S1 t b q.1
  have e:=q.2
  cases g:b.v with
  |false=>
   rw[g] at e
   cases AQ e
   refine fin ((tx ho).2.use R h.2.2.1 h.2.1.g h.2.2.2 λs₂ π₂ P₂ F₂ L₂=>?_)
   rw[g]
   exact WC ⟨π₂,h.2.1.trans P₂.any,L₂,rfl⟩
  |true=>
   rw[g] at e
   refine(FC e).elim λy z=>?_
   have bx:=MR Sd y z.1
   have e:=z.2
   have oy:y.S.ob=true:=by
    cases g:y.fl.GB with
    |true=>rw[g] at e;exact QI Sd x e ho
    |false=>rw[g] at e;exact(AQ e).symm▸ho
   refine fin ((tx (bx oy).1).2.use R h.2.2.1 h.2.1.g h.2.2.2 λs₂ π₂ P₂ F₂ L₂=>?_)
   rw[g]
   refine(bx oy).2.Ng R F₂ P₂.g L₂ λcf s₃ π₃ P₃ F₃ L₃ r₃=>Bl λGG fin=>?_
   have P:=(h.2.1.trans P₂.any).trans P₃
   cases g:y.fl.GB with
   |true=>
    rw[g] at e
    have N:∃m,m<n+1/\WhI c fr r t body x env.locals env π S.H s m s₃:=⟨n,CF n,y.lo,y.S,π₃,e,P,F₃,L₃⟩
    exact fin ((Up g r₃).elim (λw=>by rw[w];exact N) λw=>by rw[w];exact N)
   |false=>
    rw[g] at e
    cases AQ e
    exact fin ((QH g r₃).elim (λw=>w.2▸by rw[Ur w.1];exact⟨π₃,P,L₃,rfl⟩) λw=>w.elim λv w=>w.elim λcv w=>w.2.1▸by rw[Uq w.1,w.1];exact⟨π₃,P,L₃,cv,rfl,w.2.2⟩)
end
section
variable{c:Cx}{d:Nat}{fr:FD}{lo Bv BK:Lo}{H H' EY H1 H2 H3:List AO}
theorem aB(I:Nat->Aj->Prop)
  (turn:∀n s,I n s->Ae (AW prog w) A (pyNext it) (λr s₁=>match r with
   |none=>R (.ok .next) s₁
   |some v=>Ae (AW prog w) A (WD target it v) (λ_ s₁'=>Ae (AW prog w) A (assign target env v) (λ_ s₂=>
     Ae (AW prog w) A (forIn ifs true λc r=>if r=true then do let ok <-isTrue c env (eval c env);pure (Gj ok) else pure (Gj r)) (λok s₃=>
      if ok=true then Ae (AW prog w) A (eval elt env) (λx s₄=>
       Ae (AW prog w) A (call (.builtin "list.append") [acc,x]) (λ_ s₅=>∃m,m<n/\I m s₅) (J2 (AW prog w) A env λe s'=>R (.error e) s') s₄) (J2 (AW prog w) A env λe s'=>R (.error e) s') s₃
      else ∃m,m<n/\I m s₃) (J2 (AW prog w) A env λe s'=>R (.error e) s') s₂) (J2 (AW prog w) A env λe s'=>R (.error e) s') s₁')
     (J2 (AW prog w) A env λe s'=>R (.error e) s') s₁) (J2 (AW prog w) A env λe s'=>R (.error e) s') s)
  (n:Nat)(h:I n s):EM (AW prog w) A (.compLoop (.ListComp elt [⟨target,iter,ifs,0⟩] scope pos) 0 it acc env) R s:=by
 refine codeAny_loop rfl I (λn s hI=>?_) n h
 refine wpAny_noted ?_
 rw[compTurn_list]
 refine Ac (DM (Ac (AJ (turn n s hI) (λr s₁ h₁=>?_) λ_ _ h'=>h')))
 induction r using BL with
 |none=>exact An h₁
 |some v=>
  refine Ac (AJ h₁ (λ_ s₁' h₁'=>?_) λ_ _ h'=>h')
  refine Ac (AJ h₁' (λ_ s₂ h₂=>Ac (AJ h₂ (λok s₃ h₃=>?_) λ_ _ h'=>h')) λ_ _ h'=>h')
  induction ok using Eh with
  |false=>exact An ⟨rfl,h₃⟩
  |true=>
   exact Ac (Ac (AJ h₃ (λx s₄ h₄=>Ac (AJ h₄ (λ_ s₅ h₅=>An (An ⟨rfl,h₅⟩)) λ_ _ h'=>h')) λ_ _ h'=>h'))
theorem aC(ts:List Expr)(h:Q false s):
  Ae c.m A (forIn ts false λc r=>if r=true then do let ok <-isTrue c env (eval c env);pure (Gj ok) else pure (Gj r)) Q E s:=by
 induction ts with
 |nil=>exact An h
 |cons t ts ih=>rw[FP,AD BJ];exact Ac (An ih)
def Aal(c:Cx)(d:Nat)(fr:FD)(lo:Lo)(H:List AO)(ts:List Expr)(b:Aa)(H':List AO):Prop:=
 ∀(A:AG)(env:Env)(π:Pl)(s:Aj)(E:EP)(Q:Aa->Aj->Prop),A5 d A->Bu π H.length fr env->Av c π H s->Br c π H.length s.heap env.locals lo->
  (∀s₁ π₁,PG c fr.wr none π H s H' π₁ s₁->Bu π₁ H'.length fr env->Br c π₁ H'.length s₁.heap env.locals lo->Q b s₁)->
  Ae c.m A (forIn ts true λc r=>if r=true then do let ok <-isTrue c env (eval c env);pure (Gj ok) else pure (Gj r)) Q E s
theorem YT(Sd:Bk c d r):∀{S:St},Ok (SE r fr lo S ts) λx=>AX S x.S (Aal c d fr lo S.H ts x.v x.S.H):=by
 induction ts with
 |nil=>exact .some (.mk λA env π s E Q R F G L k=>An (k s π (.refl G) F L))
 |cons t ts ih=>
  intro S
  refine(Sd.T fr lo S t).bind λx i=>.cond (λhv=>ih.mono λy j=>AX.bind i j λi j A env π s E Q R F G L k=>?_) λhv=>.some (AX.imp i λi A env π s E Q R F G L k=>?_)
  ·rw[FP,Bh rfl]
   exact Ac (Ac (i.use R F G L λs₁ π₁ P₁ F₁ L₁=>An (hv▸j A env π₁ s₁ E Q R F₁ P₁.g L₁ λs₂ π₂ P₂ F₂ L₂=>k s₂ π₂ (P₁.trans P₂) F₂ L₂)))
  ·rw[FP,Bh rfl]
   exact Ac (Ac (i.use R F G L λs₁ π₁ P₁ F₁ L₁=>An (by
    have k:=k s₁ π₁ P₁ F₁ L₁
    rw[hv] at k ⊢
    exact aC ts k)))
theorem By.add{Cc:List (Str×Nat)}(hok:By π n acc Cc)(hl:l<n):By π n ((x,π.at' l)::acc) ((x,l)::Cc):=
 ⟨λy hy=>by
  rw[Dk,Dk]
  induction y==x using Eh with
  |true=>rfl
  |false=>exact hok.1 y hy,λy l' h=>by
  rw[Dk] at h
  cases e:y==x with
  |true=>rw[e] at h;exact AQ h▸hl
  |false=>rw[e] at h;exact hok.2 y l' h⟩
theorem aD(names:List (Str×BD)):∀(Cc:List (Str×Nat)),Ok (Cy fr names Cc) λfc=>∀{env:Env}{π:Pl}{n:Nat}(acc:List (Str×Ah)),Bu π n fr env->By π n acc Cc->acc.lookup ("__class__" :Str)=none->
  ∃cl,(forIn names acc λ(x:Str×BD) (cs:List (Str×Ah))=>(match x with | (name,kind)=>if kind==.free then (do let a <-cellOf env name;pure (Gj ((name,a)::cs))) else pure (Gj cs):Sem (Em (List (Str×Ah)))))=pure cl/\
   By π n cl fc/\cl.lookup ("__class__" :Str)=none:=by
 induction names with
 |nil=>exact λCc=>.some λacc F hok hc=>⟨acc,rfl,hok,hc⟩
 |cons p t ih=>
  have step:∀{b:Aa},isFree p.2=b->(p.2==BD.free)=b:=λe=>e▸by rcases p.2 with ⟨⟩<;>rfl
  refine λCc=>.cond (λhk=>.guard λhb=>Ok.self.bind λl hl=>(ih _).mono λfc i=>λ{env π n} acc F hok hc=>?_) λhk=>(ih _).mono λfc i=>λ{env π n} acc F hok hc=>?_
  ·have hd:=Nw (HN hb)
   have hl:=(D8 ..).symm.trans hl
   have e1:cellOf env p.1=pure (π.at' l):=by unfold cellOf;rw[F.cells p.1 hd.2.1,hl];rfl
   have hc':((p.1,π.at' l)::acc).lookup ("__class__" :Str)=none:=by
    rw[Dk,show(("__class__" :Str)==p.1)=false from Gx.mpr λq=>by have h:=hd.2.1;rw[<-eq_of_beq q,Kc] at h;cases h]
    exact hc
   refine(i _ F (hok.add (F.lt p.1 l hl)) hc').imp λcl q=>⟨?_,q.2⟩
   rw[FP]
   show((if (p.2==BD.free)=true then _ else _)>>=_)=_
   rw[step hk,Bh rfl,e1]
   exact q.1
  ·refine(i acc F hok hc).imp λcl q=>⟨?_,q.2⟩
   rw[FP]
   show((if (p.2==BD.free)=true then _ else _)>>=_)=_
   rw[step hk,AD BJ]
   exact q.1
theorem JH:Ok (Cy fr sc.names []) λfc=>∀{env:Env}{π:Pl}{n:Nat},Bu π n fr env->∃cl,L6 sc env=pure cl/\By π n cl fc/\cl.lookup ("__class__" :Str)=none:=
 (aD sc.names []).mono λfc h=>λ{env π n} F=>(h [] F ⟨λ_ _=>rfl,λ_ _ q=>nomatch q⟩ rfl).imp λcl q=>⟨by
  unfold L6
  exact(Ai (λm=>m>>=λcs=>(pure cs:Sem (List (Str×Ah)))) q.1).trans (pure_bind _ _),q.2⟩
end
section
variable{c:Cx}{d:Nat}{fr:FD}{lo Bv BK:Lo}{H H' EY H1 H2 H3:List AO}
theorem Ag.snoc{vs:AE Ad}(hv:Ag π n h xs vs.toList)(r:As π n h v cv):Ag π n h (xs++[v]) (vs.push cv).toList:=by
 rw[AE.toList_push];exact hv.append (.cons r .nil)
theorem j0(e:H[l]?=some (.list xs))(hsz:xs.length<100000)(hw:wr<=l)(G:Av c π H s)
  (r:As π H.length s.heap v cv)(k:∀s₁,PG c wr none π H s (H.set l (.list (xs++[v]))) π s₁->Q .none s₁):
  Ae c.m A (call (.builtin "list.append") [.ref (π.at' l),cv]) Q E s:=
 (G.objs l _ e).elim λvs q=>q.elim λn q=>Ij RG ⟨_,q.1,rfl⟩ Wy (WA _ _) (list_append (π.at' l) vs n cv (by rw[q.2.size];exact AA (DX hsz) ⋯))
  ⟨q.1,k _ (CY (o:=.list (xs++[v])) (f:=C6 λx=>x.push cv) G (G.lt e) hw q.1 (.data nofun) (.data nofun) rfl s.toks λh' S e'=>⟨vs.push cv,_,e',(q.2.step S).snoc (r.step S)⟩).1⟩
theorem QJ:Ok (Kh S acc v) λS'=>∃xs,S.H[acc]?=some (.list xs)/\xs.length<100000/\S'=setAt S acc (.list (xs++[v])):=listAt.bind λxs e=>.guard λh=>.some ⟨xs,e,EH (Bi h) ⋯,rfl⟩
theorem Po(Sd:Bk c d r):∀{i:Nat}{lo:Lo}{S:St},Ok (Ex r fr acc src t ifs elt k i lo S) λS'=>S'.ob=true->S.ob=true:=by
 induction k with
 |zero=>exact .none
 |succ k ih=>
  exact λ{i lo S}=>Ok.any.bind λo _=>by
   induction o using BL with
   |none=>exact .some id
   |some v=>exact(Ny (c:=c) (d:=d)).bind λp q=>(YT Sd).bind λb j=>.cond (λ_=>(Sd.E _ _ _ _).bind λx i=>QJ.bind λS' w=>ih.mono λy z o=>q.2▸(j (i (w.elim λxs w=>(show S'.ob=x.S.ob by rw[w.2.2];rfl)▸z o)).1).1) λ_=>ih.mono λy z o=>q.2▸(j (z o)).1
def vp(c:Cx)(fr:FD)(r:Ev)(acc:Nat)(src:Src)(t:Expr)(ifs:List Expr)(elt:Expr)(S':St)(wr:Nat)(L₀:Ah)(env:Env)(π₀:Pl)(H₀:List AO)(s₀:Aj)(I:Nat->Pl->Nat->Ay->Prop)(a:Ah)(π₂:Pl)(n₂:Nat)(H₂:List AO)(n:Nat)(s:Aj):Prop:=
 ∃i lo S π,Ex r fr acc src t ifs elt n i lo S=some S'/\PG c wr (some L₀) π₀ H₀ s₀ S.H π s/\Bu π S.H.length fr env/\Br c π S.H.length s.heap L₀ lo/\I i π S.H.length s.heap/\acc<S.H.length/\π.at' acc=a/\LG π₂ n₂ H₂ π S.H
theorem Us(Sd:Bk c d r)(IP:Pj c d src t it X I)
  (h:Ex r fr acc src t ifs elt k 0 lo S=some S')(ho:S'.ob=true)(R:A5 d A)(hX:∀b,X b->s₀.heap.get? b=none)
  (hw:wr<=fr.wr)(hwa:wr<=acc)(hn₂:n₂<=fr.wr)(hna:n₂<=acc)
  (hR:∀Bv s' π',PG c wr (some env.locals) π₀ H₀ s₀ S'.H π' s'->LG π₂ n₂ H₂ π' S'.H->Br c π' S'.H.length s'.heap env.locals Bv->acc<S'.H.length->π'.at' acc=a->RR (.ok .next) s')
  (P:PG c wr (some env.locals) π₀ H₀ s₀ S.H π s)(F:Bu π S.H.length fr env)(L:Br c π S.H.length s.heap env.locals lo)(x:I 0 π S.H.length s.heap)(hacc:acc<S.H.length)(ha:π.at' acc=a)(D:LG π₂ n₂ H₂ π S.H):
  EM c.m A (.compLoop (.ListComp elt [⟨t,iter,ifs,0⟩] sc pos) 0 it (.ref a) env) RR s:=by
 refine aB (vp c fr r acc src t ifs elt S' wr env.locals env π₀ H₀ s₀ I a π₂ n₂ H₂) (λn s h=>Bl λGG fin=>?_) k ⟨0,lo,S,π,h,P,F,L,x,hacc,ha,D⟩
 refine AH h λi h=>h.elim λlo h=>h.elim λS h=>h.elim λπ h=>?_
 induction n using LO with
 |zero=>cases h.1
 |succ n=>
  refine(FC h.1).elim λo q=>fin (IP.nx o q.1 A π s _ _ R h.2.1.g h.2.2.2.2.1 λco s₁ hn=>?_)
  induction o using BL with
  |none=>
   cases q.2
   rw[hn.1]
   exact hR lo s₁ π (h.2.1.step hn.2 hX) h.2.2.2.2.2.2.2 (hn.2.l h.2.1.g h.2.2.2.1) h.2.2.2.2.2.1 h.2.2.2.2.2.2.1
  |some v=>
   refine Bl λGG fin=>(FC q.2).elim λp q=>(FC q.2).elim λb z=>AH hn λcv hn=>?_
   have bi:=YT Sd b z.1
   have e:=z.2
   refine fin ?_
   rw[hn.1]
   refine hn.2 _ _ λs₂ K x₂ r₂=>?_
   have P₂:=h.2.1.step K hX
   have L₂:=K.l h.2.1.g h.2.2.2.1
   refine AJ ((Ny p q.1).1 A env π s₂ _ cv R h.2.2.1 P₂.g L₂ r₂) (λ_ s₃ u=>Bl λGG fin=>?_) λ_ _ x=>x
   have D₃:=h.2.2.2.2.2.2.2.pg P₂.g u.1 hn₂
   have x₃:=IP.pg u.1 P₂.g L₂.dict x₂
   have P03:=P₂.trans (u.1.Kj hw)
   have YU:=BX h.2.2.2.2.2.1 u.1.le
   cases g:b.v with
   |true=>
    rw[g] at e
    refine(FC e).elim λy z=>have ye:=z.1;(FC z.2).elim λS₆ z=>(QJ S₆ z.1).elim λxs w=>?_
    have oy:=(show S₆.ob=y.S.ob by rw[w.2.2];rfl)▸Po Sd S' z.2 ho
    have ev:=Sd.E _ _ _ _ y ye oy
    refine fin ((bi ev.1).2 A env π s₃ _ _ R (u.1.fr h.2.2.1) u.1.g u.2.1 λs₄ π₄ P₄ F₄ L₄=>?_)
    rw[g,Bh rfl]
    refine ev.2.use R F₄ P₄.g L₄ λcx s₅ π₅ P₅ F₅ L₅ r₅=>?_
    have nP:=BX YU P₄.le
    have ha5:π₅.at' acc=a:=by rw[P₅.agree acc nP,P₄.agree acc YU];exact h.2.2.2.2.2.2.1
    rw[<-ha5]
    refine j0 w.1 w.2.1 (Nat.max_le.mpr ⟨hwa,hna⟩) P₅.g r₅ λs₆ P₆=>?_
    have e6:S₆.H=y.S.H.set acc (.list (xs++[y.v])):=by rw[w.2.2];rfl
    rw[<-e6] at P₆
    have P05:=(P03.trans (P₄.any.Kj hw)).trans (P₅.any.Kj hw)
    exact⟨n,CF n,i+1,p.v,S₆,π₅,z.2,P05.trans (P₆.any.Kj (LN _ _)),P₆.fr F₅,L₅.pg P₆ P₅.g,IP.pg P₆ P₅.g C9.none (IP.pg P₅ P₄.g C9.none (IP.pg P₄ u.1.g C9.none x₃)),BX nP (AA P₅.le P₆.le),rfl,
     ((D₃.pg u.1.g P₄ hn₂).pg P₄.g P₅ hn₂).pg P₅.g P₆ (LM _ _)⟩
   |false=>
    rw[g] at e
    refine fin ((bi (Po Sd S' e ho)).2 A env π s₃ _ _ R (u.1.fr h.2.2.1) u.1.g u.2.1 λs₄ π₄ P₄ F₄ L₄=>?_)
    rw[g,AD BJ]
    exact⟨n,CF n,i+1,p.v,b.S,π₄,e,P03.trans (P₄.any.Kj hw),F₄,L₄,IP.pg P₄ u.1.g C9.none x₃,BX YU P₄.le,(P₄.agree acc YU).trans h.2.2.2.2.2.2.1,D₃.pg u.1.g P₄ hn₂⟩
end
section
variable{c:Cx}{d:Nat}{fr:FD}{lo Bv BK:Lo}{H H' EY H1 H2 H3:List AO}
theorem Qj
  (h:∀f:Str×BD->List (Str×Ah)->Sem (Em (List (Str×Ah))),(∀name kind cells,f (name,kind) cells=if kind==.cell then (do let a <-alloc {cls:=.type "cell",data:=.cell none};pure (.yield ((name,a)::cells))) else pure (.yield cells))->
   Ae M A (forIn scope.names closure f) (λcells s₁=>Q {scope,locals:=s.heap.objs.size,globals,cells,qual,func:=none,code:=outer.code,frame:=outer.frame,builtins:=outer.builtins} s₁) E
    {s with heap:=s.heap.push {cls:=.type "dict",data:=.dict #[]}}):
  Ae M A (Of scope globals closure [] qual none .none (some outer)) Q E s:=by
 simp only[Of,Ab.isSome_some,if_true]
 refine Ac (wpAny_alloc ?_)
 refine Ac (AJ (h _ λname kind cells=>by cases hkc:kind==Mm<;>simp[hkc]) (λcells s₁ h₁=>?_) λ_ _ x=>x)
 rw[LJ]
 exact Ac (An (An h₁))
theorem j1(F:Bu π n fr env)(names:List (Str×BD)):(names.map λ(x,k)=>if (k==.free&&env.scope.kind==.function&&env.kindOf x==some .cell) then (x,Mm) else (x,k))=T8 fr names:=by
 induction names with
 |nil=>rfl
 |cons p t ih=>
  obtain ⟨x,k⟩:=p
  have hk:env.kindOf x=CX fr x:=by unfold Sg CX;rw[F.scope,D8]
  have hs:(env.scope.kind==dt)=true:=by rw[F.kd];rfl
  rw[ED,ih]
  show(if (k==BD.free&&env.scope.kind==dt&&env.kindOf x==some Mm)=true then (x,Mm) else (x,k))::T8 fr t=cond (isFree k) ((x,cond (Bz (CX fr x) EX) .cell .free)::T8 fr t) ((x,k)::T8 fr t)
  rw[hk,hs,NR]
  cases k with
  |free=>induction CX fr x using BL with
   |none=>rfl
   |some q=>rcases q with ⟨⟩<;>rfl
  |_=>rfl
theorem DK(h:isLocal k=true):k=.local:=by rcases k with ⟨⟩<;>first | rfl | exact ff h
theorem A0{p:α->Aa}(h:Bz o p=true):∃a,o=some a/\p a=true:=by
 induction o using BL with
 |none=>cases h
 |some a=>exact⟨a,rfl,h⟩
theorem e9(h:Qy all names=true)(x)(hx:x∈names)(hl:x.2=.local):all.lookup x.1=some .local:=by
 have h:=BW.mp h x hx
 rw[hl] at h
 exact(A0 h).elim λk q=>(D8 ..).symm.trans (DK q.2▸q.1)
theorem PG.vq(P₂:PG c wr none π H s H1 π₂ s₂)(P':PG c wr (some C) π H s H2 π' s')(D:LG π₂ H1.length H1 π' H2)(hC:s.heap.get? C=none):PG c wr none π H s H1 π₂ s':=
 have ne:∀{b o},¬ Xw π none b->s.heap.get? b=some o->¬ Xw π (some C) b:=λhb e x=>x.elim (λq=>nomatch hC.symm.trans ((Ai s.heap.get? (AQ q)).trans e)) λm=>hb (.inr m)
 {P₂ with
  kp:=⟨λb o hb ht e=>P'.kp.keep b o (ne hb e) ht e,λb o hb e=>P'.kp.there b o (ne hb e) e,P'.kp.tabs,P'.kp.tok,P'.kp.os,P'.kp.gens⟩
  there:=P'.there
  g:=P₂.g.back P'.g D
  same:=P'.same}
theorem PG.vr{m}(G0:Av c π H s)(P:PG c wr L π H s H1 π₁ s₁)(hC:s.heap.get? C=none)(hM:¬ π₁.M C)(hn:s₁.heap.Ns C m)(hs:Hb C s₁.heap h'):
  PG c wr L π H s H1 π₁ {s₁ with heap:=h'}/\Jt π₁ H1.length s₁.heap π₁ H1.length h':=by
 refine(Ns.obj hn).elim λo q=>q.elim λes q=>q.elim λk q=>?_
 have K:Kp (λb=>b=C) s₁ {s₁ with heap:=h'}:=.one q.1 (.data (Fz q.2)) (λb o' hb e=>(hs.2 b hb).trans e) trivial P.g.tabs
 have hok:mY π₁ s₁.heap (λb=>b=C):=λb z=>.inr (.inl (.inl ⟨o,es,k,z▸q⟩))
 have hnf:jz s₁.heap (λb=>b=C):=λb ob z e=>.data (AQ (q.1.symm.trans (z▸e))▸Fz q.2)
 have ne:∀{b o},s.heap.get? b=some o->b≠C:=λe q=>nomatch hC.symm.trans ((Ai s.heap.get? q.symm).trans e)
 exact⟨{P with
  kp:=P.kp.trans' K (λ_ x=>x) λb o' x e=>AL x (ne e)
  there:=λb o' e=>(P.there b o' e).imp λo'' uf=>(hs.2 b (ne e)).trans uf
  g:=P.g.upd K hok hnf (λb q=>q▸G0.absent hC) (λb q hm=>AL (q▸hm) hM) rfl λl o' e=>.inl ⟨e,λq=>hM (q▸P.g.mem l (P.g.lt e))⟩
  same:=λb o' hb hn e=>(hs.2 _ (ne e)).trans (P.same b o' hb hn e)},Kp.En (s':={s₁ with heap:=h'}) K P.g.tabs hok hnf (AP _) (λ_ _=>rfl) (λ_ h=>.inl h)⟩
def j2(c:Cx)(d:Nat)(fr:FD)(lo:Lo)(H:List AO)(elt t iter:Expr)(ifs:List Expr)(sc:BR)(cp:Pos)(v:AV)(H1:List AO):Prop:=
 ∀(A:AG)(env:Env)(π:Pl)(s:Aj)(E:EP)(pos:Pos)(use:Ab (Ad->Sem Ce))(Q:EP),A5 d A->Bu π H.length fr env->Av c π H s->Br c π H.length s.heap env.locals lo->
  (∀acc C s' π',PG c fr.wr none π H s H1 π' s'->As π' H1.length s'.heap v acc->(∃m,s'.heap.Ns C m)->s.heap.get? C=none->¬ π'.M C->compPost c.m A E use Q acc C (.ok .next) s')->
  Ae c.m A (comprehension (.ListComp elt [⟨t,iter,ifs,0⟩] sc cp) sc env pos (newList []) false (eval iter env) use) Q E s
theorem By.lay(hok:By π n cl fc)(hle:n<=n₂)(ha:∀l,l<n->π₂.at' l=π.at' l):By (ext π₂ n₂ a) (n₂+1) cl fc:=
 ⟨λx hx=>(hok.1 x hx).trans <| by
  cases q:fc.lookup x with
  |none=>rfl
  |some l=>exact Ai some ((Eo (BX (hok.2 x l q) hle)).trans (ha l (hok.2 x l q))).symm,λx l hl=>Nat.lt_succ_of_le (DX (BX (hok.2 x l hl) hle))⟩
theorem Xk(Sd:Bk c d r):Ok (SG r fr S1 src t ifs elt sc) λx=>AX S1 x.S (x.S.H=S1.H/\SD src t=true/\
  ∀{lo:Lo}{H:List AO}{iter:Expr}{cp:Pos},Pn c d fr lo H iter t src S1.H->Gp iter=true->j2 c d fr lo H elt t iter ifs sc cp x.v S1.H):=by
 refine .guard λve=>JH.bind λfc hfc=>Ok.self.bind λS2 hl=>(nM (c:=c)).bind λv hz=>.some λho=>⟨(show(S1.on ((S1.H++[.list []])++AK sc.names)).ob=true from Po Sd S2 hl ho),rfl,Ax ve,λ{lo H iter cp} hit hn A env π s E pos use Q R F G L post=>?_⟩
 have k:=SR (Ax (Am ve))
 refine(hfc F).elim λcl hcl=>wpAny_comprehension_free rfl (JG hn env) hcl.1 k.1 (e9 (Am (Am ve))) ?_
 refine AJ (hit A env π s E R F G L) (λx s₁ h₁=>AJ h₁ (λit s₂ h₂=>Bl λGG fin=>h₂.elim λπ₂ q=>q.elim λX q=>q.elim λI q=>fin (Oi ?_)) λ_ _ x=>x) λ_ _ x=>x
 have P₂:=q.1
 have IP:=q.2.2.1
 have P₃:PG c S1.H.length none π₂ S1.H s₂ (S1.H++[.list []]) (ext π₂ S1.H.length s₂.heap.objs.size) {s₂ with heap:=s₂.heap.push {cls:=.type "list",data:=.seq ([]:List Ad).toArray}}:=
  .add P₂.g (AP _) (Kp.BU _) (Bx _ (AP _)) ⟨#[],_,Bp _ rfl,.nil⟩ ⟨_,Bp _ rfl,.data nofun⟩
 rw[F.glob]
 refine Qj λf hf=>?_
 generalize ({s₂ with heap:=s₂.heap.push {cls:=.type "list",data:=.seq ([]:List Ad).toArray}}:Aj)=s₃ at P₃ ⊢
 have e1:(S1.H++[AO.list []]).length=S1.H.length+1:=BP
 have vt:s₃.heap.get? s₃.heap.objs.size=none:=Bx _ (AP _)
 have P₄:=P₃.DT (HM:={s₃ with heap:=s₃.heap.push {cls:=.type "dict",data:=.dict #[]}}) (Kp.BU _)
 refine Ui (wr:=S1.H.length) f hf sc.names cl fc (S1.H++[.list []]) _ _ _ k.2.2.2 P₄.g (e1.symm▸hcl.2.1.lay P₂.le P₂.agree) (λcells s₅ π₅ P₅ hc Aet=>?_) (e1.symm▸Dw _)
 have pX:=P₄.trans P₅
 have hL0:Br c (ext π₂ S1.H.length s₂.heap.objs.size) (S1.H++[AO.list []]).length (s₃.heap.push {cls:=.type "dict",data:=.dict #[]}) s₃.heap.objs.size []:=⟨⟨_,Ay.Ns.new s₃.heap (.type "dict"),λx v e=>nomatch e⟩,P₃.g.Ki,P₃.g.absent vt⟩
 have IY:(S1.H++[AO.list []]).length<=((S1.H++[AO.list []])++AK sc.names).length:=by rw[BP (as:=S1.H++[AO.list []])];exact BG _ _
 have Aan:relabel sc env={sc with names:=T8 fr sc.names}:=by unfold relabel;rw[j1 F]
 have F₅:Bu π₅ ((S1.H++[AO.list []])++AK sc.names).length (DJ fr S1.H.length sc fc)
   {scope:=relabel sc env,locals:=s₃.heap.objs.size,globals:=DN,cells:=cells,qual:=env.qual,func:=none,code:=env.code,frame:=env.frame,builtins:=env.builtins}:=
  ⟨Aan,k.1,rfl,F.bi,λx hx=>(hc.1 x hx).trans (by rw[e1];rfl),λq=>(nomatch q),λx l hx=>hc.2 x l (by rw[e1];exact hx),λq=>AL rfl q,F.qual,AA (Bn e1.symm) IY⟩
 have hCs:=P₂.gone (P₃.gone vt)
 have vu:S1.H.length<((S1.H++[AO.list []])++AK sc.names).length:=BX (e1▸CF _) IY
 have hw:=AA F.wr P₂.le
 have fb:∀it',Pj c d src t it' X I->EM c.m A (.compLoop (.ListComp elt [⟨t,iter,ifs,0⟩] sc cp) 0 it' (.ref s₂.heap.objs.size)
   {scope:=relabel sc env,locals:=s₃.heap.objs.size,globals:=DN,cells:=cells,qual:=env.qual,func:=none,code:=env.code,frame:=env.frame,builtins:=env.builtins})
   (compPost c.m A E use Q (.ref s₂.heap.objs.size) s₃.heap.objs.size) s₅:=λit' IP'=>
  Us Sd IP' hl ho R q.2.1 (AA hw (Dw _)) hw (Dw _) (AP _) (λBv s₆ π₆ P₆ D₆ L₆ vv Aap=>
    post _ _ s₆ π₂ (PG.vq P₂ P₆ D₆ hCs) (hz π₂ π₆ S1.H s₆ D₆ P₆.g _ ⟨vv,by rw[Aap]⟩) (L₆.ns.imp λm q=>q.1) hCs λq=>L₆.nl (D₆.mono _ q))
   (P₂.trans (pX.Kj hw)).any F₅ (hL0.pg P₅ P₄.g) (IP.pg pX P₂.g C9.none q.2.2.2) vu ((P₅.agree _ (e1▸CF _)).trans D7) (LG.refl.pg P₂.g pX (AP _))
 exact codeAny_compStart_list (fb it IP) (IP.self (IP.pg pX P₂.g C9.none q.2.2.2) (fb it IP))
theorem Bt.comp(run:j2 c d fr lo H elt t iter ifs sc cp v H1):Bt c d fr lo H (.ListComp elt [⟨t,iter,ifs,0⟩] sc cp) v H1:=by
 intro A env π s E R F G L
 rw[eval_ListComp]
 refine run A env π s E _ none _ R F G L λacc C s' π' P rv hm hC hM=>hm.elim λm hn=>⟨m,hn,λh' hs=>?_⟩
 have q:=PG.vr G P hC hM hn hs
 exact⟨π',q.1,rv.step q.2⟩
end
section
variable{c:Cx}{d:Nat}{fr:FD}{lo Bv BK:Lo}{H H' EY H1 H2 H3:List AO}
def Pp(h:Ay)(e:Ah):Prop:=∃o,h.get? e=some o/\o.cls=.type "StopIteration"
theorem YV(hh:A.handled=none)(hit:s.heap.IsTupleIter it t i)(ht:s.heap.IsTuple t items)
  (hQ:∀x,items[i]?=some x->∀h',h'.IsTupleIter it t (i+1)->Hb it s.heap h'->Q x {s with heap:=h'})
  (hE:items[i]?=none->∀h' e,Hc it s.heap h'->Pp h' e->E (.ref e) {s with heap:=h'}):Ae c.m A (Sa (.ref it)) Q E s:=by
 refine Bl λGG fin=>AH hit λo q=>(Mu ht).elim λdd z=>z.elim λn z=>z.elim λsl hol=>fin ?_
 refine Ac (Oc hit.typeIs c5 (GY c5 hit.typeIs F.entry_tuple_iterator_next ?_ (F.args_tuple_iterator_next_1 _)))
 show Ae _ _ (field (.ref it) 0>>=_) _ _ s
 refine Ac (DZ q.1 q.2.2 rfl ?_)
 show Ae _ _ (if (Bq t==D1)=true then _ else _) _ _ s
 rw[AD (show ¬ ((Bq t==D1)=true) from BJ)]
 refine Ac (DZ q.1 q.2.2 rfl ?_)
 refine Ac (FR hol rfl ?_)
 simp only[NV]
 cases hx:items[i]? with
 |some x=>
  refine Ac (RK q.1 q.2.2 (by simp) (An ⟨x,rfl,An (hQ x hx _ ⟨_,Kz _ q.1 (dq (R4 q.2.2 _)),(Obj.cls_mapFields ..).trans q.2.1,?_⟩ (Ml ..))⟩))
  rw[R4 q.2.2];rfl
 |none=>
  refine Ac (Gd (Ac (RK q.1 q.2.2 (by simp) ?_)))
  refine Ac ?_
  refine Ac (Eu ?_ (by size_fits))
  refine Ac (Ci (by first | rfl | (simp only[firstArgMember];rfl)) ?_)
  refine Eu ?_ (by size_fits)
  refine Ac (wpAny_handled ?_)
  first | rw[hh] | rw[hh]
  exact Ac (An (wpAny_throw (hE hx _ _ (((Ml ..).extBut.push _).push _) ⟨_,Bp _ rfl,rfl⟩)))
noncomputable def nQ:Src->Aa
 |.lst _=>true
 |.loc _=>true
 |_=>false
def DrQ(c:Cx)(π:Pl)(H:List AO)(s:Aj)(src:Src)(it:Ad)(i:Nat)(o:Ab AV)(Q E:EP):Prop:=match o with
 |some v=>∀cv s₁,BN c π H (λb=>it=.ref b) s s₁->Kw c src it (i+1) π H.length s₁.heap->As π H.length s₁.heap v cv->Q cv s₁
 |none=>∀s₁ e,BN c π H (λb=>it=.ref b) s s₁->Pp s₁.heap e->E (.ref e) s₁
section
variable{src:Src}{i:Nat}{A:AG}{π:Pl}{s:Aj}{E Q:EP}{I:Ah}
theorem Xl(G:Av c π H s)(hI:Kn π s.heap I)(hB:c.B.heap.get? I=none)(he:Hc I s.heap h'){fs}(hty:jY ty=true)(hit:∃o,h'.get? I=some o/\o.cls=.type ty/\o.data=.fields fs)
  (k:DrQ c π H s src (.ref I) i (some v) Q E)(h:Jt π H.length s.heap π H.length h'->KR src I (i+1) π H.length h'/\As π H.length h' v cv):Q cv {s with heap:=h'}:=
 have K:=Hm G hI hB he
 have q:=h (K.En G)
 k _ _ K ⟨I,rfl,vm hI.1 hit hty,hB,q.1⟩ q.2
theorem j3(hz:nQ src=true):Ok (src.at H i) λo=>∀(A:AG)(π:Pl)(s:Aj)(it:Ad)(Q E:EP),A.handled=none->Av c π H s->Kw c src it i π H.length s.heap->DrQ c π H s src it i o Q E->Ae c.m A (Sa it) Q E s:=by
 induction src using Src.casesOn with
 |lst xs=>
  refine .some λA π s it Q E hh G x k=>x.elim λI q=>?_
  rw[q.1] at k ⊢
  refine AH q.2.2.2 λa z=>?_
  cases e:xs[i]? with
  |none=>
   rw[e] at k
   have fin:∀h' e,Hc I s.heap h'->Pp h' e->E (.ref e) {s with heap:=h'}:=λh' e he hs=>k _ e (Hm G q.2.1 q.2.2.1 he) hs
   exact z.elim (λz=>z.2.lst.elim λa' y=>y.elim λvs y=>wpAny_nextOf_list_end hh z.1 (CV y.1▸y.2.1) (Jl y.2.2.2 e) fin) λz=>z.2.tup.elim λa' y=>y.elim λvs y=>YV hh z.1 (CV y.1▸y.2.1) (λx hx=>nomatch (Jl y.2.2.2 e).symm.trans hx) λ_=>fin
  |some v=>
   rw[e] at k
   exact z.elim (λz=>z.2.lst.elim λa' y=>y.elim λvs y=>(Ko y.2.2.2 e).elim λw u=>wpAny_nextOf_list_item z.1 (CV y.1▸y.2.1) u.1 λh' hit hs=>Xl G q.2.1 q.2.2.1 hs.extBut ⋯ hit k λS=>⟨⟨a,.inl ⟨hit,z.2.step S⟩⟩,u.2.step S⟩)
    λz=>z.2.tup.elim λa' y=>y.elim λvs y=>(Ko y.2.2.2 e).elim λw u=>YV hh z.1 (CV y.1▸y.2.1) (λx hx h' hit hs=>AQ (u.1.symm.trans hx)▸Xl G q.2.1 q.2.2.1 hs.extBut ⋯ hit k λS=>⟨⟨a,.inr ⟨hit,z.2.step S⟩⟩,u.2.step S⟩) λhx=>nomatch u.1.symm.trans hx
 |loc l=>
  refine listAt.bind λxs ex=>.some λA π s it Q E hh G x k=>x.elim λI q=>(G.objs l _ ex).elim λvs y=>y.elim λkk y=>?_
  rw[q.1] at k ⊢
  cases e:xs[i]? with
  |none=>
   rw[e] at k
   exact wpAny_nextOf_list_end hh q.2.2.2.2 ⟨_,y.1,rfl,kk,rfl⟩ (Jl y.2 e) λh' e he hs=>k _ e (Hm G q.2.1 q.2.2.1 he) hs
  |some v=>
   rw[e] at k
   exact(Ko y.2 e).elim λw u=>wpAny_nextOf_list_item q.2.2.2.2 ⟨_,y.1,rfl,kk,rfl⟩ u.1 λh' hit hs=>Xl G q.2.1 q.2.2.1 hs.extBut ⋯ hit k λS=>⟨⟨q.2.2.2.1,hit⟩,u.2.step S⟩
 |_=>exact ff hz
end
structure aE(c:Cx)(l:Nat)(zs:List (Src×Ah))(z TI:Ah)(f0:Ad)(i:Nat)(π:Pl)(n:Nat)(h:Ay):Prop where
 hz:Iq h z TI (π.at' l) f0
 zM:¬ π.M z
 zB:c.B.heap.get? z=none
 lt:l<n
 ti:h.get? TI=some {cls:=.type "tuple",data:=.seq (zs.map λp=>Bq p.2).toArray}
 tM:¬ π.M TI
 nd:(zs.map (·.2)).Nodup
 QK:∀p∈zs,nQ p.1=true/\Kw c p.1 (.ref p.2) i π n h
theorem fe(hz:Iq h z TI TO f0)(zM:¬ π.M z):Kn π h z:=⟨zM,_,hz,.of ⋯ rfl rfl⟩
theorem aE.pg(P:PG c wr L π H s H' π' s')(G:Av c π H s)(hL:C9 s.heap L)(x:aE c l zs z TI f0 i π H.length s.heap):
  aE c l zs z TI f0 i π' H'.length s'.heap:=
 have w:=(fe x.hz x.zM).pg P G hL
 ⟨by rw[P.agree l x.lt];exact w.2 _ x.hz,w.1.1,x.zB,BX x.lt P.le,P.kp.keep TI _ (λq=>q.elim (λq=>(hL TI q).elim λo' y=>y.elim λes y=>y.elim λk y=>by have e:=AQ (y.1.symm.trans x.ti);rw[e] at y;rcases y.2 with ⟨⟩) x.tM) (G.tabs.D4 x.ti nofun) x.ti,
  λq=>(P.new TI q).elim x.tM λq=>(nomatch q.symm.trans x.ti),x.nd,λp hp=>⟨(x.QK p hp).1,(x.QK p hp).2.pg P G hL⟩⟩
def ZX(z TO:Ah)(zs:List (Src×Ah)):Ah->Prop:=λb=>b=z\/b=TO\/∃p∈zs,p.2=b
theorem BN.trans(G:Av c π H s)(K:BN c π H X s s')(K':BN c π H Y s' HM)(hY:∀b,Y b->X b):BN c π H X s HM:=
 ⟨K.kp.trans (K'.kp.weaken hY),K.is,λl k e _=>(K'.g (K.g G)).objs l _ e⟩
theorem BN.no(K:Kp no s s'):BN c π H no s s':=⟨K,λ_ x=>x.elim,λ_ _ _ x=>x.elim⟩
theorem Ut(G:Av c π H s)(hz:Iq s.heap z TI TO f0)(zM:¬ π.M z)(zB:c.B.heap.get? z=none)(hs:Hb z s.heap h'):BN c π H (λb=>b=z) s {s with heap:=h'}:=
 have K:=Hm G (fe hz zM) zB (h':=h') hs.extBut
 ⟨K.kp.weaken λb q=>(CV q).symm,λb q=>K.is b (Ai Bq q.symm),λl k e q=>K.raw l k e (Ai Bq q.symm)⟩
theorem pY(G:Av c π H s)(e:H[l]?=some (.raw k))(ho:s.heap.get? (π.at' l)=some {cls:=.type "tuple",data:=.seq vs kd})(j:Nat)(x:Ad):
  BN c π H (λb=>b=π.at' l) s {s with heap:=s.heap.update (π.at' l) (C6 (·.setIfInBounds j x))}/\
   (s.heap.update (π.at' l) (C6 (·.setIfInBounds j x))).get? (π.at' l)=some {cls:=.type "tuple",data:=.seq (vs.setIfInBounds j x) kd}:=by
 have Qi:(s.heap.update (π.at' l) (C6 (·.setIfInBounds j x))).get? (π.at' l)=some {cls:=.type "tuple",data:=.seq (vs.setIfInBounds j x) kd}:=Kz (C6 (·.setIfInBounds j x)) ho rfl |>.trans (by simp[C6])
 have hs:Hb (π.at' l) s.heap (s.heap.update (π.at' l) (C6 (·.setIfInBounds j x))):=Ml ..
 refine⟨⟨.one ho (.data nofun) (λb o' hb e=>(hs.2 b hb).trans e) trivial G.tabs,λb q=>.inr ⟨l,k,e,q.symm⟩,λl' k' e' q=>?_⟩,Qi⟩
 rcases G.inj l' l (G.lt e') (G.lt e) q with ⟨⟩
 exact AH (G.objs _ _ e') λvs' y=>y.elim λkd' y=>⟨_,_,Qi,by
  have h:=AQ (ho.symm.trans y.1)
  rcases h with ⟨⟩
  rw[VQ];exact y.2⟩
structure fh(c:Cx)(π:Pl)(H:List AO)(s:Aj)(l:Nat)(zs:List (Src×Ah))(z TI:Ah)(i:Nat)(zs₁ zs₂:List (Src×Ah))(vs₁:List AV)(s':Aj):Prop where
 K:BN c π H (ZX z (π.at' l) zs) s s'
 z:Iq s'.heap z TI (π.at' l) .ellipsis
 to:∃arr kd cvs,s'.heap.get? (π.at' l)=some {cls:=.type "tuple",data:=.seq arr kd}/\arr.size=zs.length/\Ag π H.length s'.heap vs₁ cvs/\cvs.length=zs₁.length/\∀q,q<cvs.length->arr[q]?=cvs[q]?
 i1:∀p∈zs₁,Kw c p.1 (.ref p.2) (i+1) π H.length s'.heap
 i2:∀p∈zs₂,nQ p.1=true/\Kw c p.1 (.ref p.2) i π H.length s'.heap
theorem Kw.isIt(x:Kw c src (.ref it) i π n h):Kn π h it/\c.B.heap.get? it=none:=x.elim λI q=>CV q.1▸⟨q.2.1,q.2.2.1⟩
theorem Kw.yU(x:Kw c src (.ref it) i π n h)(hz:Iq h z TI TO f0):it≠z:=λq=>x.elim λI y=>y.2.2.2.cls.elim λty w=>w.1.elim λo u=>by
 rcases y.1 with ⟨⟩;subst q
 have e:=AQ (u.1.symm.trans hz)
 have t:=(by rw[e] at u;exact u.2)
 have h:=w.2
 rw[<-Fl.inj t] at h
 revert h;decide +kernel
def nR(z TO:Ah)(f:Ad×Nat->Ab G3×Ce->Sem (Em (Ab G3×Ce))):Prop:=
 ∃(W:Ad->Nat->Sem (Em (Ab G3×Ce))),∀(it:Ad)(k:Nat)(u:Ab G3×Ce),f (it,k) u=(((Sa it>>=λv=>pure (some v)).onRaise λ_=>setField (.ref z) 0 .none)>>=λr=>match r with
  |some x=>(seqItems? (.ref TO)>>=λo=>match o with
   |some kept=>(updateSeq TO (·.setIfInBounds k x)>>=λ_=>PySem.letGo [kept.getD k .none]>>=λ_=>pure (Gj (none,())))
   |none=>(RQ "internal:zip.__next__" >>=λ(_:Ce)=>pure (Gj (none,()))))
  |none=>W it k)
theorem YW(h:b≠a):¬ Bq a=.ref b:=λq=>h (CV q).symm
theorem le8(h:n<=8):n<=BY:=AA h ⋯
section
variable{A:AG}{π:Pl}{s s':Aj}{l:Nat}{z TI:Ah}{i:Nat}{zs zs₁ zs₂:List (Src×Ah)}{vs₁:List AV}
theorem nS{E:EP}{Q:Em (Ab G3×Ce)->Aj->Prop}(hh:A.handled=none)
  (hf:nR z (π.at' l) f)(h8:zs.length<=8)(hr:H[l]?=some (.raw zs.length))(zM:¬ π.M z)(zB:c.B.heap.get? z=none)(hs:zs=zs₁++(src,it)::zs₂)(nd:(zs.map (·.2)).Nodup)(G:Av c π H s)
  (M:fh c π H s l zs z TI i zs₁ ((src,it)::zs₂) vs₁ s')(hv:src.at H i=some o)(u:Ab G3×Ce)
  (k:match o with
   |some v=>∀HM,fh c π H s l zs z TI i (zs₁++[(src,it)]) zs₂ (vs₁++[v]) HM->Q (.yield (none,())) HM
   |none=>∀HM e,BN c π H (ZX z (π.at' l) zs) s HM->Pp HM.heap e->E (.ref e) HM):Ae c.m A (f (.ref it,zs₁.length) u) Q E s':=by
 refine Bl λGG fin=>AH hf λW hf=>M.to.elim λarr t=>t.elim λkd t=>t.elim λcvs t=>fin ?_
 rw[hf]
 have G':=M.K.g G
 have hit:=M.i2 (src,it) (CT ..)
 have vw:=G.mem l (G.lt hr)
 have vx:=hit.2.isIt.1.1
 have mem:=hs▸Lz _ (CT ..)
 have toZ:∀b,Bq it=.ref b->ZX z (π.at' l) zs b:=λb q=>.inr (.inr ⟨_,mem,CV q⟩)
 have nz:=hit.2.yU M.z
 refine Ac (wpAny_onRaise (Ac (j3 hit.1 o hv A π s' _ _ _ hh G' hit.2 ?_)))
 induction o using BL with
 |none=>
  refine λs₁ e K₁ he=>he.elim λo he=>?_
  have hz₁:=K₁.kp.keep _ _ (YW nz.symm) (G'.tabs.D4 M.z nofun) M.z
  have hez:e≠z:=λq=>by have h:=AQ ((q▸he.1).symm.trans hz₁);rw[h] at he;exact AL he.2 (by simp)
  refine RC hz₁ (by simp) λh₂ hz₂ hs₂=>k _ e ((M.K.trans G K₁ toZ).trans G (Ut (K₁.g G') hz₁ zM zB hs₂) λb q=>.inl q) ⟨o,hs₂.extBut _ _ hez he.1,he.2⟩
 |some v=>
  refine λcv s₁ K₁ x₁ r₁=>An ?_
  have G₁:=K₁.g G'
  have pZ:=K₁.kp.keep _ _ (YW λq=>vx (q▸vw)) (G'.tabs.D4 t.1 nofun) t.1
  have hz₁:=K₁.kp.keep _ _ (YW nz.symm) (G'.tabs.D4 M.z nofun) M.z
  refine Ac (FR pZ rfl ?_)
  have K₂:=pY G₁ hr pZ zs₁.length cv
  refine Ac (EJ pZ rfl (_hz':=by rw[VQ,t.2.1];exact JT (le8 h8)) (Ac (L4 (An (k _ ?_)))))
  have ne2:∀{b},¬ π.M b->¬ (b=π.at' l):=λh q=>h (q▸vw)
  have S:=λ{v cv} (r:As π H.length s'.heap v cv)=>(r.step (K₁.En G')).step (K₂.1.En G₁)
  have hnd:∀p,p∈zs₁\/p∈zs₂->p.2≠it:=λp hp q=>by
   rw[hs,LI,ED] at nd
   have h1:=List.nodup_append.mp nd
   exact hp.elim (λhp=>h1.2.2 p.2 (b8 hp) it (CT ..) q) λhp=>(EC.mp h1.2.1).1 (CD.mpr ⟨p,hp,q⟩)
  have bs:∀{vz:Src}{p:Ah}{j:Nat},p≠it->Kw c vz (.ref p) j π H.length s'.heap->Kw c vz (.ref p) j π H.length (s₁.heap.update (π.at' l) (C6 (·.setIfInBounds zs₁.length cv))):=λhp x=>
   (x.step G' K₁ λI q=>CV q▸YW hp).step G₁ K₂.1 λI q=>CV q▸ne2 x.isIt.1.1
  refine⟨(M.K.trans G K₁ toZ).trans G K₂.1 λb q=>.inr (.inl q),K₂.1.kp.keep _ _ (ne2 zM) (G₁.tabs.D4 hz₁ nofun) hz₁,⟨_,_,cvs++[cv],K₂.2,(VQ ..).trans t.2.1,((t.2.2.1.step (K₁.En G')).step (K₂.1.En G₁)).append (.cons (r₁.step (K₂.1.En G₁)) .nil),by rw[BP,BP,t.2.2.2.1];rfl,λq hq=>?_⟩,
   λp hp=>(LH.mp hp).elim (λhp=>bs (hnd p (.inl hp)) (M.i1 p hp)) λhp=>by
    rcases CL.mp hp with ⟨⟩
    exact x₁.step G₁ K₂.1 λI q=>CV q▸ne2 vx,
   λp hp=>have w:=M.i2 p (Ed _ hp);⟨w.1,bs (hnd p (.inr hp)) w.2⟩⟩
  rw[AE.getElem?_setIfInBounds] at ⊢
  by_cases h:zs₁.length=q
  ·subst h
   rw[Bh rfl,Bh (show zs₁.length<arr.size by rw[t.2.1,hs,BP];exact Wg (N9 _)),<-t.2.2.2.1,bS] at ⊢
  ·have hq':=Nat.lt_of_le_of_ne (Wj (by rw[BP] at hq;exact hq)) λe=>h (t.2.2.2.1▸e.symm)
   rw[AD h,Rc hq',t.2.2.2.2 q hq'] at ⊢
def Aaq(c:Cx)(π:Pl)(H:List AO)(s:Aj)(l:Nat)(zs:List (Src×Ah))(z TI:Ah)(i:Nat)(vs₁:List AV)(E:EP)(Q:Ab G3×Ce->Aj->Prop)(r:Ab (List AV)):Prop:=match r with
 |some vs₂=>∀HM,fh c π H s l zs z TI i zs [] (vs₁++vs₂) HM->Q (none,()) HM
 |none=>∀HM e,BN c π H (ZX z (π.at' l) zs) s HM->Pp HM.heap e->E (.ref e) HM
theorem vA(hh:A.handled=none)
  (hf:nR z (π.at' l) f)(h8:zs.length<=8)(hr:H[l]?=some (.raw zs.length))(zM:¬ π.M z)(zB:c.B.heap.get? z=none)(nd:(zs.map (·.2)).Nodup)(G:Av c π H s):
  ∀{zs₁:List (Src×Ah)}{vs₁:List AV}{s':Aj},zs=zs₁++zs₂->fh c π H s l zs z TI i zs₁ zs₂ vs₁ s'->Ok (Src.jb H i (zs₂.map (·.1))) λr=>Aaq c π H s l zs z TI i vs₁ E Q r->
   Ae c.m A (forIn ((zs₂.map λp=>Bq p.2).zipIdx zs₁.length) ((none,()):Ab G3×Ce) f) Q E s':=by
 induction zs₂ with
 |nil=>
  intro zs₁ vs₁ s' hs M
  rw[DW] at hs
  subst hs
  exact .some λk=>An (k s' (by rw[DW];exact M))
 |cons p zs₂ ih=>
  intro zs₁ vs₁ s' hs M
  refine Ok.self.bind λo hv=>?_
  rw[ED,List.zipIdx_cons,FP]
  induction o using BL with
  |none=>exact .some λk=>Ac (nS hh hf h8 hr zM zB hs nd G M hv _ k)
  |some v=>
   refine Ok.self.bind λr hr'=>.some λk=>Ac (nS hh hf h8 hr zM zB hs nd G M hv _ λHM M'=>?_)
   have e:(zs₁++[p]).length=zs₁.length+1:=BP
   rw[<-e]
   refine ih (hs.trans (by rw[FO];rfl)) M' r hr' ?_
   induction r using BL with
   |none=>exact k
   |some vs₂=>exact λs3 M3=>k s3 (by rw[FO] at M3;exact M3)
theorem p4(G:Av c π H s)(Z:aE c l zs z TI .none i π H.length s.heap)(hr:H[l]?=some (.raw zs.length))
  (hz₁:Iq h₁ z TI (π.at' l) .ellipsis)(hs₁:Hb z s.heap h₁):fh c π H s l zs z TI i [] zs [] {s with heap:=h₁}:=
 have K₁:=Ut G Z.hz Z.zM Z.zB hs₁
 have G₁:=K₁.g G
 ⟨⟨K₁.kp.weaken λb q=>.inl q,λb x=>x.elim (λx=>.inl (x▸⟨fe Z.hz Z.zM,Z.zB⟩)) λx=>x.elim (λx=>.inr ⟨l,_,hr,x.symm⟩) λx=>x.elim λp hp=>.inl (hp.2▸(Z.QK p hp.1).2.isIt),λl' k e _=>G₁.objs l' _ e⟩,hz₁,
  (G₁.objs l _ hr).elim λvs y=>y.elim λkd y=>⟨vs,kd,[],y.1,y.2,.nil,rfl,λq hq=>nomatch hq⟩,λp hp=>(nomatch hp),λp hp=>⟨(Z.QK p hp).1,(Z.QK p hp).2.step G K₁ λI q=>CV q▸(Z.QK p hp).2.yU Z.hz⟩⟩
theorem aE.vB(Z:aE c l zs z TI f0 i π H.length s.heap)(G:Av c π H s):¬ ZX z (π.at' l) zs TI:=λx=>x.elim (λq=>by have h:=(q▸Z.ti).symm.trans Z.hz;simp at h) λx=>x.elim (λq=>Z.tM (q▸G.mem l Z.lt)) λx=>
 x.elim λp hp=>(Z.QK p hp.1).2.isIt.1.2.elim λo y=>y.2.nv (AQ ((hp.2▸y.1).symm.trans Z.ti)▸.inr (.inl rfl))
def ZNx(c:Cx)(π:Pl)(H:List AO)(s:Aj)(l:Nat)(zs:List (Src×Ah))(z TI:Ah)(i:Nat)(Q:Ab Ad->Aj->Prop)(r:Ab (List AV)):Prop:=match r with
 |some vs=>∀(T:Ah) s₁,BN c π H (ZX z (π.at' l) zs) s s₁->aE c l zs z TI (D0 T) (i+1) π H.length s₁.heap->As π H.length s₁.heap (.tup vs) (.ref T)->Q (some (.ref T)) s₁
 |none=>∀s₁,BN c π H (ZX z (π.at' l) zs) s s₁->Q none s₁
theorem vC(Z:aE c l zs z TI f0 i π H.length s.heap)(G:Av c π H s)(G₃:Av c π H s₃)(K03:BN c π H (ZX z (π.at' l) zs) s s₃)
  (hz₃:Iq s₃.heap z TI (π.at' l) .ellipsis)(its₃:∀p∈zs,Kw c p.1 (.ref p.2) (i+1) π H.length s₃.heap)(rt:As π H.length s₃.heap (.tup vs) (.ref T))(k:ZNx c π H s l zs z TI i Q (some vs)):
  Ae c.m A' (Bo.SmallTypes.ownedTupleHandOut (.ref z) (.ref T)>>=λ_=>ret (.ref T)) (λfin s'=>∃v,fin=G3.done (.ret v)/\Ae c.m A (pure (some v)) Q E s') E' s₃:=by
 refine Ac ?_
 refine Ac (RC hz₃ (by simp) λh₄ hz₄ hs₄=>?_)
 have K₄:=Ut G₃ hz₃ Z.zM Z.zB hs₄
 have G₄:=K₄.g G₃
 refine RC hz₄ (by simp) λh₅ hz₅ hs₅=>?_
 have K₅:=Ut G₄ hz₄ Z.zM Z.zB hs₅
 have K05:=(K03.trans G K₄ (λb q=>.inl q)).trans G K₅ λb q=>.inl q
 exact An ⟨_,rfl,An (k T _ K05 ⟨hz₅,Z.zM,Z.zB,Z.lt,K05.kp.keep TI _ (Z.vB G) (G.tabs.D4 Z.ti nofun) Z.ti,Z.tM,Z.nd,λp hp=>have w:=its₃ p hp;have ne:=w.yU hz₃
  ⟨(Z.QK p hp).1,(w.step G₃ K₄ λI q=>CV q▸ne).step G₄ K₅ λI q=>CV q▸ne⟩⟩ ((rt.step (K₄.En G₃)).step (K₅.En G₄)))⟩
theorem vE(hh:A.handled=none)(G:Av c π H s)(Z:aE c l zs z TI .none i π H.length s.heap)(hr:H[l]?=some (.raw zs.length))(h8:zs.length<=8)(hne:zs≠[]):
  Ok (Src.jb H i (zs.map (·.1))) λr=>ZNx c π H s l zs z TI i Q r->Ae c.m A (pyNext (.ref z)) Q E s:=Ok.self.mono λr hv k=>by
 have hT:s.TypeIs (.ref z) "zip" :=⟨_,Z.hz,rfl⟩
 refine Ac (GZ (Oc hT F.slot_zip_next (GY F.slot_zip_next hT F.entry_zip_next ?_ (F.args_zip_next_1 _))))
 show Ae _ _ (field (.ref z) 2>>=_) _ _ _
 refine Ac (DZ Z.hz rfl rfl ?_)
 refine Ac (DZ Z.hz rfl rfl (Ac (FR Z.ti rfl ?_)))
 have h0:(zs.map λp=>Bq p.2).toArray.isEmpty=false:=by
  induction zs using B9 with
  |nil=>exact AL rfl hne
  |cons _ _=>simp
 show Ae _ _ (if (zs.map λp=>Bq p.2).toArray.isEmpty=true then _ else _) _ _ _
 rw[h0]
 refine Ac ?_
 refine Ac (DZ Z.hz rfl rfl (An ?_))
 refine Ac (Gd (Ac (DZ Z.hz rfl rfl (Ac (RC Z.hz (by simp) λh₁ hz₁ hs₁=>Ac (vA (A:=A.in1) hh ?hf h8 hr Z.zM Z.zB Z.nd G rfl (p4 G Z hr hz₁ hs₁) r hv ?_))))))
 case hf=>
  refine⟨?W,λit k u=>?_⟩
  rotate_left
  ·show(Sa it>>=λv=>pure (some v)).onRaise _>>=_=_
   congr 1
   funext r
   rcases r with ⟨⟩
   ·rfl
   ·show(seqItems? (.ref (π.at' l))>>=_)=seqItems? (.ref (π.at' l))>>=_
    congr 1
    funext o
    rcases o with ⟨⟩<;>rfl
 induction r using BL with
 |none=>exact λs₂ e K he=>Ac (Ih he isSubtype_stop (An (k _ K)))
 |some vs=>
  refine λs₂ M=>Bl λGG fin=>M.to.elim λarr t=>t.elim λkd t=>t.elim λcvs t=>fin ?_
  have Aas:arr.toList=cvs:=List.ext_getElem? λq=>(Rr q cvs.length).elim (λhq=>by rw[<-t.2.2.2.2 q hq];simp) λhq=>by
   rw[H4 (by rw[Dt,t.2.1,<-t.2.2.2.1];exact hq),H4 hq] at ⊢
  refine Ac (FR t.1 rfl ?_)
  show Ae _ _ (newTuple arr.toList>>=_) _ _ _
  rw[Aas]
  have G₂:=M.K.g G
  refine Ac (LV ?_)
  have rt:=As.newTuple G₂ t.2.2.1
  generalize s₂.heap.objs.size=T at rt ⊢
  have Kp3:Kp no s₂ {s₂ with heap:=s₂.heap.push {cls:=.type "tuple",data:=.seq cvs.toArray}}:=Kp.BU _
  have K₃:=BN.no (c:=c) (π:=π) (H:=H) Kp3
  have hz₃:Iq (s₂.heap.push {cls:=.type "tuple",data:=.seq cvs.toArray}) z TI (π.at' l) .ellipsis:=B6 _ M.z
  have K03:=M.K.trans G K₃ λ_ x=>x.elim
  have its₃:=λp hp=>(M.i1 p hp).step G₂ K₃ λ_ _=>id
  have G₃:=G₂.DT Kp3
  exact vC Z G G₃ K03 hz₃ its₃ rt k
theorem p6:Ok ((Src.zip l ss).at H i) λo=>H[l]?=some (.raw ss.length)/\∃r,Src.jb H i ss=some r/\o=r.bind λvs=>some (.tup vs):=
 uM.bind λk hk=>.guard λh=>Ok.self.bind λr hr=>.some ⟨Cb h▸hk,r,hr,rfl⟩
theorem aE.iter(ht:T4 25 t=true)(h8:zs.length<=8)(hne:zs≠[]):
  Pj c d (.zip l (zs.map (·.1))) t (.ref z) (ZX z TO zs) (λi π n h=>aE c l zs z TI .none i π n h/\π.at' l=TO) where
 pg:=λP G hL x=>⟨x.1.pg P G hL,(P.agree _ x.1.lt).trans x.2⟩
 nx:=p6.mono λo h A π s E Q R G x k=>h.2.elim λr hr=>by
  have hTO:=x.2
  subst hTO
  have h1:=h.1
  rw[AY] at h1
  rw[hr.2] at k
  refine vE R.handled G x.1 h1 h8 hne r hr.1 ?_
  induction r using BL with
  |none=>exact λs₁ K=>k _ s₁ ⟨rfl,K⟩
  |some vs=>
   refine λT s₁ K Z r=>k _ s₁ ⟨_,rfl,λE' Q' q=>?_⟩
   rcases t with ⟨⟩<;>first | exact ff ht | skip
   refine wpAny_letOwnedTupleGo_zip Z.hz λh' hz' nT=>?_
   have G₁:=K.g G
   have K':=Ut G₁ Z.hz Z.zM Z.zB nT
   exact q _ (K.trans G K' λb q=>.inl q) ⟨⟨hz',Z.zM,Z.zB,Z.lt,nT.extBut _ _ (λq=>Z.vB G₁ (.inl q)) Z.ti,Z.tM,Z.nd,λp hp=>have w:=Z.QK p hp;⟨w.1,w.2.step G₁ K' λI q=>CV q▸w.2.yU Z.hz⟩⟩,rfl⟩ (r.step (K'.En G₁))
 self:=λx q=>wpAny_pyIter_zip x.1.hz q
end
end
section
variable{c:Cx}{d:Nat}{fr:FD}{lo Bv BK:Lo}{H H' EY H1 H2 H3:List AO}
theorem QL(hf:Bt c d fr lo H (.Name x xp) f H)(ha:IT c d fr lo H es vs H1)(hst:D9 es)(hkp:Ef c f)
  (R:A5 d A)(F:Bu π H.length fr env)(G:Av c π H s)(L:Br c π H.length s.heap env.locals lo)
  (k:∀cf cvs s₂ π₂,PG c fr.wr none π H s H1 π₂ s₂->As π₂ H1.length s₂.heap f cf->Ag π₂ H1.length s₂.heap vs cvs->Ae c.m A (call cf cvs []) Q E s₂):
  Ae c.m A (eval (.Call (.Name x xp) es [] p) env) Q E s:=by
 refine Ac (hf.use R F G L λcf s₁ π₁ P₁ F₁ L₁ r₁=>?_)
 rw[hst env p]
 have em:(es.map λe=>(false,eval e env))=(es.map λe=>eval e env).map λt=>(false,t):=by rw[F8];rfl
 refine Iy (NQ.mpr ⟨any_false λx hx=>(CD.mp hx).elim λe q=>q.2▸rfl,rfl⟩) (λh x=>x) ?_
 rw[em]
 refine Dd rfl ?_
 rw[<-em]
 exact AJ (ha A env π₁ s₁ E R F₁ P₁.g L₁) (λcvs s₂ h=>h.elim λπ₂ q=>JX ⟨hkp H1 π₂ s₂ cf q.1.g (r₁.pg q.1 P₁.g),k cf cvs s₂ π₂ (P₁.trans q.1) (r₁.pg q.1 P₁.g) q.2⟩) λ_ _ e=>e
theorem p7(a b c:Ad):checkTypeCall "zip" ⟨[a,b,c],[]⟩=pure ():=⋯
theorem vG(a b c:Ad):Oe "zip.__new__" ⟨[.type "zip",a,b,c],[]⟩=pure ():=⋯
theorem p8(a b c e:Ad):C5 "object.__init__" ⟨[a,b,c,e],[]⟩:=by
 unfold C5;rw[signature?_of (n:=['_','_','t','i','n','i','_','_']) ⋯ F.owner_object] at ⊢;kernel_rfl
theorem aF:Ok (OW S v) λsrc=>Mx c S.H v src/\nQ src=true:=by
 induction v using AV.casesOn with
 |tup xs=>exact .some ⟨KS _ rfl,rfl⟩
 |lst xs=>exact .some ⟨KS _ rfl,rfl⟩
 |loc l=>exact Ok.self.bind λxs e=>.some ⟨KS _ (by show(((S.H[l]?).bind CW).bind λ_=>some (Src.loc l))=_;rw[e];rfl),rfl⟩
 |_=>exact .none
theorem fj{P:α->β->Prop}(hf:∀a,Ok (f a) (P a)):Ok (Gn f as) λbs=>bs.length=as.length/\∀a b,(a,b)∈as.zip bs->P a b:=by
 induction as with
 |nil=>exact .some ⟨rfl,λ_ _ h=>nomatch h⟩
 |cons a as ih=>exact(hf a).bind λb hb=>ih.bind λbs h=>.some ⟨Ai Gb h.1,λx y q=>(Bc.mp q).elim (λe=>by rcases e with ⟨⟩;exact hb) (h.2 x y)⟩
def ZIt(c:Cx)(π:Pl)(H:List AO)(s s':Aj)(p:Src×Ah):Prop:=nQ p.1=true/\Kw c p.1 (.ref p.2) 0 π H.length s'.heap/\s.heap.get? p.2=none
theorem p9
  (hf:∀x a,f x a=(holding a.toList (Fj x)>>=λr=>pure (.yield (a.push r))))(G:Av c π H s)(vs:List AV):
  ∀(ss:List Src)(zs₁:List (Src×Ah))(cvs:List Ad)(s₁:Aj),(ss.length=vs.length/\∀a b,(a,b)∈vs.zip ss->Mx c H a b/\nQ b=true)->Kp no s s₁->Av c π H s₁->(∀p∈zs₁,ZIt c π H s s₁ p)->(zs₁.map (·.2)).Nodup->Ag π H.length s₁.heap vs cvs->
   (∀zs₂ s',zs₂.map (·.1)=ss->Kp no s s'->Av c π H s'->(∀p∈zs₁++zs₂,ZIt c π H s s' p)->((zs₁++zs₂).map (·.2)).Nodup->Q ((zs₁++zs₂).map λp=>Bq p.2).toArray s')->
   Ae c.m A (forIn cvs (zs₁.map λp=>Bq p.2).toArray f) Q E s₁:=by
 induction vs with
 |nil=>
  intro ss zs₁ cvs s₁ h K G₁ b1 nd r k
  induction ss using B9 with
  |cons=>cases h.1
  |nil=>
   rw[r,LJ]
   have k:=k [] s₁ rfl K G₁
   rw[DW] at k
   exact An (k b1 nd)
 |cons v vs ih=>
  intro ss zs₁ cvs s₁ h K G₁ b1 nd r k
  induction ss using B9 with
  |nil=>cases h.1
  |cons src ss=>
  refine AH r λcv r=>r.elim λcvs r=>?_
  have h0:=h.2 v src (CT ..)
  rw[r.1,FP,hf]
  refine Ac (Ac (BF (h0.1 A π s₁ E cv G₁ r.2.1 _ λit s₂ K₂ hfr x₂=>An (x₂.elim λI w=>?_))))
  have hIs:=hfr I w.1
  have x₂':=w.1▸x₂
  rw[w.1]
  have e:(zs₁.map λp=>Bq p.2).toArray.push (.ref I)=((zs₁++[(src,I)]).map λp=>Bq p.2).toArray:=by simp
  rw[e]
  have gone:s.heap.get? I=none:=by
   cases q:s.heap.get? I with
   |none=>rfl
   |some o=>exact(K.there I o id q).elim λo' z=>nomatch hIs.symm.trans z
  refine ih ss (zs₁++[(src,I)]) cvs s₂ ⟨He h.1,λa b q=>h.2 a b (Ed _ q)⟩ (K.trans K₂) (G₁.DT K₂) (λp hp=>(LH.mp hp).elim (λhp=>⟨(b1 p hp).1,(b1 p hp).2.1.step G₁ (.no K₂) λ_ _=>id,(b1 p hp).2.2⟩) λhp=>by
    cases CL.mp hp;exact⟨h0.2,x₂',gone⟩) ?_ (r.2.2.DT K₂ G₁.tabs) λzs₂ s' e2 K' G' b' nd'=>?_
  ·rw[LI,List.nodup_append]
   exact⟨nd,EC.mpr ⟨λq=>(nomatch q),Wc⟩,λa ha b hb q=>(CD.mp ha).elim λp hp=>(b1 p hp.1).2.1.isIt.1.2.elim λo y=>nomatch hIs.symm.trans ((Ai s₁.heap.get? (hp.2.trans (q.trans (CL.mp hb)))).symm.trans y.1)⟩
  ·rw[FO] at b' nd' ⊢
   exact k ((src,I)::zs₂) s' (Ai (src :: ·) e2) K' G' b' nd'
theorem PG.fk(o:Obj)(G:Av c π H s)(hf:o.isFreed=false):
  PG c wr L π H s H π {s with heap:=s.heap.push o}/\s.heap.get? s.heap.objs.size=none/\(s.heap.push o).get? s.heap.objs.size=some o/\¬ π.M s.heap.objs.size:=
 ⟨.pure G (Kp.BU o),Bx _ (AP _),Bp _ hf,G.Ki⟩
theorem PG.qb(G:Av c π H s)(hw:wr<=H.length)(hf:o.isFreed=false)(hok:Jg o)
  (hor:(s.heap.push o).get? s.heap.objs.size=some o->IS (ext π H.length s.heap.objs.size) (H.length+1) (s.heap.push o) ao s.heap.objs.size):
  PG c wr none π H s (H++[ao]) (ext π H.length s.heap.objs.size) {s with heap:=s.heap.push o}/\s.heap.get? s.heap.objs.size=none/\(s.heap.push o).get? s.heap.objs.size=some o:=
 have Qi:=Bp s.heap hf
 have vH:=Bx s.heap (AP _)
 ⟨.add G hw (Kp.BU o) vH (hor Qi) ⟨_,Qi,hok⟩,vH,Qi⟩
def fo(c:Cx)(vs:List AV)(ss:List Src)(wr:Nat)(π₂:Pl)(H:List AO)(s₂:Aj)(z:Ah)(s₃:Aj):Prop:=∃zs π₃ TI,zs.map (·.1)=ss/\PG c wr none π₂ H s₂ (H++[AO.raw vs.length]) π₃ s₃/\(∀b,ZX z (π₃.at' H.length) zs b->s₂.heap.get? b=none)/\aE c H.length zs z TI .none 0 π₃ (H++[AO.raw vs.length]).length s₃.heap/\zs.length=vs.length
theorem j4(G:Av c π₂ H s₂)(hw:wr<=H.length)(hm:ss.length=vs.length/\∀a b,(a,b)∈vs.zip ss->Mx c H a b/\nQ b=true)(h8:vs.length<=8)(rv:Ag π₂ H.length s₂.heap vs cvs)
  (k:∀z s₃,fo c vs ss wr π₂ H s₂ z s₃->Q (.done (.ret (.ref z))) s₃):Ae c.m A (Bo.«zip.__new__» ⟨.type "zip" ::cvs,[]⟩) Q E s₂:=by
 have hty:isType (.type "zip")=pure true:=rfl
 unfold Bo.«zip.__new__»
 simp only[Bo.SmallTypes.newClass,hty,sub_zip,pure_bind,Aa.not_true,VT,if_false,N2,gt_iff_lt,Ff]
 refine Ac ?_
 refine Ac (p9 ?hf G vs ss [] cvs s₂ hm (.refl _) G (λp hp=>nomatch hp) Wc rv λzs s₃ e1 K₃ G₃ b3 nd3=>An ?_)
 case hf=>exact λ_ _=>rfl
 rw[List.nil_append] at b3 nd3 ⊢
 have hzl:zs.length=vs.length:=by rw[<-hm.1,<-e1,AY]
 have hz8:=le8 (hzl▸h8)
 refine Ac (LV (Ac (LV ?_)))
 have P₄:=PG.fk (wr:=wr) (L:=none) (Obj.mk (Fl "tuple") none (Sb ((zs.map λp=>Bq p.2).toArray.toList).toArray) #[]) G₃ rfl
 have P₅:=PG.qb (ao:=.raw vs.length) (o:=Obj.mk (Fl "tuple") none (Sb (((zs.map λp=>Bq p.2).toArray.toList).map λ_=>D1).toArray) #[]) P₄.1.g hw rfl (.data nofun) λhg=>⟨_,_,hg,by simp[hzl]⟩
 have pX:=((PG.pure G K₃).trans P₄.1).trans P₅.1
 refine Ac ?_
 delta Bo.SmallTypes.newRecord Bo.SmallTypes.ownedTupleFields
 refine Eu ?_
 have P₆:=PG.fk (wr:=wr) (L:=none) (Obj.mk (Fl "zip") none (Data.fields ([D1,Ad.bool false]++[Ad.bool false,Bq s₃.heap.objs.size,Bq (s₃.heap.push (Obj.mk (Fl "tuple") none (Sb ((zs.map λp=>Bq p.2).toArray.toList).toArray) #[])).objs.size]).toArray) #[]) P₅.1.g rfl
 have hTI:=P₄.2.2.1
 have hTM:=P₄.2.2.2
 have Aat:=(P₅.1.trans P₆.1).kp.keep _ _ (λq=>q.elim nofun hTM) (P₄.1.g.tabs.D4 hTI nofun) hTI
 have QK:=λp hp=>(b3 p hp).2.1.pg ((P₄.1.trans P₅.1).trans P₆.1) G₃ C9.none
 refine An (k _ _ ⟨zs,_,s₃.heap.objs.size,e1,pX.trans P₆.1,λb x=>x.elim (λx=>x▸pX.gone P₆.2.1) λx=>x.elim (λx=>?_) λx=>x.elim λp hp=>hp.2▸(b3 p hp.1).2.2,
  ⟨by rw[D7];exact P₆.2.2.1,P₆.2.2.2,P₅.1.g.absent P₆.2.1,by rw[BP];exact CF _,Aat,λq=>(P₅.1.new _ q).elim hTM λq=>(nomatch q.symm.trans hTI),nd3,λp hp=>⟨(b3 p hp).1,QK p hp⟩⟩,hzl⟩)
 rw[D7] at x
 exact x▸((PG.pure G K₃).trans P₄.1).gone P₅.2.1
theorem fq{α:Type}{l:List α}(h:l.length=2):∃a b,l=[a,b]:=by
 match l,h with
 |[a,b],_=>exact⟨a,b,rfl⟩
theorem ft{α:Type}{l:List α}(h:l.length=3):∃a b e,l=[a,b,e]:=by
 match l,h with
 |[a,b,e],_=>exact⟨a,b,e,rfl⟩
theorem Pn.zip(ht:T4 25 t=true)(hf:Bt c d fr lo H (.Name x xp) (.val (.type "zip")) H)(ha:IT c d fr lo H es vs H1)(hst:D9 es)
  (hm:ss.length=vs.length/\∀a b,(a,b)∈vs.zip ss->Mx c H1 a b/\nQ b=true)(h23:vs.length=2\/vs.length=3):Pn c d fr lo H (.Call (.Name x xp) es [] p) t (.zip H1.length ss) (H1++[AO.raw vs.length]):=by
 intro A env π s E R F G L
 refine QL hf ha hst .ty R F G L λcf cvs s₂ π₂ P₂ rf rv=>?_
 rcases rf.val with ⟨⟩
 have h8:vs.length<=8:=h23.elim (λh=>h▸⋯) λh=>h▸⋯
 have main:∀(A':AG)(R':Result->Aj->Prop),(∀z s₃,s₃.TypeIs (.ref z) "zip" /\fo c vs ss fr.wr π₂ H1 s₂ z s₃->R' (.ok (.ret (.ref z))) s₃)->
   Ae c.m A' (Bo.«zip.__new__» ⟨.type "zip" ::cvs,[]⟩) (λfin s'=>∃v,fin=.done (.ret v)/\R' (.ok (.ret v)) s') (λe s'=>R' (.error e) s') s₂:=λA' R' hR=>
  j4 P₂.g (AA F.wr P₂.le) hm h8 rv λz s₃ M=>⟨_,rfl,hR z s₃ ⟨M.elim λzs q=>q.elim λπ₃ q=>q.elim λTI q=>⟨_,q.2.2.2.1.hz,rfl⟩,M⟩⟩
 have last:∀z s₃,fo c vs ss fr.wr π₂ H1 s₂ z s₃->Ae c.m A (Fj (.ref z)) (λit s₂=>∃π' X I,PG c fr.wr none π H s (H1++[AO.raw vs.length]) π' s₂/\(∀b,X b->s.heap.get? b=none)/\Pj c d (.zip H1.length ss) t it X I/\I 0 π' (H1++[AO.raw vs.length]).length s₂.heap) E s₃:=λz s₃ M=>
  M.elim λzs q=>q.elim λπ₃ q=>q.elim λTI q=>by
   have IP:=aE.iter (c:=c) (d:=d) (l:=H1.length) (z:=z) (TI:=TI) (TO:=π₃.at' H1.length) ht (q.2.2.2.2▸h8) (λe=>by have:=q.2.2.2.2;rw[e] at this;exact h23.elim (λh=>nomatch this.trans h) λh=>nomatch this.trans h)
   rw[q.1] at IP
   exact IP.self ⟨q.2.2.2.1,rfl⟩ ⟨π₃,_,_,P₂.trans q.2.1,λb x=>P₂.gone (q.2.2.1 b x),IP,q.2.2.2.1,rfl⟩
 have hlen:=rv.length
 refine h23.elim (λh=>(fq (hlen.trans h)).elim λa q=>q.elim λb q=>?_) λh=>(ft (hlen.trans h)).elim λa q=>q.elim λb q=>q.elim λe q=>?_
 ·subst q
  exact callType_newIn dm ⋯ (PySem.F.typeCall_zip_2 _ _) (PySem.F.newCall_zip_2 _ _) (λobj=>PySem.F.args_object_init_3 obj _ _) dj (MeetsIn.of_wp λA R s h=>h)
   (main _ _ λz s₃ h=>⟨h.1,last z s₃ h.2⟩)
 ·subst q
  exact callType_newIn dm ⋯ (p7 _ _ _) (vG _ _ _) (λobj=>p8 obj _ _ _) dj (MeetsIn.of_wp λA R s h=>h)
   (main _ _ λz s₃ h=>⟨h.1,last z s₃ h.2⟩)
end
section
open Builtin Builtin.ObjectAttr
noncomputable def Xm(K:AI)(C:Ah)(ga:A3)(an:List Str)(ms:List (Str×Ah))(mro:List Ad):Aa:=
 A7 K (.ref C) "__getattribute__" ==some (some (.builtin ga))&&(A7 K (.ref C) "__getattr__" ==some none&&(A7 K (.ref C) "__setattr__" ==some (some (.builtin "object.__setattr__"))&&
  (OE K C&&(an.all (λx=>A7 K (.ref C) x==some none)&&(ms.all (λp=>A7 K (.ref C) p.1==some (some (.ref p.2))&&isFn K (.ref p.2))&&(Iw K C).any λcd=>cd.mro==mro)))))
structure Pq(K:AI)(C:Ah)(ga:A3)(an:List Str)(ms:List (Str×Ah))(mro:List Ad):Prop where
 ga:A7 K (.ref C) "__getattribute__" =some (some (.builtin ga))
 hk:A7 K (.ref C) "__getattr__" =some none
 sa:A7 K (.ref C) "__setattr__" =some (some (.builtin "object.__setattr__"))
 dict:OE K C=true
 an:∀x∈an,A7 K (.ref C) x=some none
 ms:∀p∈ms,A7 K (.ref C) p.1=some (some (.ref p.2))/\EU K (.ref p.2)=some (.type "function")
 mro:∃cd,Iw K C=some cd/\cd.mro=mro
theorem Ds{α:Type}[BEq α][LawfulBEq α]{a b:α}(h:(a==b)=true):a=b:=eq_of_beq h
theorem QM{K:AI}(h:Xm K C ga an ms mro=true):Pq K C ga an ms mro:=
 have h2:=Am h;have h3:=Am h2;have h4:=Am h3;have h5:=Am h4;have h6:=Am h5
 ⟨Ds (Ax h),Ds (Ax h2),Ds (Ax h3),Ax h4,λx hx=>Ds (BW.mp (Ax h5) x hx),λp hp=>have q:=BW.mp (Ax h6) p hp;⟨Ds (Ax q),Ds (Am q)⟩,by
  have h7:=Am h6
  cases hc:Iw K C with
  |none=>rw[hc] at h7;cases h7
  |some cd=>rw[hc] at h7;exact⟨cd,rfl,Ds h7⟩⟩
structure Be(c:Cx):Prop where
 v:Pq c.K 165 "object.__getattribute__" KC D5 [.ref 165,.type "object"]
 a:Pq c.K 249 "list.__getattribute__" KD (D6++OR) [.ref 249,.type "list",.type "object"]
 gi:A7 c.K (.ref 249) "__getitem__" =some (some (.builtin "list.__getitem__"))
 si:A7 c.K (.ref 249) "__setitem__" =some (some (.builtin "list.__setitem__"))
 app:A7 c.K (.ref 249) "append" =some (some (.builtin "list.append"))
 bool:A7 c.K (.ref 249) "__bool__" =some none
 iter:A7 c.K (.ref 249) "__iter__" =some (some (.builtin "list.__iter__"))
 len:A7 c.K (.ref 249) "__len__" =some (some (.ref 216))
 str:A7 c.K (.ref 249) "__str__" =some (some (.ref 223))
 seq:noSeq c.K 249=true
section
variable{c:Cx}{lo Bv BK:Lo}
theorem Pt{h:Ay}{m}(hn:h.Ns1 a m)(ho:h.get? a=some o)(x:Str):lookIn x o=some (m x):=by
 obtain ⟨o',es,ep,e,hd,hk,_,hm⟩:=hn
 rw[ho] at e;rcases e with ⟨⟩
 unfold lookIn
 rw[hd]
 have hm:=hm x
 unfold ER findBy at hm
 rw[<-AE.find?_toList] at hm
 have Aau:es.toList.any (·.refKey)=false:=by
  rw[AE.any_toList,AE.any_eq_false'];intro e he;obtain ⟨n,t,h⟩:=hk e he;simp[RV.refKey,h]
 dsimp only
 cases q:es.toList.find? (·.key.isStr x) with
 |some e=>rw[q] at hm;simpa using hm
 |none=>rw[q] at hm;rw[AD (by rw[Aau];exact BJ)];simpa using hm
structure MT(π:Pl)(H:List AO)(h:Ay)(C:Ah)(a:Ah)(dl:Nat)(es:List (Str×AV))(m:Str->Ab Ad)(ox od:Obj):Prop where
 inst:InstAt h a ox C (some od)
 dict:ox.dict=some (π.at' dl)
 hd:h.get? (π.at' dl)=some od
 ns:h.Ns1 (π.at' dl) m
 rel:∀x,OV π H.length h (es.lookup x) (m x)
 wi:Within m (KC++KD)
def YX(H:List AO)(l:Nat)(C:Ah)(dl:Nat):Prop:=H[l]?=some (.inst C dl)\/(C=249/\∃xs,H[l]?=some (.acc dl xs))
theorem MT.of(G:Av c π H s){l dl:Nat}(hH:YX H l C dl)(hd:H[dl]?=some (.dict es)):
  ∃m ox od,MT π H s.heap C (π.at' l) dl es m ox od:=
 (G.objs dl _ hd).elim λm q=>q.elim λod q=>hH.elim (λhH=>(G.objs l _ hH).elim λsl e=>⟨m,_,od,⟨e.1,rfl,rfl,q.2.2.1⟩,rfl,q.2.2.1,q.1,q.2.2.2,q.2.1⟩)
  λhH=>hH.2.elim λxs h=>(G.objs l _ h).elim λvs e=>e.elim λk e=>e.elim λsl e=>by
   obtain rfl:=hH.1
   exact⟨m,_,od,⟨e.1,rfl,rfl,q.2.2.1⟩,rfl,q.2.2.1,q.1,q.2.2.2,q.2.1⟩
theorem QN:Ip Ir "list.__getattribute__" =some Bo.«object.__getattribute__» :=PySem.am_entry_list_getattribute
theorem Uu:Dp "list.__getattribute__" =some .slot:=⋯
theorem QO:G8 "list.__getattribute__" =some ("list","__getattribute__"):=⋯
theorem fu{K:AI}(X:K.In s.heap)(I:InstAt s.heap x ox 249 od)
  (hga:A7 K (.ref 249) "__getattribute__" =some (some (.builtin "list.__getattribute__")))(hk:A7 K (.ref 249) "__getattr__" =some none)(hc:Iw K 249=some cd)(hm:cd.mro=[.ref 249,.type "list",.type "object"])
  (hf:findObj K 249 od name=some (.value v))(hh:handedIn v=true)(h:Q v {s with toks:=s.toks+1}):Ae c.m A (getAttr (.ref x) name expr) Q E s:=by
 obtain ⟨j5,g,dd,t,os⟩:=s
 have L0:=I.type (M:=AW c.prog c.w)
 have L1:=Dr (M:=AW c.prog c.w) X hga
 have L2:=Dr (M:=AW c.prog c.w) X hk
 have L3:=looks_find (M:=AW c.prog c.w) X I hf
 unfold getAttr getAttrBy
 refine Ac (RO (BF (Ac (L0.at (Ac (L1.at ?_))))))
 unfold getAttrByItsOwn hookBefore callGetattribute boundAndCalled
 refine Ac (L2.at ?_)
 refine Ac (GZ (BF ?_))
 have e1:(expr&&onTheHeap (R7 "list.__getattribute__"))=false:=by rcases expr with ⟨⟩<;>rfl
 rw[e1,AD BJ]
 refine Ac (Ci (R1.bind _) ?_)
 have sub:AR c.m j5 (Ik (.ref x) (.type "list")) true:=L0.andThen (Iz X (by unfold IA;rw[hc,Gy,AD (by rw[hm];decide),hm];rfl))
 refine DE (RA R1.plain QN (@Mh c.m _ _ ⟨j5,g,dd,t+1,os⟩ "list.__getattribute__" "list" "__getattribute__" (.ref x) [.str name t] [] _ Uu QO sub (cZ _ _) ?_))
 unfold Bo.«object.__getattribute__»
 refine Ac (Ci rfl ?_)
 dsimp only
 refine Ac (Ci rfl ?_)
 refine Ac (L0.at (Ac (L3.at ?_)))
 refine An ?_
 show Ae _ _ (handedOut v) _ _ _
 rw[handedOut_of hh];exact An h
def nU(c:Cx)(d:Nat)(H:List AO)(o:AV)(x:Str)(r:AV):Prop:=
 ∀(A:AG)(π:Pl)(s:Aj)(E:EP)(cv:Ad)(expr:Aa),A5 d A->Av c π H s->As π H.length s.heap o cv->
  Ae c.m A (getAttr cv x expr) (λrv s'=>Kp no s s'/\As π H.length s'.heap r rv) E s
theorem Uv(hr:m5 r=true)(v:As π n h r cv):handedIn cv=true:=by
 induction r using AV.casesOn with
 |val w=>rw[v.val];rcases w with ⟨⟩<;>first | rfl | exact ff hr
 |int i=>exact v.int.elim λt e=>e▸rfl
 |AS i=>exact v.AS.elim λt e=>e▸rfl
 |str i=>exact v.str.elim λt e=>e▸rfl
 |tup i=>exact v.tup.elim λt e=>e.elim λ_ e=>e.1▸rfl
 |lst i=>exact v.lst.elim λt e=>e.elim λ_ e=>e.1▸rfl
 |loc i=>exact v.loc.2▸rfl
 |Gw _ _ _=>exact v.Gw.elim λt e=>e.1▸rfl
 |BI _=>exact v.BI.elim λt e=>e.1▸rfl
theorem Uw(h:Ke x l=true):x∈l:=Wa.mp (SJ x l▸h)
theorem MT.own{K:AI}{dl:Nat}{m}(I:MT π H h C a dl es m ox od)(Ca:Pq K C ga an ms mro)(hx:x∈an)(hr:es.lookup x=some r):
  ∃cv,findObj K C (some od) x=some (.value cv)/\As π H.length h r cv:=by
 have q:=I.rel x
 rw[hr] at q
 exact WU (λcv q=>⟨findObj_own Ca.dict (Ca.an x hx) rfl (by rw[Pt I.ns I.hd,q.1]),q.2⟩) q
theorem YY:Ok (pk S v x) λp=>∃l C,v=.loc l/\S.H[p.1]?=some (.dict p.2)/\YX S.H l C p.1/\((C=165/\x∈KC)\/(C=249/\x∈KD)):=by
 refine Ey.bind λl e=>Ok.bind (P:=λd=>∃C,YX S.H l C d/\((C=165/\x∈KC)\/(C=249/\x∈KD))) (Ok.self.bind λo ho=>?_) λd h=>dictAt.bind λes hd=>.some (h.elim λC h=>⟨l,C,e,hd,h⟩)
 induction o using AO.casesOn with
 |inst C d=>exact .guard λh=>.some ⟨C,.inl ho,.inl ⟨Cb (Ax h),Uw (Am h)⟩⟩
 |acc d xs=>exact .guard λh=>.some ⟨249,.inr ⟨rfl,xs,ho⟩,.inr ⟨rfl,Uw h⟩⟩
 |_=>exact .none
theorem fv(Cl:Be c){v:AV}:Ok (m6 S v x) (nU c d S.H v x):=
 YY.bind λp h=>Ok.self.bind λr hr=>.guard λhh=>.some λA π s E cv expr R G rv=>h.elim λl h=>h.elim λC h=>by
  have hl:=(D8 ..).symm.trans hr
  have h1:=h.1
  subst h1
  rw[rv.loc.2]
  refine(MT.of G h.2.2.1 h.2.1).elim λm I=>I.elim λox I=>I.elim λod I=>h.2.2.2.elim (λq=>?_) λq=>?_
  ·obtain rfl:=q.1
   exact(I.own Cl.v q.2 hl).elim λcv w=>get_value (c.DA G) I.inst Cl.v.ga w.1 (Uv hh w.2) ⟨.toks,w.2⟩
  ·obtain rfl:=q.1
   exact(I.own Cl.a q.2 hl).elim λcv w=>Cl.a.mro.elim λcd z=>fu (c.DA G) I.inst Cl.a.ga Cl.a.hk z.1 z.2 w.1 (Uv hh w.2) ⟨.toks,w.2⟩
set_option tactic.hygienic true in
theorem GD(h:baseOk o=true)(x:Str)(env:Env)(m:Sem Ad):attributeBase o x env m=m:=by
 rcases o with ⟨⟩<;>first | rfl | skip
 rename_i f as ks p
 rcases f with ⟨⟩<;>first | rfl | skip
 rcases as with ⟨⟩<;>first | rfl | skip
 rcases ks with ⟨⟩<;>first | rfl | exact ff h
theorem Bt.attr(ho:Bt c d fr lo H o v H1)(hb:baseOk o=true)(ha:nU c d H1 v x r):Bt c d fr lo H (.Attribute o x p) r H1:=by
 intro A env π s E R F G L
 rw[arm_eval_Attribute,GD hb]
 refine Ac (ho.use R F G L λcv s₁ π₁ P₁ F₁ L₁ r₁=>Ac (DM (Ac (BF ?_))))
 exact AJ (ha A π₁ s₁ E cv true R P₁.g r₁) (λrv s₂ q=>Ac (Ww (An ⟨π₁,P₁.DT q.1,q.2⟩))) λ_ _ e=>e
end
end
section
open Builtin Builtin.ObjectAttr
section
variable{c:Cx}{d:Nat}{fr:FD}{lo Bv BK:Lo}{H H' EY H1 H2 H3:List AO}
theorem vI(self:Ad)(C:Ah):RT self "__setattr__" [.ref C,.type "object"]=pure ():=by rw[refuseLoop_ref];exact dk.passes self
theorem nV(self:Ad)(C:Ah):RT self "__setattr__" [.ref C,.type "list",.type "object"]=pure ():=by
 rw[refuseLoop_ref];kernel_rfl
theorem j6{K:AI}{m}(X:K.In s.heap)(I:InstAt s.heap x ox C (some od))(hd:ox.dict=some dx)
  (hn:s.heap.Ns1 dx m)(hw:Within m ns)(hsz:ns.length<=1000)(hsa:A7 K (.ref C) "__setattr__" =some (some (.builtin "object.__setattr__")))(hx:A7 K (.ref C) name=some none)(hc:Iw K C=some cd)(hh:cd.hasDict=true)
  (hm:cd.mro.contains (.type "object")=true)(hp:RT (.ref x) "__setattr__" cd.mro=pure ())
  (h:∀h' tk,h'.Ns1 dx (λy=>if y=name then some v else m y)->Hb dx s.heap h'->Q () {s with heap:=h',toks:=tk}):Ae c.m A (setAttr (.ref x) name v) Q E s:=by
 refine set_plain X I hsa ?_
 obtain ⟨j5,g,dd,t,os⟩:=s
 have SF:=dk
 have ne:cd.mro.isEmpty=false:=by cases q:cd.mro with | nil=>rw[q] at hm;cases hm | cons _ _=>rfl
 have T:=I.type (M:=AW c.prog c.w)
 have sub:AR c.m j5 (Ik (.ref x) (.type "object")) true:=T.andThen (Iz X (by unfold IA;rw[hc,Gy,AD (by rw[ne];decide),hm]))
 refine RA SF.slot.plain SF.entry (@Mh c.m _ _ ⟨j5,g,dd,t+1,os⟩ "object.__setattr__" "object" "__setattr__" (.ref x) [.str name t,v] [] _ SF.kind SF.split sub (SF.args (.ref x) (.str name t) v) ?_)
 have hmr:AR c.m j5 (mroOf (.ref C)) cd.mro:=(OB X hc).andThen .now
 have L1:=Dr (M:=AW c.prog c.w) X hx
 rw[osa_eq,refuse_eq]
 refine Ac (Ac (T.at (Ac (hmr.at ?_))))
 rw[hp]
 refine An (Ac (T.at (Ac (L1.at ?_))))
 refine Ac (Ci rfl ?_)
 obtain ⟨hx,hcl,hno,hdd⟩:=I
 obtain ⟨oc,odi,oda,osl⟩:=ox
 subst hcl hd
 refine Ac (An (Ac (Ac (RJ hx (Ac ((OB X hc).at ?_))))))
 rw[hh]
 refine An ?_
 refine Ac (An (Ac (wpAny_nsSet1 hn λh' SN hs=>?_)))
 obtain ⟨oD,esD,epD,hoD,hdD,hcD⟩:=SN.count (Within.cons name v hw)
 refine Ac (wpAny_lookBehind hoD (by rw[hdD];exact pastItsLine_dict (AA hcD (by rw[JQ,Ii];exact(pw [.l .p (.k 1000)] (.l (.A .p (.k 1)) (.k (16777216+1))) [] [_]) hsz))) ?_)
 exact An (h h' _ SN hs)
end
end
section
open Builtin Builtin.ObjectAttr
section
variable{c:Cx}{d:Nat}{fr:FD}{lo Bv BK:Lo}{H H' EY H1 H2 H3:List AO}
theorem HI(G:Av c π H s){l dl:Nat}(e:H[l]?=some (.acc dl xs)):∃vs k sl,s.heap.get? (π.at' l)=some ⟨.ref 249,some (π.at' dl),.seq vs k,sl⟩/\Ag π H.length s.heap xs vs.toList/\dl<H.length/\
  AR c.m s.heap (CR (.ref (π.at' l))) (.ref 249):=by
 obtain ⟨vs,k,sl,e,hd,hr⟩:=G.objs l _ e
 exact⟨vs,k,sl,e,hr,hd,(D3 e).andThen .now⟩
theorem Xn(Cl:Be c){s:Aj}(X:c.K.In s.heap)(T:AR c.m s.heap (CR (.ref x)) (.ref 249))(t:Ad)(ht:([.ref 249,.type "list",.type "object"]:List Ad).contains t=true):
  AR c.m s.heap (Ik (.ref x) t) true:=by
 obtain ⟨cd,hc,hm⟩:=Cl.a.mro
 exact T.andThen (Iz X (by unfold IA;rw[hc,Gy,AD (by rw[hm];decide),hm,ht]))
theorem Xo{M:Model}{A:AG}{E:EP}{s:Aj}{i owner n:A3}{self:Ad}{rest:List Ad}{kw:List (Str×Ad)}{Q:Ce->Aj->Prop}
  (hk:Dp i=some .method)(hs:G8 i=some (owner,n))(hi:AR M s.heap (Ik self (.type owner)) true)(ha:C5 i ⟨self::rest,kw⟩)(q:Q () s):
  Ae M A (Oe i ⟨self::rest,kw⟩) Q E s:=by
 rw[Oe,hk,hs]
 refine Ac (hi.here ?_)
 cases Aav:dC i with
 |none=>exact An q
 |some sig=>
  simp only[C5,Aav] at ha
  have h2:=ha
  show Ae M A (Bind.checkArgs i sig ⟨self::rest,kw⟩) Q E s
  rw[h2];exact An q
set_option backward.match.sparseCases true in
theorem SV{id n:A3}(hk:Dp id=some .slot\/Dp id=some .method)(hs:G8 id=some ("list",n))(hp:plainId id=true)(he:Ip Ir id=some B)
  (ha:C5 id ⟨.ref x::rest,[]⟩)(hi:AR c.m s.heap (Ik (.ref x) (.type "list")) true)
  (h:Ae c.m A.in1 (B ⟨.ref x::rest,[]⟩) (λfin s'=>∃v,fin=.done (.ret v)/\Q v s') E s):Ae c.m A (call (.builtin id) (.ref x::rest)) Q E s:=by
 have h':Ae c.m A.in1 (B ⟨.ref x::rest,[]⟩) (λfin s'=>match fin with | .done f=>(match (.ok f:Result) with | .ok (.ret v)=>Q v s' | .ok _=>Cd | .error e=>E e s') | .again c'=>c'.quiet=true/\EM c.m A c' (λr s'=>match r with | .ok (.ret v)=>Q v s' | .ok _=>Cd | .error e=>E e s') s')
   (λe s'=>E e s') s:=AJ h (λfin s' h=>h.elim λv q=>by rw[q.1];exact q.2) λ_ _ x=>x
 refine DE (RA hp he ?_)
 rcases hk with hk | hk
 ·exact @Mh c.m _ _ s id "list" n (.ref x) rest [] _ hk hs hi ha h'
 ·exact @Xo c.m _ _ s id "list" n (.ref x) rest [] _ hk hs hi ha h'
theorem Pu(Cl:Be c){id n:A3}(X:c.K.In s.heap)(T:AR c.m s.heap (CR (.ref x)) (.ref 249))
  (hf:A7 c.K (.ref 249) name=some (some (.builtin id)))(hb:∀self,bindSpecial (.builtin id) self=pure (.builtin id,[self]))(hk:Dp id=some .slot\/Dp id=some .method)(hs:G8 id=some ("list",n))(hp:plainId id=true)(he:Ip Ir id=some B)
  (ha:C5 id ⟨.ref x::rest,[]⟩)(h:Ae c.m A.in1 (B ⟨.ref x::rest,[]⟩) (λfin s'=>∃v,fin=.done (.ret v)/\Q (some v) s') E s):Ae c.m A (callSpecial? (.ref x) name rest) Q E s:=by
 have S:AR c.m s.heap (Il (.ref x) name) (some (.builtin id)):=T.andThen (Dr X hf)
 refine Ac (S.here ?_)
 refine BF (Ac (Ci (hb _) ?_))
 refine Ac (SV hk hs hp he ha (Xn Cl X T _ ⋯) (AJ h (λfin s' h=>h.imp λv q=>⟨q.1,An q.2⟩) λ_ _ x=>x))
theorem j7:Dp "list.__getitem__" =some .slot\/Dp "list.__getitem__" =some .method:=⋯
theorem fw:G8 "list.__getitem__" =some ("list","__getitem__"):=⋯
theorem j8:Dp "list.__setitem__" =some .slot\/Dp "list.__setitem__" =some .method:=⋯
theorem fx:G8 "list.__setitem__" =some ("list","__setitem__"):=⋯
theorem Ux(Cl:Be c)(X:c.K.In s.heap)(T:AR c.m s.heap (CR (.ref x)) (.ref 249))(q:Q k s):
  Ae c.m A (sequenceKey (.ref x) k name) Q E s:=by
 have h:=Cl.seq
 unfold noSeq at h
 rw[BW] at h
 have N:∀l:List A3,(∀n∈l,(subIn c.K (.ref 249) (.type n)==some false)=true)->AR c.m s.heap (l.anyM λn=>Ma (.ref 249) (.type n)) false:=by
  intro l
  induction l with
  |nil=>intro _;exact .now
  |cons n l ih=>
   intro hl
   have h1:=looks_subIn (M:=AW c.prog c.w) X (beq_iff_eq.mp (hl n (CT ..)))
   have h2:=ih λn hn=>hl n (Ed _ hn)
   exact h1.andThen h2
 refine Ac (T.here ?_)
 refine Ac ((N _ h).here ?_)
 exact An q
theorem Pw(Cl:Be c)(X:c.K.In s.heap)(T:AR c.m s.heap (CR (.ref x)) (.ref 249))
  (h:Ae c.m A.in1 (Bo.«list.__getitem__» ⟨[.ref x,k],[]⟩) (λfin s'=>∃v,fin=.done (.ret v)/\Q v s') E s):Ae c.m A (Md (.ref x) k) Q E s:=by
 refine BF (Ac (Ux Cl X T ?_))
 refine Ac (Pu Cl X T Cl.gi LR.bind j7 fw LR.plain entry_list_getitem (args_list_getitem _ _) (AJ h (λfin s' h=>h.imp λv q=>⟨q.1,An q.2⟩) λ_ _ x=>x))
end
end
section
open Builtin Builtin.ObjectAttr
section
variable{c:Cx}{d:Nat}{fr:FD}{lo Bv BK:Lo}{H H' EY H1 H2 H3:List AO}
theorem YZ(Cl:Be c)(X:c.K.In s.heap)(T:AR c.m s.heap (CR (.ref x)) (.ref 249))
  (hg:Ae c.m A (Md (.ref x) i) Q E s)(hs:Oj slice false (.ref x) i=operate ops (Md (.ref x) i)):Ae c.m A (Ws value slice (.ref x) i) Q E s:=by
 have S:AR c.m s.heap (Il (.ref x) "__getitem__") (some (.builtin "list.__getitem__")):=T.andThen (Dr X Cl.gi)
 refine Ac ?_
 rw[getitemInPython_of_ne (o:=.ref x) nofun]
 refine Ac (S.here ?_)
 have fin:Ae c.m A (Oj slice false (.ref x) i) (λr s₃=>Ae c.m A (letTemporaryGo value (.ref x) r>>=λ_=>pure r) Q E s₃) E s:=by
  rw[hs]
  exact wpAny_operating (AJ hg (λr s₃ h₃=>Ac (Ww (An h₃))) λ_ _ x=>x)
 first
  |exact An (Ac fin)
  |exact Ac (An (Ac fin))
  |exact Ac fin
theorem Xp(h:Cp k n=some j)(hn:n<2^20):Ow k=true:=by
 have q:=(IX h hn).1
 unfold Ow
 simp only[HQ,Gl]
 first | exact⟨q.1,q.2⟩ | lia
theorem j9(Cl:Be c):eH c:=by
 intro d H l dd xs k j r hH hsz hj hx A π s E ca ci value slice R G ra ri hsl
 refine Bl λGG fin=>ri.int.elim λt ht=>(HI G hH).elim λvs q=>q.elim λkk q=>q.elim λsl q=>(Ko q.2.1 hx).elim λv hv=>fin ?_
 rw[ra.loc.2,ht]
 have X:=c.DA G
 have T:=q.2.2.2
 refine YZ Cl X T (Pw Cl X T ?_) (hsl _ _)
 show Ae _ _ (WK (.int k t)>>=_) _ _ s
 refine Ac (cO (Xp hj (jR hsz)) ?_)
 induction k using Int.casesOn with
 |ofNat m=>
  refine Ac (Ac (wpAny_seqItemAt q.1 rfl (An ?_)))
  have e:m=j:=(IX hj (jR hsz)).2 (HF m)
  rw[e,hv.1,<-e]
  first
   |exact Ac (An (An ⟨v,rfl,.refl s,hv.2⟩))
   |exact An ⟨v,rfl,.refl s,hv.2⟩
 |negSucc m=>
  refine Ac (Ac ?_)
  refine Ac (FR q.1 rfl (An (An ?_)))
  rw[q.2.1.size,hj]
  simp only[Gy,hv.1,Ab.map_some]
  first
   |exact Ac (An (An ⟨v,rfl,.refl s,hv.2⟩))
   |exact An ⟨v,rfl,.refl s,hv.2⟩
theorem Y0{s:Aj}(h:s.heap.get? S=some (Dc l u)):s.TypeIs (.ref S) "slice" :=⟨_,h,rfl⟩
theorem Bt.fy(Cl:Be c){l dl:Nat}(he:Bt c d fr lo H e (.loc l) H1)(hl:DR c d fr lo H1 lower li H2)(hu:DR c d fr lo H2 upper u H3)
  (ha:H3[l]?=some (.acc dl xs))(hsz:xs.length<100000):Bt c d fr lo H (.Subscript e (.Slice lower upper none p) q) (.lst (OQ xs li u)) H3:=
 he.slice hl hu λA π s E ca pl pu R G r hpl pP _ _=>by
  rw[r.loc.2]
  have hos:(s.heap.push (Dc (CU pl) (CU pu))).get? s.heap.objs.size=some (Dc (CU pl) (CU pu)):=Bp _ rfl
  have K₄:Kp no s {s with heap:=s.heap.push (Dc (CU pl) (CU pu))}:=Kp.BU _
  have G₄:=G.DT K₄
  refine Bl λGG fin=>(HI G₄ ha).elim λvs q=>q.elim λkk q=>q.elim λsl q=>fin ?_
  have X:=c.DA G₄
  have vJ:=Y0 (s:={s with heap:=s.heap.push (Dc (CU pl) (CU pu))}) hos
  refine YZ Cl X q.2.2.2 (Pw Cl X q.2.2.2 ?_) rfl
  show Ae _ _ (WK (.ref s.heap.objs.size)>>=_) _ _ _
  refine Ac ?_
  refine Ac (JZ vJ slice_no_index ?_)
  refine An ?_
  refine Ac (LZ vJ ?_)
  rw[AD ⋯,listSliceParts_eq]
  refine Ac (Ac (DZ hos rfl rfl (Ac (LX .none ?_))))
  rw[AD (by exact BJ)]
  refine Ac (DZ hos rfl rfl (Ac (LX hpl (Ac (DZ hos rfl rfl (Ac (LX pP (An ?_))))))))
  refine Ac ?_
  refine Ac (FR q.1 rfl (An (Ac (Ci (sliceIndices_raw li u none vs.size nofun) ?_))))
  refine Ac (Eu (An ⟨_,rfl,K₄.trans (.BU _),?_⟩) (AA (slicePick_size_le vs li u none) (size_le hsz q.2.1.size)))
  show As π H3.length ((s.heap.push _).push {cls:=.type "list",data:=.seq (RX vs li u none)}) _ _
  rw[Ug]
  exact As.newList G₄ (q.2.1.cut li u)
end
end
section
open Builtin Builtin.ObjectAttr
section
variable{c:Cx}{d:Nat}{fr:FD}{lo Bv BK:Lo}{H H' EY H1 H2 H3:List AO}
theorem Y1(li:Ab Int)(n:Nat):li.elim 0 (DF n)<=n:=by
 induction li using BL with
 |none=>exact Co _
 |some i=>exact Int.toNat_le.mpr (Int.max_le.mpr ⟨Int.ofNat_nonneg n,Int.min_le_right _ _⟩)
theorem Uy(e o i:Expr)(p:Pos)(n:Nat)(env:Env):RW e (some (.Subscript o i p)) n env=pure false:=by rcases e with ⟨⟩<;>rfl
theorem fA(e o:Expr)(x:Str)(p:Pos)(n:Nat)(env:Env):RW e (some (.Attribute o x p)) n env=pure false:=by rcases e with ⟨⟩<;>rfl
theorem kf(vs us:AE Ad)(k:Nat)(hk:k<=vs.size):vs.extract 0 ((k:Nat):Int).toNat++us++vs.extract (max ((k:Nat):Int) ((vs.size:Nat):Int)).toNat vs.size=(vs.toList.take k++us.toList).toArray:=by
 rw[Int.max_eq_right (DL.mpr hk),NV,NV]
 apply NP.mp
 simp[AE.toList_extract]
theorem Uz(Cl:Be c){l dl wr:Nat}(G:Av c π H s)(hos:s.heap.get? S=some (Dc (CU pl) .none))(hpl:IsPart (CU pl) li)
  (ha:H[l]?=some (.acc dl xs))(hw:Jw c H v ws)(rv:As π H.length s.heap v cv)(hsz:xs.length<1000/\ws.length<1000)(hwr:wr<=l)(k:∀s',PG c wr none π H s (H.set l (.acc dl (xs.take (li.elim 0 (DF xs.length))++ws))) π s'->Q () s'):
  Ae c.m A (setItem (.ref (π.at' l)) (.ref S) cv) Q E s:=by
 refine Bl λGG fin=>(HI G ha).elim λvs q=>q.elim λkk q=>q.elim λsl q=>(hw π s G cv rv).elim λb z=>z.elim λus z=>(Ep z.2.1).elim λdd y=>y.elim λnb y=>y.elim λsb jd=>fin ?_
 rw[z.1]
 have vJ:=Y0 hos
 have X:=c.DA G
 have T:=q.2.2.2
 have hl1:=q.2.1.size
 have je:=z.2.2.size
 refine BF (Ac (Ux Cl X T (Ac (Pu Cl X T Cl.si RF.bind j8 fx RF.plain entry_list_setitem (args_list_setitem _ _ _) ?_))))
 refine Ac (Ci rfl ?_)
 dsimp only
 refine Ac ?_
 refine Ac (JZ vJ slice_no_index ?_)
 refine An (Ac (LZ vJ ?_))
 rw[AD ⋯,listSliceParts_eq]
 refine Ac (Ac (DZ hos rfl rfl (Ac (LX .none ?_))))
 rw[AD (by exact BJ)]
 refine Ac (DZ hos rfl rfl (Ac (LX hpl (Ac (DZ hos rfl rfl (Ac (LX .none (An ?_))))))))
 have hne:¬ (cW (Bq (π.at' l)) (Bq b)=true):=λw=>by
  have w':π.at' l=b:=by simpa[cW] using w
  have h:=AQ ((w'▸q.1).symm.trans jd)
  rcases h with ⟨⟩
 rw[AD hne]
 refine Ac ?_
 refine Ac (LZ z.2.1.typeIs ?_)
 rw[Bh ⋯]
 refine Ac (FR jd rfl (An (Ac (Ac (FR q.1 rfl (An (Ac (Ci (sliceIndices_raw li none none vs.size nofun) ?_))))))))
 rw[sliceBounds_plain]
 dsimp only[Ab.elim_none]
 rw[Bh ⋯]
 refine Ac (Gd ?_)
 have hb:=kf vs us (li.elim 0 (DF vs.size)) (Y1 _ _)
 have hc:=Y1 li vs.size
 rw[AD (by unfold WL;simp;unfold BY;exact(pw [.a (.t .p (.k 1000)) (.t .q (.k 1000)),.e .r .p,.e .s .q] (.l (.A .r .s) (.k (2^24))) [] [_,_,_,_]) hsz hl1 je)]
 refine Ac (EJ q.1 rfl (_hz':=by rw[hb];simp;unfold BY;exact(pw [.a (.t .p (.k 1000)) (.t .q (.k 1000)),.e .r .p,.e .s .q] (.l (.A (.min .t .r) .s) (.k (2^24+1))) [] [_,_,_,_,_]) hsz hl1 je) (Ac (L4 (An ⟨_,rfl,An ?_⟩))))
 exact k _ (Fp (CY G (G.lt ha) hwr q.1 (.data (by intro vs q;rcases q with ⟨⟩)) (.data (by intro vs q;rcases q with ⟨⟩)) rfl s.toks (λh' S e'=>⟨_,_,sl,e',q.2.2.1,by
  show Ag _ _ _ _ (AE.toList (_++us++_))
  rw[hb,<-hl1]
  exact((q.2.1.step S).take _).append (z.2.2.step S)⟩)))
theorem E9.UA(Cl:Be c){l dl:Nat}(hv:Bt c d fr lo H e v H1)(he:Bt c d fr lo H1 o (.loc l) H2)(hl:DR c d fr lo H2 lower li H3)
  (ha:H3[l]?=some (.acc dl xs))(hw:Jw c H3 v ws)(hsz:xs.length<1000/\ws.length<1000)(hwr:fr.wr<=l):
  E9 c d fr lo H (.Assign [.Subscript o (.Slice lower none none p) q] e p3) .next lo (H3.set l (.acc dl (xs.take (li.elim 0 (DF xs.length))++ws))):=by
 intro A env π s E R F G L
 refine wpAny_Assign_Subscript (hs:=Uy ..) (hv.use R F G L λcv s₁ π₁ P₁ F₁ L₁ r₁=>he.use R F₁ P₁.g L₁ λca s₂ π₂ P₂ F₂ L₂ r₂=>wpAny_Slice (hl.use R F₂ P₂.g L₂ λs₃ π₃ pl P₃ F₃ L₃ hpl u5=>An ?_))
 rw[WJ]
 refine An ?_
 rw[(r₂.pg P₃ P₂.g).loc.2]
 have K₄:Kp no s₃ {s₃ with heap:=s₃.heap.push (Dc (CU pl) .none)}:=Kp.BU _
 exact Uz Cl (P₃.g.DT K₄) (Bp _ rfl) hpl ha hw (((r₁.pg P₂ P₁.g).pg P₃ P₂.g).DT K₄ P₃.g.tabs) hsz hwr λs' P=>⟨π₃,((((P₁.trans P₂).trans P₃).DT K₄).trans P).any,(L₃.DT P₃.g K₄).pg P (P₃.g.DT K₄),rfl⟩
end
end
section
open Builtin Builtin.ObjectAttr
section
variable{c:Cx}{d:Nat}{fr:FD}{lo Bv BK:Lo}{H H' EY H1 H2 H3:List AO}
theorem kg{C dl wr:Nat}{m}(G:Av c π H s)(hd:H[dl]?=some (.dict es))(hw:wr<=dl)
  (I:MT π H s.heap C a dl es m ox od)(hx:x∈KC++KD)(r:As π H.length s.heap v cv)(SN:h'.Ns1 (π.at' dl) (λy=>if y=x then some cv else m y))(hs:Hb (π.at' dl) s.heap h'):
  PG c wr none π H s (H.set dl (.dict (Sv x v es))) π {s with heap:=h',toks:=tk}:=by
 have hl:=G.lt hd
 refine(Ns.obj I.ns.ns).elim λo q=>q.elim λes0 q=>q.elim λk0 q=>(Ns.obj SN.ns).elim λo' q'=>q'.elim λes' q'=>q'.elim λk' q'=>?_
 have K:Kp (λb=>b=π.at' dl) s {s with heap:=h',toks:=tk}:=.one q.1 (.data (Fz q.2)) (λb o' hb e=>(hs.2 b hb).trans e) trivial G.tabs
 have S:Jt π H.length s.heap π H.length h':=Kp.En (s':={s with heap:=h',toks:=tk}) K G.tabs (λb z=>.inl (z▸G.mem dl hl)) (λb ob z e=>.data (AQ (q.1.symm.trans (z▸e))▸Fz q.2)) (AP _) (λ_ _=>rfl) (λ_ h=>.inl h)
 have ne:∀{j},j<wr->dl≠j:=λhj=>Nat.ne_of_gt (BX hj hw)
 refine .chg K (.inr (G.mem dl hl)) ⟨_,q'.1⟩ (G.set hl K ⟨_,o',SN,λy hy=>?_,q'.1,λy=>?_⟩ ⟨_,q'.1,.data (Fz q'.2)⟩) F6 (λj hj=>Rd (ne hj)) (λb _ hn q=>hn dl hw hl q.symm) G
 ·by_cases p:y=x
  ·exact p▸hx
  ·exact I.wi y (λz=>hy ((AD p).trans z))
 ·rw[YN]
  by_cases p:y=x
  ·rw[p,Kc,Bh rfl];exact⟨cv,rfl,r.step S⟩
  ·rw[Si p,AD p];exact(I.rel y).step S
def kh(c:Cx)(d:Nat)(wr:Nat)(H:List AO)(o:AV)(x:Str)(v:AV)(H':List AO):Prop:=
 ∀(A:AG)(π:Pl)(s:Aj)(E:EP)(co cv:Ad),A5 d A->Av c π H s->As π H.length s.heap o co->As π H.length s.heap v cv->
  Ae c.m A (setAttr co x cv) (λ_ s'=>PG c wr none π H s H' π s') E s
theorem Xq{an:List Str}(Ca:Pq c.K C ga an ms mro)(hin:∀y∈an,y∈KC++KD)(hmr:mro.contains (.type "object")=true)(hp:∀self,RT self "__setattr__" mro=pure ())
  {l dl wr:Nat}(hx:x∈an)(hown:YX H l C dl)(hd:H[dl]?=some (.dict es))(hw:wr<=dl):kh c d wr H (.loc l) x v (H.set dl (.dict (Sv x v es))):=by
 intro A π s E co cv R G ro rv
 rw[ro.loc.2]
 refine(MT.of G hown hd).elim λm I=>I.elim λox I=>I.elim λod I=>Ca.mro.elim λcd z=>?_
 have hh:cd.hasDict=true:=by have:=Ca.dict;unfold OE at this;rw[z.1] at this;exact this
 exact j6 (c.DA G) I.inst I.dict I.ns I.wi ⋯ Ca.sa (Ca.an x hx) z.1 hh (z.2▸hmr) (z.2▸hp _) λh' tk SN hs=>kg G hd hw I (hin x hx) rv SN hs
theorem ki(Cl:Be c):Ok (uu fr S o x v) λS'=>kh c d fr.wr S.H o x v S'.H/\S'.ob=S.ob:=
 YY.bind λp h=>Jj.mono λS' q=>h.elim λl h=>h.elim λC h=>by
  rw[h.1,q.2]
  refine⟨h.2.2.2.elim (λz=>?_) λz=>?_,rfl⟩
  ·exact Xq (z.1▸Cl.v) (λy hy=>N0 _ hy) rfl (vI · _) z.2 h.2.2.1 h.2.1 q.1
  ·exact Xq (z.1▸Cl.a) (λy hy=>Lz _ hy) rfl (nV · _) z.2 h.2.2.1 h.2.1 q.1
theorem E9.Y2(he:Bt c d fr lo H e v H1)(ho:Bt c d fr lo H1 o ov H2)(hs:kh c d fr.wr H2 ov x v H3):E9 c d fr lo H (.Assign [.Attribute o x p] e p2) .next lo H3:=by
 intro A env π s E R F G L
 refine plainObj_wpAny_Assign_Attribute (he.use R F G L λcv s₁ π₁ P₁ F₁ L₁ r₁=>ho.use R F₁ P₁.g L₁ λco s₂ π₂ P₂ F₂ L₂ r₂=>?_) (fA ..)
 exact AJ (hs A π₂ s₂ E co cv R P₂.g r₂ (r₁.pg P₂ P₁.g)) (λ_ s₃ P₃=>⟨π₂,((P₁.trans P₂).trans P₃).any,L₂.pg P₃ P₂.g,rfl⟩) λ_ _ x=>x
theorem Ag.setAt(r:Ag π n h xs vs)(q:As π n h x v):∀j,Ag π n h (xs.set j x) (vs.set j v):=
 r.Na (P:=λxs vs=>∀j,Ag π n h (xs.set j x) (vs.set j v)) (λ_=>.nil) λ_ _ _ _ a s b j=>match j with
  |0=>.cons q s
  |j+1=>.cons a (b j)
theorem vK(hi:i=Ly j)(G:Av c π H s)(hl:H[l]?=some (.list xs))(hj:j<xs.length)(hsz:xs.length<100000)(hw:wr<=l)(rv:As π H.length s.heap v cv)
  (k:∀s',PG c wr none π H s (H.set l (.list (xs.set j v))) π s'->Q () s'):Ae c.m A (setItem (.ref (π.at' l)) (.int i t) cv) Q E s:=by
 refine Bl λGG fin=>(G.objs l _ hl).elim λvs q=>q.elim λkk q=>fin ?_
 have hT:s.TypeIs (.ref (π.at' l)) "list" :=⟨_,q.1,rfl⟩
 have hv:=q.2.size.symm▸hj
 refine BF (Ac (wpAny_sequenceKey hT ⋯ (Ac (Oc hT RF (GY RF hT entry_list_setitem ?_ (args_list_setitem _ _ _))))))
 have hf:Ow i=true:=by
  have h0:=DB.mpr (EH hj hsz)
  subst hi
  unfold Ow
  simp only[HQ,Gl,Int.ofNat_eq_natCast]
  exact(pw [.T (.n .p) (.j 100000)] (.a (.L (.g (.j (2^63))) (.n .p)) (.T (.n .p) (.j (2^63)))) [] [_]) h0
 show Ae _ _ (WK (.int i t)>>=_) _ _ _
 refine Ac (cO hf ?_)
 subst hi
 refine Ac (Ac (wpAny_seqItemAt q.1 rfl (An ?_)))
 rw[VP hv] at ⊢
 refine Ac (wpAny_setSeqItemAt q.1 rfl ?_)
 have fin:=k _ (Fp (CY (f:=C6 (·.setIfInBounds j cv)) G (G.lt hl) hw q.1 (.data (by intro vs q;cases q)) (.data (by intro vs q;cases q)) rfl s.toks (λh' S e'=>⟨_,_,e',by
  rw[AE.toList_setIfInBounds]
  exact(q.2.step S).setAt (rv.step S) j⟩)))
 first
  |exact Ac (An (An ⟨_,rfl,An fin⟩))
  |exact An ⟨_,rfl,An fin⟩
theorem E9.kj(he:Bt c d fr lo H e v H1)(ho:Bt c d fr lo H1 o (.loc l) H2)(hi:Bt c d fr lo H2 i (.int k) H3)(hl:H3[l]?=some (.list xs))(h: 0<=k/\k<xs.length/\xs.length<100000)
  (hw:fr.wr<=l):E9 c d fr lo H (.Assign [.Subscript o i p] e q) .next lo (H3.set l (.list (xs.set k.toNat v))):=by
 intro A env π s E R F G L
 refine wpAny_Assign_Subscript (hs:=Uy ..) (he.use R F G L λcv s₁ π₁ P₁ F₁ L₁ r₁=>ho.use R F₁ P₁.g L₁ λca s₂ π₂ P₂ F₂ L₂ r₂=>hi.use R F₂ P₂.g L₂ λci s₃ π₃ P₃ F₃ L₃ r₃=>?_)
 refine r₃.int.elim λt ht=>(bN h.1).elim λj hj=>?_
 rw[(r₂.pg P₃ P₂.g).loc.2,ht]
 subst hj
 exact vK rfl P₃.g hl (DB.mp h.2.1) h.2.2 hw ((r₁.pg P₂ P₁.g).pg P₃ P₂.g) λs' P=>⟨π₃,(((P₁.trans P₂).trans P₃).trans P).any,L₃.pg P P₃.g,rfl⟩
end
end
theorem iteO{p:Prop}[Sj p]{x c:Ad}{o:Ab Ad}(e:(if p then some x else o)=some c):(p/\x=c)\/(¬p/\o=some c):=(Sj.em p).elim (λh=>.inl ⟨h,AQ ((Bh h).symm.trans e)⟩) λh=>.inr ⟨h,(AD h).symm.trans e⟩
theorem Qk(l:List Ad)(h:TriplesOk l)(e:Mb pos (l++[D0 a,D0 b,c])=some yV):Mb pos l=some yV\/yV=c:=by
 fun_induction TriplesOk l with
 |case1=>exact .inr ((iteO (o:=none) e).elim (λq=>q.2.symm) λq=>nomatch q.2)
 |case2 a' t b' u x rest ih=>exact(iteO (o:=Mb pos (rest++[D0 a,D0 b,c])) e).elim (λq=>.inl ((Bh q.1).trans (Ai some q.2))) λq=>(ih h q.2).imp (λz=>(AD q.1).trans z) id
 |case3 l h1 h2=>exact h.elim
theorem kl{h:Ay}{ps}(hP:h.get? P=some (D2 ps))(e:h.get? b=some o)(hc:o.cls=.type "code"):b≠P:=λq=>by rw[q,hP] at e;rcases e with ⟨⟩;rcases hc with ⟨⟩
theorem qc:∀t∈TL,∀t'∈TL,t.2.1=t'.2.1->t=t':=⋯
theorem TabsOk.grow{t}(T:TabsOk h)(ht:t∈TL)(hP:h.get? t.2.1=some (D2 ps))(hx:Hc t.2.1 h h')(hn:h'.get? t.2.1=some (D2 (ps ++ #[D0 a,D0 b,c'])))(hc:BZ h' c' t.2.2):TabsOk h':=by
 have up:∀b o,h.get? b=some o->o.cls=.type "code" ->(∃vs,o.data=.fields vs)->h'.get? b=some o:=λb o e c _=>hx b o (kl hP e c) e
 refine λt' yW=>(DH (t'.2.1=t.2.1)).elim (λq=>?_) λq=>(T t' yW).imp up λps e=>hx _ _ q e
 obtain rfl:=qc t' yW t ht q
 exact(T t' yW).2.elim λqs x=>by
  obtain rfl:ps=qs:=by have h:=AQ (hP.symm.trans x.1);injection h with _ _ h;injection h
  refine⟨CodeHd.at' (T t' yW).1 hP (up _),_,hn,by rw[Ls];exact TriplesOk_snoc _ _ _ _ x.2.1,λpos yV e=>?_⟩
  rw[Ls] at e
  exact(Qk _ x.2.1 e).elim (λe=>(x.2.2 pos yV e).imp up) λe=>e▸hc
theorem Kp.grow{X}{t}(ht:t∈TL)(hP:s.heap.get? t.2.1=some (D2 ps))(hx:Hc t.2.1 s.heap h')(hn:h'.get? t.2.1=some (D2 (ps ++ #[D0 a,D0 b,c'])))(hc:BZ h' c' t.2.2):
  Kp X s {s with heap:=h',toks:=tk} where
 keep:=λb o _ hb e=>hx b o (λq=>hb (q▸TU t ht)) e
 there:=λb o _ e=>(DH (b=t.2.1)).elim (λq=>⟨_,q▸hn⟩) λq=>⟨o,hx b o q e⟩
 tabs:=λb _ vs e=>(DH (b=t.2.1)).elim (λq=>by subst q;rw[hP] at e;rcases e with ⟨⟩;exact⟨_,hn⟩) λq=>⟨#[],by rw[hx b _ q e,AE.append_empty]⟩
 tok:=λT=>T.grow ht hP hx hn hc
 os:=rfl
 gens:=id
section
variable{c:Cx}{d:Nat}{fr:FD}{lo Bv BK:Lo}{H H' EY H1 H2 H3:List AO}
theorem SW:∀{acc:List (Str×Nat)},Ok (Cy fr names acc) λfc=>acc.lookup ("__class__" :Str)=none->fc.lookup ("__class__" :Str)=none:=by
 induction names with
 |nil=>exact .some id
 |cons p t ih=>
  refine .cond (λ_=>.guard λhb=>Ok.self.bind λl _=>ih.mono λfc q ha=>q ?_) λ_=>ih
  rw[Dk,show(("__class__" :Str)==p.1)=false from Gx.mpr λq=>by have h:=(Nw (HN hb)).2.1;rw[<-eq_of_beq q,Kc] at h;cases h]
  exact ha
noncomputable def Aaw(body:EL):Sem Ad:=match body with
 |.stmts b=>(match docOf b with | some s=>mkText s | none=>pure .none)
 |.expr _=>pure .none
def qd(k:Sq)(cl:List (Str×Ah))(ctv cd nm doc:Ad):Io:={name:=k.name,qualname:=k.qual,params:=k.params,body:=k.body,scope:=k.scope,globals:=DN,closure:=cl,closureTuple:=ctv,code:=cd,builtins:=C4,defaults:=.none,kwdefaults:=.none,annotations:=none,pyModule:=nm,doc:=doc}
def nW(k:Sq)(cl:List (Str×Ah))(ctv:Ad)(env:Env)(cd:Ad):Sem Ad:=
 builtinsFor DN env.builtins>>=λbi=>nsGet DN "__name__" >>=λnm=>Aaw k.body>>=λdoc=>newObj (.type "function") (.func {qd k cl ctv cd (nm.getD .none) doc with builtins:=bi})
def Xr(k:Sq)(cl:List (Str×Ah))(ctv:Ad)(env:Env)(pos:Pos)(line:Nat):Sem Ad:=functionCode env pos line k.name k.qual k.params k.scope k.body>>=nW k cl ctv env
theorem qe(k:Sq)(hg:env.globals=DN)(pos:Pos)(line:Nat):makeFunction k.name k.qual k.params k.body k.scope env [] [] [] pos line=
  (L6 k.scope env>>=λcl=>if cl.isEmpty then pure .none>>=λctv=>Xr k cl ctv env pos line else newTextTuple ((cl.mergeSort λa b=>a.1.cps.toList<=b.1.cps.toList).map (.ref ·.2))>>=λctv=>Xr k cl ctv env pos line):=by
 rw[makeFunction_eq]
 rw[List.zip_nil_right,List.filterMap_nil,List.isEmpty_nil]
 unfold makeTail
 rw[hg]
 obtain ⟨nm,q,ps,b,sc,fc⟩:=k
 rcases b with ⟨⟩<;>rfl
structure km(π:Pl)(n:Nat)(k:Sq)(cl:List (Str×Ah)):Prop where
 ok:By π n cl k.cells
 c1:cl.lookup ("__class__" :Str)=none
 c2:k.cells.lookup ("__class__" :Str)=none
theorem As.vM(G:Av c π H s)(N:km π H.length k cl)(hcr:BZ s.heap cd k.qual):As π H.length (s.heap.push {cls:=.type "function",data:=.func (qd k cl ctv cd nm doc)}) (.BI k) (.ref s.heap.objs.size):=
 ⟨_,rfl,⟨_,_,Bp _ rfl,rfl,rfl,⟨rfl,rfl,rfl,rfl,rfl,rfl,rfl,rfl,rfl⟩,hcr.push _,λx=>by
  cases q:(x==("__class__" :Str)) with
  |false=>exact N.ok.1 x q
  |true=>rw[eq_of_beq q,N.c2];exact N.c1,N.ok.2⟩,G.Ki⟩
theorem UB(G:Av c π H s)(N:km π H.length k cl)(hcr:BZ s.heap cd k.qual)
  (go:∀a s',Kp no s s'->As π H.length s'.heap (.BI k) (.ref a)->Q (.ref a) s'):Ae c.m A (nW k cl ctv env cd) Q E s:=by
 refine c.names.elim λmg x=>x.elim λmb x=>x.elim λbm x=>x.elim λob x=>?_
 have n1:=Ns.up G x.1
 refine Ac (wpAny_builtinsFor n1 x.2.2.1 x.2.2.2.1 (G.base.keep _ _ id (c.tabs.D4 x.2.2.2.2.1 (by rw[x.2.2.2.2.2.1];nofun)) x.2.2.2.2.1) x.2.2.2.2.2.1 x.2.2.2.2.2.2.1 x.2.2.2.2.2.2.2 (Ac (wpAny_nsGet n1 (Ac ?_))))
 have fin:∀doc tk,Ae c.m A (newObj (.type "function") (.func (qd k cl ctv cd ((mg "__name__").getD .none) doc))) Q E {s with toks:=tk}:=λdoc tk=>
  Eu (go _ _ (.push _) (As.vM G N hcr)) (by size_fits)
 cases k.body with
 |expr e=>exact An (fin _ _)
 |stmts b=>
  show Ae _ _ (match docOf b with | some s=>mkText s | none=>pure .none) _ _ _
  induction docOf b using BL with
  |none=>exact An (fin _ _)
  |some t=>exact RO (fin _ _)
theorem UC{n:Nat}(hrec:h.CodeRec (.ref c') q)(hself:∃P',n<=P'/\h.IsCode c' P' #[]/\h.TableAt c' P' #[]):BZ h (.ref c') q:=by
 obtain ⟨P',_,_,⟨⟨oc,vsc,e1,e2,e3,_⟩,_⟩⟩:=hself
 obtain ⟨c2,o2,vs2,t2,q1,q2,q3,q4⟩:=hrec
 rcases q1 with ⟨⟩
 rw[e1] at q2;rcases q2 with ⟨⟩
 exact .mk e1 e2 q3 q4
theorem QP(hec:env.code=.ref c0)(hT:(c0,P,k.qual)∈TL)(G:Av c π H s)(N:km π H.length k cl)
  (go:∀a s',Kp no s s'->As π H.length s'.heap (.BI k) (.ref a)->Q (.ref a) s'):Ae c.m A (Xr k cl ctv env pos line) Q E s:=by
 have T:=G.tabs _ hT
 refine Bl λGG fin=>T.2.elim λps x=>fin ?_
 cases tR:Mb pos ps.toList with
 |some cv=>exact Ac (wpAny_functionCode_hit hec (T.1.code x.1 x.2.1) tR (UB G N (x.2.2 pos cv tR) go))
 |none=>
  refine Ac (wpAny_functionCodeX hec (T.1.code x.1 x.2.1) (T.1.tab x.1) tR λc' h' tk hx _ _ _ hrec htb hself=>?_)
  have hcr:=UC hrec hself
  have K:Kp no s {s with heap:=h',toks:=tk}:=Kp.grow hT x.1 hx htb.2 hcr
  exact UB (G.DT K) N hcr λa s' K' r=>go a s' (K.trans K') r
theorem vN(F:Bu π H.length fr env)(G:Av c π H s)
  (hfc:Cy fr k.scope.names []=some k.cells)(hT:(c0,P,k.qual)∈TL)(hcode:fr.code=.ref c0)(go:∀a s',Kp no s s'->As π H.length s'.heap (.BI k) (.ref a)->Q (.ref a) s'):Ae c.m A (makeFunction k.name k.qual k.params k.body k.scope env [] [] [] pos line) Q E s:=by
 rw[qe k F.glob]
 refine AH (JH _ hfc F) λcl q=>?_
 have N:km π H.length k cl:=⟨q.2.1,q.2.2,SW _ hfc rfl⟩
 have hec:=(F.code (by rw[hcode];nofun)).trans hcode
 rw[q.1]
 refine Ac (An ?_)
 induction cl using B9 with
 |nil=>exact Ac (An (QP hec hT G N go))
 |cons a cl=>
  have K:∀ob,Kp no s {s with heap:=s.heap.push ob}:=λob=>.BU ob
  exact Ac (wpAny_newTextTuple (QP hec hT (G.DT (K _)) N λa s' K' r=>go a s' ((K _).trans K') r))
structure vO(fr:FD)(nm:Str)(ps:Ge)(sc:BR):Prop where
 simple:KG ps=true
 d1:ps.defaults=[]
 d2:ps.kw_defaults=[]
 ann:∀a∈ps.args,a.annotation=none
 code:∃c0 P,(c0,P,fr.qual++nm)∈TL/\fr.code=.ref c0
theorem aG{code:Ad}(h:codeOk code q=true):∃c0 P,(c0,P,q)∈TL/\code=.ref c0:=by
 induction code using R6 with
 |ref a=>exact(JP.mp h).elim λt z=>⟨t.1,t.2.1,by rw[<-BC (Am z.2)];exact z.1,by rw[Cb (Ax z.2)]⟩
 |_=>exact ff h
theorem UD(h:T9 fr nm ps sc=true):vO fr nm ps sc:=
 ⟨Ax h,Bj (Ax (Ax (Am h))),Bj (Am (Ax (Am h))),λa ha=>CN (BW.mp (Ax (Am (Am h))) a ha),aG (Am (Am (Am h)))⟩
theorem fB(env:Env):evalOpt none env=none:=⋯
theorem Aay(env:Env)(n p r):RN (⟨n,none,p⟩::r) env=RN r env:=⋯
theorem Y3(env:Env):∀{l:List Arg},(∀a∈l,a.annotation=none)->RN l env=[]
 |[],_=>rfl
 |⟨n,o,p⟩::r,h=>by
  obtain rfl:o=none:=h _ (CT ..)
  exact(Aay env n p r).trans <| Y3 env λa ha=>h a (Ed _ ha)
theorem aH:∀{ps:Ge},(ps.posonlyargs=[]/\ps.vararg=none/\ps.kwonlyargs=[]/\ps.kwarg=none)->(∀a∈ps.args,a.annotation=none)->annTrees ps none env=[]
 |⟨po,as,va,ko,kd,kw,dd⟩,S,h=>by
  obtain rfl:po=[]:=S.1
  obtain rfl:va=none:=S.2.1
  obtain rfl:ko=[]:=S.2.2.1
  obtain rfl:kw=none:=S.2.2.2
  unfold annTrees
  rw[fB]
  show RN (as++[]++[]++[]++[]) env++[]=[]
  rw[DW,DW,DW,DW,DW,Y3 env h]
theorem Bt.qf(hd:T9 fr "<lambda>" ps sc=true):Ok (Cy fr sc.names []) λfc=>Bt c d fr lo H (.Lambda ps body sc p) (.BI ⟨"<lambda>",fr.qual++"<lambda>",ps,.expr body,sc,fc⟩) H:=λfc hfc=>by
 have D:=UD hd
 intro A env π s E R F G L
 refine D.code.elim λc0 z=>z.elim λP z=>kla_eval (by rw[defaultsOf_eq,D.d1,D.d2];rfl) ?_
 rw[F.qual]
 exact vN (k:=⟨"<lambda>",fr.qual++"<lambda>",ps,.expr body,sc,fc⟩) F G hfc z.1 z.2 λa s' K r=>⟨π,.pure G K,r⟩
theorem E9.Aaz(hd:T9 fr n ps sc=true)(hfc:Cy fr sc.names []=some fc)(h:FA c d fr lo H n (.BI ⟨n,fr.qual++n,ps,.stmts b,sc,fc⟩) Bv H1)
  (hk:CX fr n≠some .globalExplicit):E9 c d fr lo H (.FunctionDef n ps b [] none [] sc none n p) .next Bv H1:=by
 have D:=UD hd
 intro A env π s E R F G L
 have AaA:annTrees ps none env=[]:=aH (Pe D.simple).1 D.ann
 have hq:qualnameIn env n n=fr.qual++n:=by
  unfold qualnameIn
  rw[show env.kindOf n=CX fr n from by unfold Sg CX;rw[F.scope,D8],F.qual,AD (by simpa using hk)]
 refine D.code.elim λc0 z=>z.elim λP z=>?_
 rw[exec_def,hq,defaultsOf_eq,D.d1,D.d2,AaA]
 refine Ac (DM (Ac (BF (Ac (An (Ac (BF (An (BF (Ac (An ?_)))))))))))
 exact vN (k:=⟨n,fr.qual++n,ps,.stmts b,sc,fc⟩) F G hfc z.1 z.2 λa s' K r=>Ac (DM (Ac (WG (h.use R F (G.DT K) (L.DT G K) r λs₂ P₂ F₂ L₂ hl=>An ⟨π,(PG.pure G K).trans P₂,L₂,rfl⟩))))
end
section
open Builtin Builtin.ObjectAttr
section
variable{c:Cx}{d:Nat}{fr:FD}{lo Bv BK:Lo}{H H' EY H1 H2 H3:List AO}
def IZ:Sy->Ad
 |.fn a=>.ref a
 |.pop=>.ref 209
 |.parts=>.ref 246
 |.bi b=>.builtin b.id
def GF(c:Cx)(d:Nat)(H:List AO)(o:AV)(m:Str)(k:Sy):Prop:=
 ∀(A:AG)(π:Pl)(s:Aj)(E:EP)(cv:Ad)(pl:Sem Aa)(Q:Ad×List Ad->Aj->Prop),A5 d A->Av c π H s->As π H.length s.heap o cv->Q (IZ k,[cv]) s->Ae c.m A (Oq cv m pl) Q E s
theorem MB.ty(b:MB):CR (.builtin b.id)=pure (.type "method_descriptor"):=by rcases b with ⟨⟩<;>kernel_rfl
theorem aI(Cl:Be c)(X:c.K.In s.heap)(I:InstAt s.heap x ox 249 (some od))
  (hf:A7 c.K (.ref 249) name=some (some f))(htf:(tf !=.type "function" &&tf !=.type "method_descriptor" &&tf !=.type "wrapper_descriptor")=false)(ht:AR c.m s.heap (CR f) tf)(hs:lookIn name od=some none)(h:Q (f,[.ref x]) s):Ae c.m A (Oq (.ref x) name pl) Q E s:=by
 unfold Oq Il
 refine Ac (Ac (I.type.here ((Dr X Cl.a.ga).here ?_)))
 dsimp only
 rw[canon_list_getattribute,AD BJ]
 refine Ac (Ac (I.type.here ((Dr X Cl.a.hk).here ?_)))
 refine Ac (Ac (I.type.here ((Dr X hf).here ?_)))
 refine Ac (ht.here ?_)
 rw[AD (by rw[htf];exact BJ)]
 refine Ac (RJ I.at_ ?_)
 have hd:=I.dict
 cases e:ox.dict with
 |none=>exact Ac (Gd (An h))
 |some dx=>
  rw[e] at hd
  refine Ac (Ac (RJ hd ?_))
  rw[nsLook_of hs]
  exact An (Ac (Gd (An h)))
theorem Jm{dl:Nat}(G:Av c π H s)(h:Cw H dl m=true):∃od,s.heap.get? (π.at' dl)=some od/\lookIn m od=some none:=
 (A0 h).elim λes q=>(G.objs dl _ (dictAt _ q.1)).elim λmm z=>z.imp λod z=>⟨z.2.2.1,by
  have w:=z.2.2.2 m
  rw[<-D8,CN q.2] at w
  rw[Pt z.1 z.2.2.1,w]⟩
def qg{α:Type}(P:Str->α->Prop):List (Str×α)->Prop
 |[]=>True
 |p::r=>P p.1 p.2/\qg P r
theorem I0(P:Str->α->Prop):∀{l:List (Str×α)},qg P l->Ok (lk x l) (P x)
 |[],_=>.none
 |p::r,h=>by
  show Ok (JM (motive:=λ_=>Ab α) (lk x r) (some p.2) (sEq x p.1)) (P x)
  cases e:sEq x p.1 with
  |true=>exact .some (by rw[BC e];exact h.1)
  |false=>exact I0 P h.2
theorem GF.vP{b:MB}(sl:Slot "list" m b.id)(ho:s.heap.get? a=some o)(hc:o.cls=.type "list")(hd:o.dict=none)(q:Q (.builtin b.id,[.ref a]) s):
  Ae c.m A (Oq (.ref a) m pl) Q E s:=Wz ⟨o,ho,hc⟩ PySem.F.plainAttrs_list sl b.ty (λa' e=>by rcases e with ⟨⟩;exact⟨o,ho,hd⟩) q
theorem GF.list(hH:H[l]?=some (.list xs))(sl:Slot "list" m b.id):GF c d H (.loc l) m (.bi b):=λA π s E cv pl Q R G rv q=>
 (G.objs l _ hH).elim λvs z=>z.elim λk z=>by rw[rv.loc.2] at q ⊢;exact GF.vP sl z.1 rfl rfl q
theorem GF.str(sl:Slot "str" m b.id):GF c d H (.str x) m (.bi b):=λA π s E cv pl Q R G rv q=>
 rv.str.elim λt e=>by subst e;exact Wz (J1 s x t) dh sl b.ty nofun q
theorem GF.acc(Cl:Be c){l dl:Nat}{m:Str}(hH:H[l]?=some (.acc dl xs))(hsh:Cw H dl m=true)(hf:A7 c.K (.ref 249) m=some (some (IZ k)))
  (ht:∃tf,(tf !=.type "function" &&tf !=.type "method_descriptor" &&tf !=.type "wrapper_descriptor")=false/\∀h:Ay,c.K.In h->AR c.m h (CR (IZ k)) tf):GF c d H (.loc l) m k:=λA π s E cv pl Q R G rv q=>by
 rw[rv.loc.2] at q ⊢
 refine(Jm G hsh).elim λod z=>(G.objs l _ hH).elim λvs y=>y.elim λkk y=>y.elim λsl y=>ht.elim λtf ht=>?_
 exact aI Cl (c.DA G) ⟨y.1,rfl,rfl,z.1⟩ hf ht.1 (ht.2 _ (c.DA G)) z.2 q
theorem GF.MU(Cl:Be c){l dl:Nat}(hk:IZ k=.ref a)(hm:(m,a)∈D6++OR)(hH:H[l]?=some (.acc dl xs))(hsh:Cw H dl m=true):GF c d H (.loc l) m k:=
 have f:=Cl.a.ms _ hm
 .acc Cl hH hsh (by rw[hk];exact f.1) ⟨_,rfl,λh X=>by rw[hk];exact looks_typeIn X f.2⟩
theorem GF.inst(Cl:Be c){l dl:Nat}(hm:(m,a)∈D5)(hH:H[l]?=some (.inst 165 dl))(hsh:Cw H dl m=true):GF c d H (.loc l) m (.fn a):=λA π s E cv pl Q R G rv q=>by
 rw[rv.loc.2] at q ⊢
 have f:=Cl.v.ms _ hm
 exact(Jm G hsh).elim λod z=>(G.objs l _ hH).elim λsl y=>method_fn (c.DA G) ⟨y.1,rfl,rfl,z.1⟩ Cl.v.ga Cl.v.hk f.1 f.2 (show shadowIn (some od) m=some false from Ai (Ab.map Ab.isSome) z.2) q
noncomputable abbrev mI:List (Str×Sy):=[("bit_length",.bi .Kg)]
noncomputable abbrev mS:List (Str×Sy):=[("join",.bi .join),("split",.bi .split),("index",.bi .Kf),("isspace",.bi .isspace)]
noncomputable abbrev mL:List (Str×Sy):=[("index",.bi .Hj)]
noncomputable abbrev mO:List (Str×Sy):=[("append",.bi .append),("extend",.bi .extend),("insert",.bi .insert)]
theorem UE(Cl:Be c){S:St}{v:AV}:Ok (OU S v m) (GF c d S.H v m):=by
 induction v using AV.casesOn with
 |int i=>exact I0 (GF c d S.H (.int i)) (l:=mI) ⟨λA π s E cv pl Q R G rv q=>rv.int.elim λt e=>by subst e;exact getMethod_int_bit_length q,trivial⟩
 |str x=>exact I0 (GF c d S.H (.str x)) (l:=mS) ⟨.str di,.str R2,.str PySem.F.slot_str_index,.str PySem.F.slot_str_isspace,trivial⟩
 |lst xs=>
  exact I0 (GF c d S.H (.lst xs)) (l:=mL) ⟨λA π s E cv pl Q R G rv q=>AH rv λa z=>z.elim λvs z=>z.2.1.elim λo y=>by
        obtain rfl:=z.1
        exact GF.vP (b:=.Hj) da y.1 y.2.1 y.2.2.1 q,trivial⟩
 |loc l=>
  refine Ok.self.bind λo hH=>?_
  induction o using AO.casesOn with
  |inst C dl=>
   refine .guard λh=>Ok.self.bind λa ha=>.some ?_
   obtain rfl:C=165:=Cb (Ax h)
   exact .inst Cl (SP ((D8 ..).symm.trans ha)) hH (Am h)
  |acc dl xs=>
   refine .guard λh=>?_
   have go:qg (λm k=>Cw S.H dl m=true->GF c d S.H (.loc l) m k) Sz:=⟨.MU Cl rfl (.head _) hH,.MU Cl rfl (.tail _ (.head _)) hH,.MU Cl rfl (.tail _ (.tail _ (.head _))) hH,.MU Cl rfl (.tail _ (.tail _ (.tail _ (.head _)))) hH,
    .MU Cl rfl (.tail _ (.tail _ (.tail _ (.tail _ (.head _))))) hH,.MU Cl rfl (.tail _ (.tail _ (.tail _ (.tail _ (.tail _ (.head _)))))) hH,λhs=>.acc Cl hH hs Cl.app ⟨_,rfl,λh _=>AR.of_pure type_list_append⟩,trivial⟩
   exact(I0 _ go).mono λk q=>q h
  |list xs=>exact I0 (GF c d S.H (.loc l)) (l:=mO) ⟨.list hH RG,.list hH c6,.list hH c8,trivial⟩
  |_=>exact .none
 |_=>exact .none
end
end
section
open Builtin Builtin.ObjectAttr
theorem I1(sep:Str):∀l:List Str,R5 sep l=⟨(JC sep.cps.toList l).toArray⟩
 |[]=>rfl
 |[x]=>rfl
 |x::y::r=>by
  show x++sep++R5 sep (y::r)=_
  rw[I1 sep (y::r)]
  apply Str.ext'
  apply NP.mp
  show((x.cps++sep.cps)++(JC sep.cps.toList (y::r)).toArray).toList=(x.cps.toList++(sep.cps.toList++JC sep.cps.toList (y::r)))
  rw[Ls,Ls,FO]
theorem neB(h:a≠c):Aw a c=false:=by cases q:Aw a c with | false=>rfl | true=>exact AL (Cb q) h
theorem QQ(h:a≠c)(e:C7 c r=p::ps):C7 c (a::r)=(a::p)::ps:=by
 show(match Aw a c with | true=>[]::C7 c r | false=>match C7 c r with | []=>[[a]] | p::ps=>(a::p)::ps)=_
 rw[neB h,e]
theorem MV:∀{p:List Nat},c∉p->C7 c p=[p]
 |[],_=>rfl
 |a::r,h=>QQ (λq:a=c=>h (by rw[q];exact CT ..)) (MV λq=>h (Ed _ q))
theorem Px:∀{p q:List Nat},c∉p->C7 c (p++c::q)=p::C7 c q
 |[],q,_=>by
  show(match Aw c c with | true=>[]::C7 c q | false=>match C7 c q with | []=>[[c]] | p::ps=>(c::p)::ps)=_
  rw[Ib c]
 |a::r,q,h=>QQ (λq:a=c=>h (by rw[q];exact CT ..)) (Px λq=>h (Ed _ q))
theorem MW:∀{l:List Str},l≠[]->(∀p∈l,c∉p.cps.toList)->C7 c (JC [c] l)=l.map (·.cps.toList)
 |[],h,_=>AL rfl h
 |[x],_,h=>MV (h x (CL.mpr rfl))
 |x::y::r,_,h=>(Px (h x (CT ..))).trans (Ai (_ :: ·) (MW nofun λp hp=>h p (Ed _ hp)))
theorem aJ(x:Str)(c:Nat):(J8 x ⟨#[c]⟩)=(C7 c x.cps.toList).map λp=>⟨p.toArray⟩:=by
 have h1:=StrLaws.join_split x ⟨#[c]⟩
 have h3:J8 x ⟨#[c]⟩≠[]:=λq=>by have h:=split_pos x ⟨#[c]⟩;rw[q] at h;exact AL h (F9 0)
 have h4:=MW h3 (StrLaws.split_free x c)
 rw[I1] at h1
 have h5:JC [c] (J8 x ⟨#[c]⟩)=x.cps.toList:=Ai (λz:Str=>z.cps.toList) h1
 rw[h5] at h4
 rw[h4,F8]
 exact(List.map_id'' (λx=>rfl) _).symm
section
variable{c:Cx}{d:Nat}{fr:FD}{lo Bv BK:Lo}{H H' EY H1 H2 H3:List AO}
theorem QR:∀{xs:List AV},Ok (IG xs) λys=>∀{π:Pl}{n:Nat}{h:Ay}{vs:List Ad},Ag π n h xs vs->StrsAre vs ys
 |[]=>.some λr=>by rw[r];exact .nil
 |x::xs=>Cz.bind λb e=>(QR).bind λbs q=>.some λ{π n h vs} r=>AH r λv r=>r.elim λws r=>by
   subst e
   exact r.1▸r.2.1.str.elim λt z=>z▸.cons _ t (q r.2.2)
theorem Y4:∀(tk:Nat)(l:List Str),Ag π n h (l.map .str) (strsFrom tk l)
 |_,[]=>.nil
 |tk,x::r=>.cons .mkStr (Y4 (tk+1) r)
def Cj(c:Cx)(d:Nat)(H:List AO)(wr:Nat)(id:A3)(as:List AV)(r:AV)(H':List AO):Prop:=
 ∀(A:AG)(π:Pl)(s:Aj)(E:EP)(cargs:List Ad),A5 d A->wr<=H.length->Av c π H s->Ag π H.length s.heap as cargs->
  Ae c.m A (call (.builtin id) cargs) (FV c wr π H s r H') E s
theorem Cj.NA{id:A3}(h:Cj c d H wr id as r H'):DQ c d H wr (.val (.builtin id)) as [] r H':=λA π s E cf cargs Gr R hw G rf ra rk=>by
 cases rf.val
 exact h A π s E cargs R hw G ra
theorem Cj.one{id:A3}(h:∀(A:AG)(π:Pl)(s:Aj)(E:EP)(ca:Ad),A5 d A->wr<=H.length->Av c π H s->As π H.length s.heap a ca->
  Ae c.m A (call (.builtin id) [ca]) (FV c wr π H s r H') E s):Cj c d H wr id [a] r H':=
 λA π s E cargs R hw G ra=>AH ra λv ra=>ra.elim λws ra=>by rw[ra.1,ra.2.2];exact h A π s E v R hw G ra.2.1
theorem Cj.two{id:A3}(h:∀(A:AG)(π:Pl)(s:Aj)(E:EP)(ca cb:Ad),A5 d A->wr<=H.length->Av c π H s->As π H.length s.heap a ca->As π H.length s.heap b cb->
  Ae c.m A (call (.builtin id) [ca,cb]) (FV c wr π H s r H') E s):Cj c d H wr id [a,b] r H':=
 λA π s E cargs R hw G ra=>AH ra λv ra=>ra.elim λws ra=>AH ra.2.2 λw rb=>rb.elim λus rb=>by rw[ra.1,rb.1,rb.2.2];exact h A π s E v w R hw G ra.2.1 rb.2.1
theorem Cj.three{id:A3}(h:∀(A:AG)(π:Pl)(s:Aj)(E:EP)(ca cb ce:Ad),A5 d A->wr<=H.length->Av c π H s->As π H.length s.heap a ca->As π H.length s.heap b cb->As π H.length s.heap e ce->
  Ae c.m A (call (.builtin id) [ca,cb,ce]) (FV c wr π H s r H') E s):Cj c d H wr id [a,b,e] r H':=
 λA π s E cargs R hw G ra=>AH ra λv ra=>ra.elim λws ra=>AH ra.2.2 λw rb=>rb.elim λus rb=>AH rb.2.2 λu rc=>rc.elim λts rc=>by rw[ra.1,rb.1,rc.1,rc.2.2];exact h A π s E v w u R hw G ra.2.1 rb.2.1 rc.2.1
theorem Cj.isspace{wr:Nat}:Cj c d H wr "str.isspace" [.str x] (.bool (Txt.isspace x)) H:=.one λA π s E ca R hw G ra=>by
 obtain ⟨t,rfl⟩:=ra.str
 exact SC.isspace ⟨π,.refl G,.FW⟩
theorem Cj.Kf{wr:Nat}(ho:(Ox x y 0 x.length 1).head?=some i):Cj c d H wr "str.index" [.str x,.str y] (.int i) H:=.two λA π s E ca cb R hw G ra rb=>by
 obtain ⟨t,rfl⟩:=ra.str
 obtain ⟨u,rfl⟩:=rb.str
 exact(List.head?_eq_some_iff.mp ho).elim λr e=>SC.index e ⟨π,.pure G .toks,.mkInt⟩
theorem Cj.Kg{wr:Nat}:Cj c d H wr "int.bit_length" [.int i] (.int (Dy i)) H:=.one λA π s E ca R hw G ra=>by
 obtain ⟨t,rfl⟩:=ra.int
 exact call_int_bit_length ⟨π,.pure G .toks,.mkInt⟩
theorem QS:∀l:List Str,SA l=(l.map (·.length)).sum
 |[]=>rfl
 |x::r=>by rw[ED,LK,<-QS r];rfl
theorem Cj.join(hv:Jw c H v xs)(hs:∀{π:Pl}{n:Nat}{h:Ay}{vs:List Ad},Ag π n h xs vs->StrsAre vs ys)(hsz:CI x<=64/\SA ys+ys.length*64<=1000000):Cj c d H wr "str.join" [.str x,v] (.str ⟨(JC x.cps.toList ys).toArray⟩) H:=.two λA π s E ca cb R hw G ra rb=>by
 obtain ⟨t,rfl⟩:=ra.str
 refine(hv π s G cb rb).elim λb z=>z.elim λvs z=>?_
 rw[z.1]
 refine join_listC z.2.1 (hs z.2.2) hsz.1 (by rw[<-QS];exact AA hsz.2 ⋯) λt' k=>?_
 rw[show OA x ys=⟨(JC x.cps.toList ys).toArray⟩ by rw[<-I1];exact WW x ys]
 exact⟨π,.pure G .toks,.mkStr⟩
theorem Cj.split(hy:y.cps.toList=[ch])(hsz:CI x<10000):Cj c d H wr "str.split" [.str x,.str y] (.lst ((C7 ch x.cps.toList).map λp=>.str ⟨p.toArray⟩)) H:=.two λA π s E ca cb R hw G ra rb=>by
 obtain ⟨t,rfl⟩:=ra.str
 obtain ⟨u,rfl⟩:=rb.str
 obtain rfl:y=⟨#[ch]⟩:=Str.ext' (NP.mp hy)
 have e:(C7 ch x.cps.toList).map (λp=>AV.str ⟨p.toArray⟩)=(J8 x ⟨#[ch]⟩).map .str:=by rw[aJ,F8];rfl
 have hle:=split_le x ⟨#[ch]⟩
 have hA:x.length+2<=BY:=AA (Wl hsz) ⋯
 rw[e]
 have fin:∀(l:List Str)(tk tk':Nat),J8 x ⟨#[ch]⟩=l->FV c wr π H s (.lst ((J8 x ⟨#[ch]⟩).map .str)) H (.ref s.heap.objs.size) {s with heap:=s.heap.push {cls:=.type "list",data:=.seq (strsFrom tk l).toArray},toks:=tk'}:=λl tk tk' hl=>by
  rw[hl]
  exact⟨π,.pure G (.push _),As.newList G (Y4 tk l)⟩
 have nX:J8 x ⟨#[ch]⟩=if (decide (x.length<(⟨#[ch]⟩ :Str).length)||decide (RZ x<RZ ⟨#[ch]⟩))=true then [x] else
   if (Ox x ⟨#[ch]⟩ 0 x.length (x.length+1)).isEmpty=true then [x] else Bo.Str.partsBetween x (Ox x ⟨#[ch]⟩ 0 x.length (x.length+1)) (⟨#[ch]⟩ :Str).length:=rfl
 cases h1:(decide (x.length<(⟨#[ch]⟩ :Str).length)||decide (RZ x<RZ ⟨#[ch]⟩))
 ·rw[h1,AD BJ] at nX
  cases hf:(Ox x ⟨#[ch]⟩ 0 x.length (x.length+1)).isEmpty
  ·rw[hf,AD BJ] at nX
   refine Ij R2 (J1 _ _ _) WQ (WO _ _) (meets_str_split_sep x ⟨#[ch]⟩ t u h1 rfl hf (AA (BG _ 2) hA) (by rw[<-nX];exact AA hle hA)) ?_
   exact fin _ _ _ nX
  ·rw[hf,Bh rfl] at nX
   refine Ij R2 (J1 _ _ _) WQ (WO _ _) (meets_str_split_not_found x ⟨#[ch]⟩ t u h1 rfl hf) ?_
   exact fin [x] t s.toks nX
 ·rw[h1,Bh rfl] at nX
  refine Ij R2 (J1 _ _ _) WQ (WO _ _) (meets_str_split_cannot_occur x ⟨#[ch]⟩ t u h1) ?_
  exact fin [x] t s.toks nX
end
end
section
open Builtin Builtin.ObjectAttr
section
variable{c:Cx}{d:Nat}{fr:FD}{lo Bv BK:Lo}{H H' EY H1 H2 H3:List AO}
theorem CZ:Jg ⟨cls,dd,.seq vs k,sl⟩:=.data λ_ q=>nomatch q
theorem yY(e:n=m)(h:m<100000):n<BY:=e▸BX h ⋯
theorem Cj.append(e:H[l]?=some (.list xs))(hsz:xs.length<100000)(hw:wr<=l):Cj c d H wr "list.append" [.loc l,v] .none (H.set l (.list (xs++[v]))):=.two λA π s E ca cv R _ G ra r=>(G.objs l _ e).elim λvs q=>q.elim λn q=>by
 rw[ra.loc.2]
 refine Ij RG ⟨_,q.1,rfl⟩ Wy (WA _ _) (list_append (π.at' l) vs n cv (by have:=yY q.2.size hsz;exact(pw [.t .p .q] (.l .p .q) [] [_,_]) this)) ⟨q.1,?_⟩
 exact⟨π,Fp (CY G (G.lt e) hw q.1 CZ CZ rfl s.toks λh' S e'=>⟨vs.push cv,_,e',(q.2.step S).snoc (r.step S)⟩),.FW⟩
theorem fC:Dp "list.append" =some .slot\/Dp "list.append" =some .method:=⋯
theorem aK:G8 "list.append" =some ("list","append"):=⋯
theorem Cj.aL(Cl:Be c){wr l dl:Nat}(e:H[l]?=some (.acc dl xs))(hsz:xs.length<100000)(hw:wr<=l):Cj c d H wr "list.append" [.loc l,v] .none (H.set l (.acc dl (xs++[v]))):=.two λA π s E ca cv R _ G ra r=>(HI G e).elim λvs q=>q.elim λk q=>q.elim λsl q=>by
 rw[ra.loc.2]
 have hs:=yY q.2.1.size hsz
 refine SV fC aK RG.plain Wy (WA _ _) (Xn Cl (c.DA G) q.2.2.2 _ ⋯) ?_
 show Ae _ _ (updateSeq (π.at' l) (·.push cv)>>=λ_=>ret .none) _ _ _
 refine Ac (EJ q.1 rfl (_hz':=by rw[AE.size_push];exact Wl (DX hs)) (An ⟨_,rfl,?_⟩))
 exact⟨π,Fp (CY G (G.lt e) hw q.1 CZ CZ rfl s.toks λh' S e'=>⟨vs.push cv,_,sl,e',q.2.2.1,(q.2.1.step S).snoc (r.step S)⟩),.FW⟩
theorem or3{a b c:Aa}(h:b=true):(a||b||c)=true:=by rw[h,Aa.or_true,Aa.true_or]
theorem Cj.extend(e:H[l]?=some (.list xs))(hv:Jw c H v ys)(hsz:xs.length+ys.length<=1000)(hw:wr<=l):Cj c d H wr "list.extend" [.loc l,v] .none (H.set l (.list (xs++ys))):=.two λA π s E ca cb R _ G ra rb=>
  (G.objs l _ e).elim λvs q=>q.elim λn q=>(hv π s G cb rb).elim λb z=>z.elim λus z=>(Ep z.2.1).elim λdd y=>y.elim λnb y=>y.elim λsb jd=>by
 rw[ra.loc.2,z.1]
 have hs:vs.size+us.size<=1000:=by rw[q.2.size,z.2.2.size];exact hsz
 refine GY c6 ⟨_,q.1,rfl⟩ PySem.F.entry_list_extend ?_ (PySem.F.args_list_extend_2 _ _)
 show Ae _ _ (Bo.List.listExtendWith (.ref (π.at' l)) (.ref b) .none) _ _ _
 refine Ac (LZ ⟨_,jd,rfl⟩ ?_)
 rw[Bh (or3 (b:=Fl "list" ==Fl "list") rfl)]
 refine Ac (Ac (FR jd rfl (An (Ac (Ac (FR q.1 rfl (An ?_)))))))
 have hl:vs.size+us.size<=BY:=AA hs ⋯
 rw[AD (by rw[show WL (vs.size+us.size)=false from Ct (EI.mpr hl),Q4];exact BJ)]
 refine Ac (EJ q.1 rfl (_hz':=by rw[AE.size_append];exact JT hl) (An ⟨_,rfl,?_⟩))
 exact⟨π,Fp (CY G (G.lt e) hw q.1 CZ CZ rfl s.toks λh' S e'=>⟨vs++us,_,e',by
  rw[Ls]
  exact(q.2.step S).append (z.2.2.step S)⟩),.FW⟩
theorem nY(vs:AE Ad)(cv:Ad)(j:Nat)(h:j<=vs.size):((vs.extract 0 (min j vs.size)).push cv++vs.extract (min j vs.size) vs.size)=(vs.toList.take j++cv::vs.toList.drop j).toArray:=by
 rw[Nat.min_eq_left h]
 apply NP.mp
 simp only[Ls,AE.toList_push,AE.toList_extract,List.extract_eq_take_drop]
 rw[V9 (i:=vs.size-j) (by rw[Rj];exact AP _),List.drop_zero,Wp,FO]
 rfl
theorem Cj.insert(e:H[l]?=some (.list xs))(hi: 0<=i/\i<=xs.length/\xs.length<1000)(hw:wr<=l):Cj c d H wr "list.insert" [.loc l,.int i,v] .none (H.set l (.list (xs.take i.toNat++v::xs.drop i.toNat))):=.three λA π s E ca cb cv R _ G ra rb r=>
  (G.objs l _ e).elim λvs q=>q.elim λn q=>rb.int.elim λt ht=>(bN hi.1).elim λj hj=>by
 rw[ra.loc.2,ht]
 have hs:vs.size<1000:=by rw[q.2.size];exact hi.2.2
 have hk:j<=vs.size:=by rw[q.2.size];exact DL.mp (hj▸hi.2.1)
 have hf:=fitsIndex_of hi.1 (V1 hi.2.1 (V7 (DB.mpr hi.2.2) ⋯))
 refine GY c8 ⟨_,q.1,rfl⟩ PySem.F.entry_list_insert ?_ (PySem.F.args_list_insert_3 _ _ _)
 refine Ac (Ci rfl ?_)
 refine Ac (Ci rfl ?_)
 rw[AD (by rw[hf];exact BJ)]
 subst hj
 have hz:vs.size+1<=BY:=AA hs ⋯
 refine Ac (EJ q.1 rfl (_hz':=by
  show AE.size (((vs.extract 0 (min j vs.size)).push cv++vs.extract (min j vs.size) vs.size))<=_
  rw[nY vs cv j hk,LD,BP,JQ,<-Nat.add_assoc,<-BP,H5,Dt];exact JT hz) (An ⟨_,rfl,?_⟩))
 exact⟨π,Fp (CY G (G.lt e) hw q.1 CZ CZ rfl s.toks λh' S e'=>⟨_,_,e',by
  show Ag _ _ _ _ (AE.toList ((vs.extract 0 (min j vs.size)).push cv++vs.extract (min j vs.size) vs.size))
  rw[nY vs cv j hk]
  exact((q.2.step S).take _).append (.cons (r.step S) ((q.2.step S).drop _))⟩),.FW⟩
theorem Y5:∀{l:List Str}{i:Nat},Ok (Qg x l i) λj=>∃k,j=i+k/\l[k]?=some x/\∀m,m<k->l[m]?≠some x
 |[],_=>.none
 |y::r,i=>.cond (λq=>.some ⟨0,rfl,Ai some (BC q),λm hm=>AL hm (Ff m)⟩) λq=>(Y5).mono λj h=>h.elim λk h=>⟨k+1,h.1.trans (Nat.succ_add_eq_add_succ i k),h.2.1,λm hm=>match m with
  |0=>λe=>by rw[AQ e,KO] at q;cases q
  |m+1=>h.2.2 m (LL hm)⟩
def nZ(x:Str)(v:Ad):Aa:=match v with | .str z _=>sEq z x | _=>false
theorem UG:∀{xs:List AV},Ok (IG xs) λys=>ys.length=xs.length/\∀{π:Pl}{n:Nat}{h:Ay}{vs:List Ad},Ag π n h xs vs->∀(j:Nat) v,vs[j]?=some v->∃y t,ys[j]?=some y/\v=.str y t
 |[]=>.some ⟨rfl,λr j v e=>by rw[r] at e;cases e⟩
 |x::xs=>Cz.bind λb hb=>(UG).bind λbs q=>.some ⟨Ai Gb q.1,λ{π n h vs} r j v e=>AH r λw r=>r.elim λws r=>by
   rw[r.1] at e
   match j,e with
   |0,e=>exact(AH (show As π n h (.str b) w from hb▸r.2.1) λt z=>⟨b,t,rfl,(AQ e).symm.trans z⟩)
   |j+1,e=>exact q.2 r.2.2 j v e⟩
theorem QT:nZ x (.str y t)=true↔some y=some x:=⟨λh=>Ai some (BC h),λh=>by rw[AQ h];exact KO x⟩
theorem Cj.Hj{ys:List Str}{j:Nat}(hs:ys.length=xs.length/\∀{π:Pl}{n:Nat}{h:Ay}{vs:List Ad},Ag π n h xs vs->∀(j:Nat) v,vs[j]?=some v->∃y t,ys[j]?=some y/\v=.str y t)(hj:∃k,j=0+k/\ys[k]?=some x/\∀m,m<k->ys[m]?≠some x)(hsz:xs.length<1000):Cj c d H wr "list.index" [.lst xs,.str x] (.int j) H:=.two λA π s E ca cb R _ G ra rb=>
  rb.str.elim λu hu=>ra.lst.elim λa q=>q.elim λvs q=>(Ep q.2.1).elim λdd y=>y.elim λn y=>y.elim λsl ho=>hj.elim λk h=>by
 rw[q.1,hu,h.1,Ia]
 have hlen:=q.2.2.2.size
 have hk:=(NZ.mp h.2.1).1
 have hkv:k<vs.size:=by rw[hlen,<-hs.1];exact hk
 have at':=λm hm=>hs.2 q.2.2.2 m vs[m] (by simp[hm])
 refine Ij da ⟨_,ho,rfl⟩ PySem.F.entry_list_index (PySem.F.args_list_index_2 _ _) (PySem.SeqAt.list_indexAt a vs n dd sl (.str x u) (nZ x) k hkv (by have:=yY hlen (EH hsz ⋯);unfold BY at this;exact(pw [.t .p .q,.t .q (.k (2^24))] (.T (.n .p) (.S (.j (2^63)) (.j 1))) [] [_,_]) hkv this) ((at' k hkv).elim λy z=>z.elim λt z=>by rw[z.2];exact QT.mpr (z.1.symm.trans h.2.1)) λm hm IY=>?_) ⟨ho,λy hy=>?_,⟨π,.pure G .toks,.mkInt⟩⟩
 ·exact Gx.mpr λw=>(at' m hm).elim λy z=>z.elim λt z=>h.2.2 m IY (z.1.trans (QT.mp (z.2▸w)))
 ·exact(AE.getElem_of_mem hy).elim λm e=>e.elim λhm e=>(at' m hm).elim λz w=>w.elim λt w=>by
   obtain rfl:y=.str z t:=e.symm.trans w.2
   exact(SK _ rfl π H.length s.heap _ _ .mkStr .mkStr).1 _ _ |>.1
end
end
section
open Builtin Builtin.ObjectAttr
theorem UH:Slot "method_descriptor" "__get__" "method_descriptor.__get__" :=.of (owner:="method_descriptor") (n:="__get__") (by rw[typeLookup_type,builtinLookup_eq_fast];kernel_rfl) ⋯ ⋯ ⋯
  (by first | exact .inl ⋯ | exact .inr ⋯) (by rw[isSubtype_type];kernel_rfl)
theorem MX:Slot "wrapper_descriptor" "__get__" "wrapper_descriptor.__get__" :=.of (owner:="wrapper_descriptor") (n:="__get__") (by rw[typeLookup_type,builtinLookup_eq_fast];kernel_rfl) ⋯ ⋯ ⋯
  (by first | exact .inl ⋯ | exact .inr ⋯) (by rw[isSubtype_type];kernel_rfl)
theorem SX:Ip Ir "method_descriptor.__get__" =some Bo.«method_descriptor.__get__» :=Od ⋯
theorem KU:Ip Ir "wrapper_descriptor.__get__" =some Bo.«wrapper_descriptor.__get__» :=Od ⋯
theorem UI(a b c:Ad):C5 "method_descriptor.__get__" ⟨[a,b,c],[]⟩:=by unfold C5;kernel_rfl
theorem MY(a b c:Ad):C5 "wrapper_descriptor.__get__" ⟨[a,b,c],[]⟩:=by unfold C5;kernel_rfl
theorem qh:CR (.builtin "list.pop")=pure (.type "method_descriptor"):=⋯
theorem qi:CR (.builtin "list.__len__")=pure (.type "wrapper_descriptor"):=⋯
theorem kq:CR (.builtin "list.__init__")=pure (.type "wrapper_descriptor"):=⋯
theorem qj(K:AI):Mj K "pop" [.type "list",.type "object"]=some (some (.builtin "list.pop")):=⋯
theorem qk(K:AI):Mj K "__len__" [.type "list",.type "object"]=some (some (.builtin "list.__len__")):=⋯
theorem kr(K:AI):Mj K "__init__" [.type "list",.type "object"]=some (some (.builtin "list.__init__")):=⋯
section
variable{c:Cx}{d:Nat}{fr:FD}{lo Bv BK:Lo}{H H' EY H1 H2 H3:List AO}
noncomputable def HJ(k:A3)(id:A3)(x:Ah):Obj:={cls:=.type k,data:=.fields #[.builtin id,.ref x]}
theorem fD{os:G6}{id:A3}(Cl:Be c)(X:c.K.In h)(hx:h.get? x=some ox)(hc:ox.cls=.ref 249)(hid:id="list.__len__" \/id="list.__init__")
  (q:Q (.done (.ret (.ref h.objs.size))) ⟨h.push (HJ "method-wrapper" id x),g,dd,t,os⟩):Ae c.m A (Bo.«wrapper_descriptor.__get__» ⟨[.builtin id,.ref x,.ref 249],[]⟩) Q E ⟨h,g,dd,t,os⟩:=by
 have hs:AR c.m h (Ma (.ref 249) (.type "list")) true:=by
  obtain ⟨cd,hc,hm⟩:=Cl.a.mro
  exact Iz X (by unfold IA;rw[hc,Gy,AD (by rw[hm];decide),hm];decide)
 unfold Bo.«wrapper_descriptor.__get__»
 repeat wp_step
 rw[hc]
 rcases hid with rfl | rfl
 all_goals
  refine Kb hs ?_
  refine An ?_
  repeat (first | (with_reducible refine Eu ?_ (by size_fits)) | wp_step)
  exact q
theorem ql{os:G6}(Cl:Be c)(X:c.K.In h)(hx:h.get? x=some ox)(hc:ox.cls=.ref 249)
  (q:Q (.done (.ret (.ref h.objs.size))) ⟨h.push (HJ "builtin_function_or_method" "list.pop" x),g,dd,t,os⟩):Ae c.m A (Bo.«method_descriptor.__get__» ⟨[.builtin "list.pop",.ref x,.ref 249],[]⟩) Q E ⟨h,g,dd,t,os⟩:=by
 have hs:AR c.m h (Ma (.ref 249) (.type "list")) true:=by
  obtain ⟨cd,hc,hm⟩:=Cl.a.mro
  exact Iz X (by unfold IA;rw[hc,Gy,AD (by rw[hm];decide),hm];decide)
 unfold Bo.«method_descriptor.__get__»
 repeat wp_step
 rw[hc]
 refine Kb hs ?_
 refine An ?_
 repeat (first | (with_reducible refine Eu ?_ (by size_fits)) | wp_step)
 exact q
structure SY(id:A3)(T gid bk:A3)(B:Bo):Prop where
 sl:Slot T "__get__" gid
 en:Ip Ir gid=some B
 ar:∀a b c,C5 gid ⟨[a,b,c],[]⟩
 ty:CR (.builtin id)=pure (.type T)
 get:∀{c:Cx}{A:AG}{h:Ay}{g:AE Mc}{dd:Drawn}{t:Nat}{os:G6}{E:EP}{Q:Fin->Aj->Prop}{x:Ah}{ox:Obj},Be c->c.K.In h->h.get? x=some ox->ox.cls=.ref 249->
  Q (.done (.ret (.ref h.objs.size))) ⟨h.push (HJ bk id x),g,dd,t,os⟩->Ae c.m A (B ⟨[.builtin id,.ref x,.ref 249],[]⟩) Q E ⟨h,g,dd,t,os⟩
theorem SY.pop:SY "list.pop" "method_descriptor" "method_descriptor.__get__" "builtin_function_or_method" Bo.«method_descriptor.__get__» :=⟨UH,SX,UI,qh,λCl X hx hc q=>ql Cl X hx hc q⟩
theorem SY.len:SY "list.__len__" "wrapper_descriptor" "wrapper_descriptor.__get__" "method-wrapper" Bo.«wrapper_descriptor.__get__» :=⟨MX,KU,MY,qi,λCl X hx hc q=>fD Cl X hx hc (.inl rfl) q⟩
theorem SY.init:SY "list.__init__" "wrapper_descriptor" "wrapper_descriptor.__get__" "method-wrapper" Bo.«wrapper_descriptor.__get__» :=⟨MX,KU,MY,kq,λCl X hx hc q=>fD Cl X hx hc (.inr rfl) q⟩
noncomputable def Xu(x:Ah):Obj:={cls:=.type "super",dict:=none,data:=.fields #[.ref 249,.ref x,.ref 249],slots := #[]}
theorem fE{os:G6}{id T gid bk:A3}{name:Str}{tk:Tok}(Cl:Be c)(X:c.K.In h)
  (Se:SY id T gid bk B)(hso:h.get? so=some (Xu x))(hno:nsIn c.K Ot "thirdparty.any" =some none)(hx:h.get? x=some ox)(hc:ox.cls=.ref 249)(hf:Mj c.K name [.type "list",.type "object"]=some (some (.builtin id)))
  (hxC:x≠249)(hn:(name==("__class__" :Str))=false)(q:Q (.done (.ret (.ref h.objs.size))) ⟨h.push (HJ bk id x),g,dd,t,os⟩):
  Ae c.m A (Bo.«super.__getattribute__» ⟨[.ref so,.str name tk],[]⟩) Q E ⟨h,g,dd,t,os⟩:=by
 have hlk:=Se.sl.lookup
 have hne:(Bq x==Bq 249)=false:=by simp[hxC]
 have SN:¬(name==("__class__" :Str))=true:=by rw[hn];exact BJ
 have qm:¬(Bq x==Bq 249)=true:=by rw[hne];exact BJ
 have hTf:(⟨h,g,dd,t,os⟩ :Aj).TypeIs (.builtin id) T:=Se.ty
 have hdt:(Xu x).data=.fields #[.ref 249,.ref x,.ref 249]:=rfl
 have f0:(#[.ref 249,.ref x,.ref 249]:AE Ad)[0]?=some (.ref 249):=rfl
 have f1:(#[.ref 249,.ref x,.ref 249]:AE Ad)[1]?=some (.ref x):=rfl
 have f2:(#[.ref 249,.ref x,.ref 249]:AE Ad)[2]?=some (.ref 249):=rfl
 obtain ⟨cd,yZ,hm⟩:=Cl.a.mro
 have AaF:AR c.m h (opaqueClassAbove (.ref 249)) none:=looks_opaque X hno
 have hC:AR c.m h (mroOf (.ref 249)) [.ref 249,.type "list",.type "object"]:=by
  exact(OB X yZ).andThen (by rw[hm];exact .now)
 have hl:(([.ref 249,.type "list",.type "object"]:List Ad).dropWhile (· !=.ref 249)).drop 1=[.type "list",.type "object"]:=⋯
 repeat (first
  |(with_reducible refine DZ hso hdt f0 ?_) | (with_reducible refine DZ hso hdt f1 ?_) | (with_reducible refine DZ hso hdt f2 ?_)
  |(with_reducible refine ks_wpAny_notOpaque AaF ?_)
  |(with_reducible refine Kb hC ?_;rw[hl])
  |(refine ks_forIn_along X (λ_ _=>rfl) rfl ?_ hf)
  |(with_reducible refine LZ hTf ?_)
  |(with_reducible refine GY Se.sl hTf Se.en ?_ (Se.ar _ _ _))
  |(with_reducible refine⟨_,rfl,?_⟩)
  |(rw[AD SN])
  |(rw[AD qm])
  |(rw[AD BJ])
  |wp_step
  |dsimp only)
 refine Se.get Cl X hx hc ⟨_,rfl,?_⟩
 repeat (first | wp_step | dsimp only)
 exact q
end
end
section
open Builtin Builtin.ObjectAttr
section
variable{c:Cx}{d:Nat}{fr:FD}{lo Bv BK:Lo}{H H' EY H1 H2 H3:List AO}
theorem Nh{os:G6}{id T gid bk:A3}(Cl:Be c)(X:c.K.In h)
  (Se:SY id T gid bk B)(hso:h.get? so=some (Xu x))(hno:nsIn c.K Ot "thirdparty.any" =some none)(hx:h.get? x=some ox)(hc:ox.cls=.ref 249)(hf:Mj c.K name [.type "list",.type "object"]=some (some (.builtin id)))
  (hxC:x≠249)(hn:(name==("__class__" :Str))=false)(hq:Q (.ref h.objs.size,[]) ⟨h.push (HJ bk id x),g,dd,t+1,os⟩):
  Ae c.m A (Oq (.ref so) name pl) Q E ⟨h,g,dd,t,os⟩:=by
 have hlk:=WN.lookup
 have AaG:=PySem.F.ks_canon_super_ga
 have hT:∀t',(⟨h,g,dd,t',os⟩ :Aj).TypeIs (.ref so) "super" :=λ_=>⟨_,hso,rfl⟩
 refine Ac (JZ (hT _) hlk ?_)
 show Ae _ _ (if (Manifest.canonical "super.__getattribute__" !="object.__getattribute__")=true then _ else _) _ _ _
 rw[Bh AaG]
 refine Ac (Ac (RO (BF (Ac (LZ (hT _) (Ac (Ci hlk ?_)))))))
 refine Ac (Ci (rfl) ?_)
 refine Ac (GZ (BF ?_))
 refine Ac (Ci (WN.bind _) ?_)
 refine AJ (Q:=λv s'=>v=.ref h.objs.size/\s'=⟨h.push (HJ bk id x),g,dd,t+1,os⟩) (E:=λ_ _=>Cd)
  (GY WN (hT _) PySem.F.ks_entry_super_ga (fE Cl X Se hso hno hx hc hf hxC hn ⟨_,rfl,rfl,rfl⟩) (PySem.F.ks_gaArgs_super _ _)) (λv s' hv=>?_) λ_ _ z=>z.elim
 obtain ⟨rfl,rfl⟩:=hv
 exact An (An hq)
def vQ(c:Cx)(id:A3):Prop:=∀(A:AG)(s:Aj)(E:EP)(Q:Ce->Aj->Prop)(x:Ah)(ox:Obj),c.K.In s.heap->s.heap.get? x=some ox->ox.cls=.ref 249->Q () s->
 Ae c.m A (LW id ⟨[.ref x],[]⟩) Q E s
theorem fF:vQ c "list.__len__" :=by
 intro A s E Q x ox X hx hc q
 refine Ci ?_ q
 kernel_rfl
theorem aM:vQ c "list.__init__" :=by
 intro A s E Q x ox X hx hc q
 refine Ci ?_ q
 kernel_rfl
set_option backward.match.sparseCases true in
theorem ku{id bk:A3}(X:c.K.In s.heap)(hx:s.heap.get? x=some ox)(hc:ox.cls=.ref 249)(hb:s.heap.get? b=some (HJ bk id x))(hbk:bk="builtin_function_or_method" \/bk="method-wrapper")
  (hp:plainId id=true)(he:Ip Ir id=some B)(hchk:∀(A:AG)(E:EP)(Q:Ce->Aj->Prop),Q () s->Ae c.m A (LW id ⟨[.ref x],[]⟩) Q E s)
  (h:Ae c.m A.in1 (B ⟨[.ref x],[]⟩) (λfin s'=>∃v,fin=.done (.ret v)/\Q v s') E s):Ae c.m A (call (.ref b) []) Q E s:=by
 refine DE (RH ?_)
 show Ae _ A.in1 (callAny (.ref b) ⟨[],[]⟩) _ _ _
 refine Ac (Ol hb ?_)
 have fin:∀f:Ad×List Ad,Ae c.m A.in1 (LW id ⟨[.ref x],[]⟩>>=λ_=>again (.builtin id ⟨[.ref x],[]⟩)) (λfin s'=>match fin with | .done f=>(match (.ok f:Result) with | .ok (.ret v)=>Q v s' | .ok _=>Cd | .error e=>E e s') | .again c'=>c'.quiet=true/\EM c.m A c' (λr s'=>match r with | .ok (.ret v)=>Q v s' | .ok _=>Cd | .error e=>E e s') s')
   (λe s'=>E e s') s:=λ_=>by
  refine Ac (hchk _ _ _ ?_)
  refine An ⟨Gc hp _,LU he ?_⟩
  rw[Ka hp _]
  exact AJ h (λfin s' ⟨v,e,q⟩=>by subst e;exact q) λ_ _ x=>x
 rcases hbk with rfl | rfl
 ·exact fin (.none,[])
 ·exact fin (.none,[])
end
end
section
open Builtin Builtin.ObjectAttr
structure JI(c:Cx):Prop where
 opq:nsIn c.K Ot "thirdparty.any" =some none
 top:(c.prog.main.scope.names.lookup ("super" :Str)).isSome=false
 AaH:Glob c.B.heap "super" (.type "super")
 cell:∃o,c.K.lookup 173=some o/\o.data=.cell (some (.ref 249))
 cls:∃o cd,c.K.lookup 249=some o/\o.data=.cls cd/\o.cls=.type "type" /\cd.qualname="_Accumulator"
 code:∀a∈[185,208,245],∃oc vs file tf,c.K.lookup a=some oc/\oc.data=.fields vs/\vs[2]?=some (.str file tf)/\((c.prog.main.file:Str)==file)=true
section
variable{c:Cx}{d:Nat}{fr:FD}{lo Bv BK:Lo}{H H' EY H1 H2 H3:List AO}
theorem Y6(Cl:Be c)(X:c.K.In h)(t:Ad):AR c.m h (Ma (.ref 249) t) (([.ref 249,.type "list",.type "object"]:List Ad).contains t):=by
 obtain ⟨cd,hc,hm⟩:=Cl.a.mro
 exact Iz X (by unfold IA;rw[hc,Gy,AD (by rw[hm];decide),hm])
theorem fG(Cl:Be c)(Su:JI c){os:G6}(X:c.K.In h)(hx:h.get? x=some ox)(hc:ox.cls=.ref 249)(hnc:∀c,ox.data≠.cls c)(q:Q () ⟨h,g,dd,t,os⟩):
  Ae c.m A (LW "list.pop" ⟨[.ref x],[]⟩) Q E ⟨h,g,dd,t,os⟩:=by
 obtain ⟨⟨ocl,odi,oda,osl⟩,cd,hK,hd,ho,hq⟩:=Su.cls
 subst hd ho
 have qn:=X _ _ hK
 have hT:AR c.m h (CR (.ref x)) (.ref 249):=(D3 hx).andThen (by rw[hc];exact .now)
 have hI:AR c.m h (Ik (.ref x) (.type "module")) false:=hT.andThen (Y6 Cl X _)
 have yZ:AR c.m h (classData 249) cd:=OB X (by unfold W.clsIn;rw[hK])
 have hTT:AR c.m h (CR (.ref 249)) (.type "type"):=(D3 qn).andThen .now
 have e1:dC "list.pop" =some ⟨.positional,"list.pop","pop",.self,[⟨"index",.posOnly,false⟩]⟩:=⋯
 have e2:Dp "list.pop" =some .method:=⋯
 have e3:Manifest.varargsMethods.contains "list.pop" =false:=⋯
 unfold LW
 rw[e1,e2]
 show Ae _ _ (@ite _ _ _ _ _) _ _ _
 rw[AD ⋯]
 refine Ac (Kb hI ?_)
 refine Ac (ks_wpAny_isType_inst hx hnc ?_)
 refine Ac (Kb hT ?_)
 refine Ac (Kb yZ ?_)
 rw[hq]
 refine Ac (Kb hTT ?_)
 refine Ci ?_ q
 kernel_rfl
def vR(c:Cx)(id:A3):Prop:=∀(A:AG)(h:Ay)(g:AE Mc)(dd:Drawn)(t:Nat)(os:G6)(E:EP)(Q:Ce->Aj->Prop)(x:Ah)(ox:Obj),c.K.In h->h.get? x=some ox->ox.cls=.ref 249->(∀c,ox.data≠.cls c)->Q () ⟨h,g,dd,t,os⟩->
 Ae c.m A (LW id ⟨[.ref x],[]⟩) Q E ⟨h,g,dd,t,os⟩
structure Py(c:Cx)(nm:Str)(id T gid bk:A3)(B B':Bo):Prop where
 e:SY id T gid bk B
 al:Mj c.K nm [.type "list",.type "object"]=some (some (.builtin id))
 bk:bk="builtin_function_or_method" \/bk="method-wrapper"
 pl:plainId id=true
 en:Ip Ir id=some B'
 chk:vR c id
theorem Py.pop(Cl:Be c)(Su:JI c):Py c "pop" "list.pop" "method_descriptor" "method_descriptor.__get__" "builtin_function_or_method" Bo.«method_descriptor.__get__» Bo.«list.pop» :=
 ⟨.pop,qj _,.inl rfl,by decide +kernel,Od ⋯,λA h g dd t os E Q x ox X hx hc hn q=>fG Cl Su X hx hc hn q⟩
theorem Py.len:Py c "__len__" "list.__len__" "wrapper_descriptor" "wrapper_descriptor.__get__" "method-wrapper" Bo.«wrapper_descriptor.__get__» Bo.«list.__len__» :=
 ⟨.len,qk _,.inr rfl,by decide +kernel,Od ⋯,λA h g dd t os E Q x ox X hx hc hn q=>fF _ _ _ _ x ox X hx hc q⟩
theorem Py.init:Py c "__init__" "list.__init__" "wrapper_descriptor" "wrapper_descriptor.__get__" "method-wrapper" Bo.«wrapper_descriptor.__get__» Bo.«list.__init__» :=
 ⟨.init,kr _,.inr rfl,by decide +kernel,Od ⋯,λA h g dd t os E Q x ox X hx hc hn q=>aM _ _ _ _ x ox X hx hc q⟩
structure fH(c:Cx)(fr:FD)(lo:Lo)(l:Nat)(env:Env):Prop where
 fn:∃a of fd ar,env.func=some a/\c.K.lookup a=some of/\of.data=.func fd/\(fd.params.posonlyargs++fd.params.args).head?=some ar/\ar.arg="self"
 ks:fr.scope.names.lookup ("super" :Str)=some .globalImplicit
 kc:fr.scope.names.lookup ("__class__" :Str)=some .free
 ka:fr.scope.names.lookup ("self" :Str)=some .local
 cls:fr.cls.isSome=true
 code:∃cc oc vs file tf,fr.code=.ref cc/\c.K.lookup cc=some oc/\oc.data=.fields vs/\vs[2]?=some (.str file tf)/\((c.prog.main.file:Str)==file)=true
 self:lo.lookup ("self" :Str)=some (.loc l)
theorem aN(Cl:Be c)(Su:JI c){l dl:Nat}
  {id T gid bk:A3}(G:Av c π H s)(hH:H[l]?=some (.acc dl xs))(hat:(nm==("__class__" :Str))=false)(hline:(ap.endLine==pos.line)=true)(Sc:Py c nm id T gid bk B B')
  (h:∀s₂,Kp no s s₂->Ae c.m A.in1 (B' ⟨[.ref (π.at' l)],[]⟩) (λfin s'=>∃v,fin=.done (.ret v)/\Q v s') E s₂):
  Ae c.m A (isType (.ref 249)) (λb s₄=>b=true/\Ae c.m A (call (.type "super") [.ref 249,.ref (π.at' l)])
   (λa s'=>L5 c.m A (.func body env) (do standAt ap.atName;L8 (.Call (.Name "super" p0) [] [] p1) nm ap pos env a 0 [] []) Q E s') E s₄) E s:=by
 have X:=c.DA G
 refine Bl λGG fin=>(HI G hH).elim λvl q=>q.elim λkk q=>q.elim λsl q=>Su.cls.elim λoD y=>y.elim λcdD y=>fin ?_
 have vS:π.at' l≠249:=λw=>by have h:=G.new _ (G.mem l (G.lt hH));rw[w,c.yL _ _ y.1] at h;rcases h with ⟨⟩
 have hD:=X _ _ y.1
 obtain ⟨hp',g,dd,t,os⟩:=s
 refine ks_wpAny_isType_cls hD y.2.1 ⟨rfl,?_⟩
 refine ks_wpAny_call_super hD y.2.1 q.1 rfl (λ_ q=>by rcases q with ⟨⟩) (Y6 Cl X _) λh' hso up=>?_
 refine RI (JA (DM ?_))
 have X':=X.keeps up
 have qn:=up _ _ q.1
 have Pz:Og 0 [] []=true:=rfl
 have Xv:J0 true (.Call (.Name "super" p0) [] [] p1) env ap pos=pure pos:=by unfold J0;rw[hline];rfl
 unfold L8
 rw[Pz]
 refine RI (JA (BF (Nh Cl X' Sc.e hso Su.opq qn rfl Sc.al vS hat ?_)))
 refine RI (JA (Ci Xv ?_))
 refine JA ?_
 have X2:=X'.keeps (λb o e=>B6 (HJ bk id (π.at' l)) e)
 have nH:=B6 (HJ bk id (π.at' l)) qn
 have hb:(h'.push (HJ bk id (π.at' l))).get? h'.objs.size=some (HJ bk id (π.at' l)):=Bp _ rfl
 have K2:Kp no (⟨hp',g,dd,t,os⟩ :Aj) ⟨h'.push (HJ bk id (π.at' l)),g,dd,t+1,os⟩:=.of_keeps λb o e=>B6 _ (up b o e)
 refine Iy rfl (λh hg=>⟨.machine,.inr (.inl rfl),(D3 hg).andThen ?_⟩) (evalArgs_nil3 ⟨hb,ku X2 nH rfl hb Sc.bk Sc.pl Sc.en (λA E Q q=>Sc.chk A _ _ _ _ _ E Q _ _ X2 nH rfl (λ_ q=>by rcases q with ⟨⟩) q) (h _ K2)⟩)
 rcases Sc.bk with rfl | rfl<;>exact .now
theorem Kq(Cl:Be c)(Su:JI c){l dl:Nat}
  {id T gid bk:A3}(I:fH c fr lo l env)(F:Bu π H.length fr env)(G:Av c π H s)(L:Br c π H.length s.heap env.locals lo)(hH:H[l]?=some (.acc dl xs))(hat:(nm==("__class__" :Str))=false)(hline:(ap.endLine==pos.line)=true)(Sc:Py c nm id T gid bk B B')
  (h:∀s₂,Kp no s s₂->Ae c.m A.in1 (B' ⟨[.ref (π.at' l)],[]⟩) (λfin s'=>∃v,fin=.done (.ret v)/\Q v s') E s₂):
  L5 c.m A (.func body env) (eval (.Call (.Attribute (.Call (.Name "super" p0) [] [] p1) nm ap) [] [] pos) env) Q E s:=by
 have X:=c.DA G
 refine Bl λGG fin=>I.fn.elim λa f=>f.elim λof f=>f.elim λfd f=>f.elim λar f=>I.code.elim λcc k=>k.elim λoc k=>k.elim λvs k=>k.elim λfile k=>k.elim λtf k=>Su.cell.elim λoC z=>(O7 L I.self).elim λm r=>r.elim λcv r=>fin ?_
 rw[RL]
 refine RI (ks_wpAt_super_base (F.kindOf I.ks) (F.kindOf I.kc) hat f.1 (X _ _ f.2.1) f.2.2.1 f.2.2.2.1 ((F.code (by rw[k.1];nofun)).trans k.1) (X _ _ k.2.1) k.2.2.1 k.2.2.2.1 k.2.2.2.2 Su.top ?_)
 rw[f.2.2.2.2]
 have rest:Ae c.m A (loadName env "__class__") (λcls s₂=>Ae c.m A (loadName env "self") (λself s₃=>Ae c.m A (isType cls) (λb s₄=>b=true/\Ae c.m A (call (.type "super") [cls,self])
   (λa s'=>L5 c.m A (.func body env) (do standAt ap.atName;L8 (.Call (.Name "super" p0) [] [] p1) nm ap pos env a 0 [] []) Q E s') E s₄) E s₃) E s₂) E s:=by
  refine wpAny_loadName_free F.kd (F.kindOf I.kc) (F.cls I.cls) ⟨_,X _ _ z.1,z.2⟩ ?_
  refine Wv F.kd (F.kindOf I.ka) r.1 r.2.1 ?_
  rw[r.2.2.loc.2]
  exact aN Cl Su G hH hat hline Sc h
 have lg:∀{Q:EP},Ae c.m A (loadGlobal env "super") Q E s->Ae c.m A (loadName env "super") Q E s:=λq=>by
  unfold loadName
  simp only[Env.blockKind,F.kd,F.kindOf I.ks,dr,Aa.false_and,VT,if_false]
  exact q
 exact AH (Glob.up G Su.AaH) λmg w=>w.elim λmb w=>w.2.2.elim (λh3=>lg (loadGlobal_global (F.glob▸w.1) h3 ⟨rfl,rest⟩)) λh3=>lg (loadGlobal_builtin (F.glob▸w.1) h3.1 (F.bi▸w.2.1) h3.2 ⟨rfl,rest⟩)
end
end
section
open Builtin Builtin.ObjectAttr
def vT(cc:Ah)(fi:FI):Aa:=
 Bz (lk "super" fi.scope.names) OS&&(Bz (lk "__class__" fi.scope.names) isFree&&(Bz (lk "self" fi.scope.names) isLocal&&(fi.cls.isSome&&(Bz fi.code (Aw · cc)&&
  (nil (AK fi.scope.names)&&(Bz (fi.params.posonlyargs++fi.params.args).head? λar=>sEq ar.arg "self"))))))
structure qo(cc:Ah)(fi:FI):Prop where
 ks:fi.scope.names.lookup ("super" :Str)=some .globalImplicit
 kc:fi.scope.names.lookup ("__class__" :Str)=some .free
 ka:fi.scope.names.lookup ("self" :Str)=some .local
 cls:fi.cls.isSome=true
 code:fi.code=some cc
 cells:AK fi.scope.names=[]
 hd:∃ar,(fi.params.posonlyargs++fi.params.args).head?=some ar/\ar.arg="self"
theorem S3{k:BD}(hp:∀k',p k'=true->k'=k)(h:Bz (lk x ns) p=true):ns.lookup x=some k:=(A0 h).elim λk' q=>(D8 ..).symm.trans (hp k' q.2▸q.1)
theorem Jn(h:OS k=true):k=.globalImplicit:=by cases k<;>first | rfl | exact ff h
theorem aO(h:isFree k=true):k=.free:=by cases k<;>first | rfl | exact ff h
theorem kx(h:vT cc fi=true):qo cc fi:=
 have h2:=Am h;have h3:=Am h2;have h4:=Am h3;have h5:=Am h4;have h6:=Am h5
 ⟨S3 (λ_=>Jn) (Ax h),S3 (λ_=>aO) (Ax h2),S3 (λ_=>DK) (Ax h3),Ax h4,(A0 (Ax h5)).elim λa q=>Cb q.2▸q.1,Bj (Ax h6),(A0 (Am h6)).imp λar q=>⟨q.1,BC q.2⟩⟩
section
variable{c:Cx}{d:Nat}{fr:FD}{lo Bv BK:Lo}{H H' EY H1 H2 H3:List AO}
theorem Y7(hw:wr<=n):wr<=(Au fi n wr).wr/\(Au fi n wr).wr<=n:=by
 show wr<=cond fi.Ss wr n/\cond fi.Ss wr n<=n
 cases fi.Ss
 ·exact⟨hw,AP _⟩
 ·exact⟨AP _,hw⟩
set_option backward.match.sparseCases true in
theorem PB(Fs:Ez c)(hf:FT a=some fi)(hb:fi.body=.stmts b)(hcells:AK fi.scope.names=[])
  (hput:(Cv fi as []).bind (λbs=>IJ (Au fi H.length wr) [] ⟨H,true⟩ bs)=some ⟨lo,⟨H,true⟩⟩)
  (R:A5 (d+1) A)(hw:wr<=H.length)(G:Av c π H s)(ra:Ag π H.length s.heap as cargs)
  (k:∀o fd env s₁ π₁,c.K.lookup a=some o->o.data=.func fd->fd.params=fi.params->env.func=some a->s.heap.get? env.locals=none->PG c wr none π H s H π₁ s₁->Bu π₁ H.length (Au fi H.length wr) env->Br c π₁ H.length s₁.heap env.locals lo->
   L5 c.m (A.deeper env) (.func b env) (execs b env) (λf s'=>Q (match f with | .ret v=>v | _=>.none) s') (λ_ _=>Cd) s₁):
  Ae c.m A (call (.ref a) cargs) Q E s:=by
 refine Bl λGG fin=>(Ab.bind_eq_some_iff.mp hput).elim λbs qp=>(Fs.fn a fi hf).elim λo q=>q.elim λfd q=>((q.2.2.bx qp.1) π H.length s cargs [] (c.DA G) ra .nil).elim λcbs x=>fin ?_
 have Fn:=q.2.2.at q.1 q.2.1 G
 have hS:((⟨H,true⟩ :St).on (H++AK fi.scope.names))=⟨H,true⟩:=by rw[hcells,DW];rfl
 have hwr:=Y7 (fi:=fi) hw
 have hput:yQ c (Au fi (⟨H,true⟩ :St).H.length wr) [] ((⟨H,true⟩ :St).on (H++AK fi.scope.names)) bs ⟨lo,⟨H,true⟩⟩:=by rw[hS];exact YP _ qp.2
 have co:=Fn.scope▸Fn.co
 have gn:=Fn.scope▸Fn.gen
 refine DE (codeAny_call_function R.rl (c.DA G a o q.1) q.2.1 co gn (Fn.body.trans hb) Fn.code.Na (x.1 _ _ _ _ ?_))
 rw[Fn.scope,Fn.glob,Fn.bi,Fn.qual]
 refine YS R.in1 G hwr.2 Fn.BI Fn.cls Fn.kind Fn.ncl Fn.YR hput x.2.1 x.2.2 λenv s₁ π₁ hfu hco hL P₁ F₁ L₁=>?_
 exact⟨c.QF P₁.g,ks_codeAny_funcAt (PySem.wpAt_mono (k o fd env s₁ π₁ q.1 q.2.1 q.2.2.params hfu (hL▸Bx _ (AP _)) (P₁.Kj hwr.1) F₁ L₁) (λf s' q=>q) λ_ _ q=>q.elim)⟩
set_option backward.match.sparseCases true in
theorem S4(Fs:Ez c)(Su:JI c)(hf:FT a=some fi)(hb:fi.body=.stmts b)(Sf:qo cc fi)(hcc:cc∈[185,208,245])
  (hput:(Cv fi as []).bind (λbs=>IJ (Au fi H.length wr) [] ⟨H,true⟩ bs)=some ⟨lo,⟨H,true⟩⟩)(hlo:lo.lookup ("self" :Str)=some (.loc l))
  (R:A5 (d+1) A)(hw:wr<=H.length)(G:Av c π H s)(ra:Ag π H.length s.heap as cargs)
  (k:∀env s₁ π₁,fH c (Au fi H.length wr) lo l env->s.heap.get? env.locals=none->PG c wr none π H s H π₁ s₁->Bu π₁ H.length (Au fi H.length wr) env->Br c π₁ H.length s₁.heap env.locals lo->
   L5 c.m (A.deeper env) (.func b env) (execs b env) (λf s'=>Q (match f with | .ret v=>v | _=>.none) s') (λ_ _=>Cd) s₁):
  Ae c.m A (call (.ref a) cargs) Q E s:=
 PB Fs hf hb Sf.cells hput R hw G ra λo fd env s₁ π₁ hK hd hp hfu hab P F L=>k env s₁ π₁
  ⟨Sf.hd.elim λar z=>⟨a,o,fd,ar,hfu,hK,hd,hp▸z.1,z.2⟩,Sf.ks,Sf.kc,Sf.ka,Sf.cls,(Su.code cc hcc).elim λoc z=>z.elim λvs z=>z.elim λfile z=>z.elim λtf z=>⟨cc,oc,vs,file,tf,(show T7 fi.code=_ by rw[Sf.code];rfl),z⟩,hlo⟩ hab P F L
end
end
section
open Builtin Builtin.ObjectAttr
set_option genCtorIdx true in
inductive Opn where
 |p (p:Pos) | n (n:Nat) | s (s:BR)
noncomputable def VF:Nat->Expr->List Opn
 |0,_=>[]
 |k+1,e=>match e with
  |.Name _ p=>[.p p]
  |.Constant _ n p=>[.n n,.p p]
  |.Attribute e _ p=>VF k e++[.p p]
  |.Call f as _ p=>VF k f++(as.flatMap (VF k)++[.p p])
  |.BinOp a _ b p=>VF k a++(VF k b++[.p p])
  |.Compare a _ bs p=>VF k a++(bs.flatMap (VF k)++[.p p])
  |.Tuple es n p=>es.flatMap (VF k)++[.n n,.p p]
  |.GeneratorExp e gs s p=>VF k e++(gs.flatMap (λg=>VF k g.target++VF k g.iter)++[.s s,.p p])
  |_=>[]
noncomputable def opS:Nat->Az->List Opn
 |0,_=>[]
 |k+1,e=>match e with
  |.Return (some e) p=>VF 20 e++[.p p]
  |.Expr e p=>VF 20 e++[.p p]
  |.Assign ts e p=>ts.flatMap (VF 20)++(VF 20 e++[.p p])
  |.If t b _ p=>VF 20 t++(b.flatMap (opS k)++[.p p])
  |_=>[]
def MZ(a:Ah):EL:=match FT a with | some fi=>fi.body | none=>.stmts []
def opF(a:Ah):List Opn:=match MZ a with | .stmts b=>b.flatMap (opS 3) | _=>[]
def pF(a i:Nat):Pos:=match (opF a)[i]? with | some (.p p)=>p | _=>default
def nF(a i:Nat):Nat:=match (opF a)[i]? with | some (.n p)=>p | _=>default
def sF(a i:Nat):BR:=match (opF a)[i]? with | some (.s p)=>p | _=>default
theorem I2(hf:FT a=some fi)(hb:fi.body=.stmts b)(h:MZ a=.stmts b'):b=b':=by
 unfold MZ at h
 rw[hf] at h
 exact EL.stmts.inj (hb.symm.trans h)
def fI(b:EL):Aa:=match b with | .stmts _=>true | _=>false
def Y8(a cc:Ah):Aa:=Bz (FT a) λfi=>vT cc fi&&fI fi.body
theorem GH(h:Y8 a cc=true):∃fi b,FT a=some fi/\fi.body=.stmts b/\qo cc fi:=(A0 h).elim λfi q=>by
 have h2:=Am q.2
 cases e:fi.body with
 |stmts b=>exact⟨fi,b,q.1,e,kx (Ax q.2)⟩
 |expr _=>rw[e] at h2;cases h2
theorem qr:Y8 246 245=true:=by kernel_rfl!
theorem AaL(v:AV)(n wr:Nat)(S:St):((FT 246).bind λfi=>(Cv fi [v] []).bind λbs=>IJ (Au fi n wr) [] S bs)=some ⟨[("self",v)],S⟩:=by kernel_rfl!
theorem vU:Y8 209 208=true:=by kernel_rfl!
theorem AaM(v:AV)(n wr:Nat)(S:St):((FT 209).bind λfi=>(Cv fi [v] []).bind λbs=>IJ (Au fi n wr) [] S bs)=some ⟨[("self",v)],S⟩:=by kernel_rfl!
theorem AaN:Y8 186 185=true:=by kernel_rfl!
theorem qt(v w:AV)(n wr:Nat)(S:St):((FT 186).bind λfi=>(Cv fi [v,w] []).bind λbs=>IJ (Au fi n wr) [] S bs)=some ⟨[("self",v),("initial_size",w)],S⟩:=by kernel_rfl!
theorem vV:∃p:Nat->Pos,MZ 246=.stmts [.Return (some (.Call (.Attribute (.Call (.Name "super" (p 0)) [] [] (p 1)) "__len__" (p 2)) [] [] (p 3))) (p 4)]/\((p 2).endLine==(p 3).line)=true:=⟨pF 246,by kernel_rfl!,by kernel_rfl!⟩
theorem vW:∃(p:Nat->Pos)(n:Nat->Nat),MZ 209=.stmts [.If (.Compare (.Call (.Attribute (.Name "self" (p 0)) "part_count" (p 1)) [] [] (p 2)) [.Eq] [.Constant (.int 0) (n 3) (p 4)] (p 5)) [.Return (some (.Tuple [.Constant (.str "") (n 6) (p 7),.Constant (.str "") (n 8) (p 9)] (n 10) (p 11))) (p 12)] [] (p 13),
 .Return (some (.Call (.Attribute (.Call (.Name "super" (p 14)) [] [] (p 15)) "pop" (p 16)) [] [] (p 17))) (p 18)]/\((p 1).endLine==(p 2).line)=true/\((p 16).endLine==(p 17).line)=true:=⟨pF 209,nF 209,by kernel_rfl!,by kernel_rfl!,by kernel_rfl!⟩
theorem vX:∃p:Nat->Pos,MZ 186=.stmts [.Assign [.Attribute (.Name "self" (p 0)) "_initial_size" (p 1)] (.Name "initial_size" (p 2)) (p 3),.Expr (.Call (.Attribute (.Call (.Name "super" (p 4)) [] [] (p 5)) "__init__" (p 6)) [] [] (p 7)) (p 8)]/\((p 6).endLine==(p 7).line)=true:=⟨pF 186,by kernel_rfl!,by kernel_rfl!⟩
section
variable{c:Cx}{d:Nat}{fr:FD}{lo Bv BK:Lo}{H H' EY H1 H2 H3:List AO}
theorem qv(ho:s.heap.get? x=some o)(hd:o.data=.seq vs k)(q:∀t,Q (.done (.ret (.int vs.size t))) {s with toks:=s.toks+1}):
  Ae c.m A (Bo.«list.__len__» ⟨[.ref x],[]⟩) Q E s:=by
 obtain ⟨h,g,dd,t,os⟩:=s
 unfold Bo.«list.__len__»
 repeat wp_step
 rw[hd]
 refine An ?_
 unfold retInt
 repeat wp_step
 exact q _
theorem I3{α:Type}{f:FI->Ab α}{r:Ab α}(hf:FT a=some fi)(h:(FT a).bind f=r):f fi=r:=by rw[hf] at h;exact h
theorem QU(Fs:Ez c)(Cl:Be c)(Su:JI c){l dl wr:Nat}(e:H[l]?=some (.acc dl xs)):DQ c (d+1) H wr (.val (.ref 246)) [.loc l] [] (.int xs.length) H:=by
 intro A π s E cf cargs Gr R hw G rf ra rk
 cases rf.val
 refine Bl λGG fin=>(GH qr).elim λfi q=>q.elim λb q=>vV.elim λp z=>fin ?_
 refine S4 Fs Su q.1 q.2.1 q.2.2 ⋯ (I3 q.1 (AaL _ _ _ _)) rfl R hw G ra λenv s₁ π₁ I hab P₁ F₁ L₁=>?_
 cases I2 q.1 q.2.1 z.1
 refine Bl λGG fin=>(HI P₁.g e).elim λvl y=>y.elim λkk y=>y.elim λsl y=>fin ?_
 refine Ig (RB (Kq Cl Su I F₁ P₁.g L₁ e ⋯ z.2 (Py.len) λs₂ K₂=>qv (K₂.keep _ _ (λq=>q) (P₁.g.tabs.D4 y.1 nofun) y.1) rfl λt=>⟨_,rfl,π₁,P₁.trans (.pure P₁.g (K₂.trans .toks)),y.2.1.size▸.mkInt⟩))
end
end
section
open Builtin Builtin.ObjectAttr
section
variable{c:Cx}{d:Nat}{fr:FD}{lo Bv BK:Lo}{H H' EY H1 H2 H3:List AO}
theorem Bt.vY(ho:Bt c d fr lo H o ov H1)(hb:baseOk o=true)(hl:(ap.endLine==p.line)=true)(hg:GF c d H1 ov m k)(ha:IT c d fr lo H1 es vs H2)(hst:D9 es)
  (hkp:Ef c (.val (IZ k)))(hlen:es.length<=20)(hc:DQ c d H2 fr.wr (.val (IZ k)) (ov::vs) [] r H3):Bt c d fr lo H (.Call (.Attribute o m ap) es [] p) r H3:=by
 intro A env π s E R F G L
 rw[RL,GD hb]
 refine Ac (ho.use R F G L λco s₁ π₁ P₁ F₁ L₁ r₁=>Ac (DM ?_))
 have em:(es.map λe=>(false,eval e env))=(es.map λe=>eval e env).map λt=>(false,t):=by rw[F8];rfl
 have hall:(Fi p (Fh [] env)).all (·.1.isSome)=true:=rfl
 have Pz:Og (es.length+([]:List EN).length) (J4 p (G4 es env)) (Fi p (Fh [] env))=true:=by
  rw[hst env p]
  unfold Og
  rw[BW.mpr λx hx=>(CD.mp hx).elim λe q=>q.2▸rfl,show((Fi p (Fh [] env)).all λx=>x.1.isSome)=true from rfl,show(Fi p (Fh [] env)).isEmpty=true from rfl]
  simp;exact(pw [.l .p (.k 20)] (.t .p (.k 30)) [] [_]) hlen
 have Xv:J0 true o env ap p=R9 p:=by unfold J0;rw[hl];rfl
 unfold L8
 rw[Pz]
 refine Ac (BF (hg A π₁ s₁ E co _ _ R P₁.g r₁ (Ac (Ci Xv ?_))))
 rw[hst env p]
 refine Iy (NQ.mpr ⟨any_false λx hx=>(CD.mp hx).elim λe q=>q.2▸rfl,rfl⟩) (λh x=>x) ?_
 rw[em]
 refine Dd hall ?_
 rw[<-em]
 refine AJ (ha A env π₁ s₁ E R F₁ P₁.g L₁) (λcvs s₂ h=>h.elim λπ₂ q₂=>JX ⟨hkp H2 π₂ s₂ _ q₂.1.g .FW,?_⟩) λ_ _ e=>e
 exact AJ (hc A π₂ s₂ E _ (co::cvs) [] R ((q₂.1.fr F₁).wr) q₂.1.g .FW (.cons (r₁.pg q₂.1 P₁.g) q₂.2) .nil) (λcv s₃ h=>h.imp λπ₃ q₃=>⟨(P₁.trans q₂.1).trans q₃.1,q₃.2⟩) λ_ _ e=>e
end
end
section
open Builtin Builtin.ObjectAttr
section
variable{c:Cx}{d:Nat}{fr:FD}{lo Bv BK:Lo}{H H' EY H1 H2 H3:List AO}
theorem Ef.fn(Fs:Ez c)(hf:FT a=some fi):Ef c (.val (.ref a)):=λH π s cf G r=>by
 rcases r.val with ⟨⟩
 refine(Fs.fn a fi hf).elim λo q=>q.elim λfd q=>⟨.frame,.inl rfl,(D3 (c.DA G _ _ q.1)).andThen ?_⟩
 rw[q.2.1];exact .now
theorem fJ{l dl:Nat}(e:H[l]?=some (.acc dl xs))(hs:Cw H dl "part_count" =true):OU ⟨H,b⟩ (.loc l) "part_count" =some .parts:=by
 show(H[l]?).bind (Qx ⟨H,b⟩ "part_count")=_
 rw[e]
 show Af (Cw H dl "part_count") (lk "part_count" Sz)=_
 rw[hs]
 kernel_rfl
theorem PC(vs:AE Ad):(vs.eraseIdxIfInBounds (vs.size-1)).toList=vs.toList.dropLast:=by
 unfold AE.eraseIdxIfInBounds
 split
 ·rw[AE.toList_eraseIdx,<-Dt,List.eraseIdx_length_sub_one]
 ·have:vs = #[]:=VO (by lia)
  subst this;rfl
theorem qw(ho:s.heap.get? x=some o)(hd:o.data=.seq vs k)(hsz:vs.size<100000)(hv:vs[vs.size-1]?=some v)
  (q:Q (.done (.ret v)) {s with heap:=s.heap.update x (C6 (·.eraseIdxIfInBounds (vs.size-1)))}):
  Ae c.m A (Bo.«list.pop» ⟨[.ref x],[]⟩) Q E s:=by
 obtain ⟨h,g,dd,t,os⟩:=s
 have IY:=(AE.getElem?_eq_some_iff.mp hv).1
 have hl:=yY rfl hsz
 unfold Bo.«list.pop»
 repeat wp_step
 rw[hd]
 refine An (An ?_)
 have qm:vs.isEmpty=false:=Ct λq=>by rw[q] at IY;exact AL IY (Ff _)
 have e:((Cp (-1) vs.size).bind λk=>Ab.map (λx=>(k,x)) vs[k]?)=some (vs.size-1,v):=by
  have h1:Cp (-1) vs.size=some (vs.size-1):=by
   unfold Cp
   simp
   exact(pw [.t (.S .p (.k 1)) .p] (.a (.a (.L (.j 0) (.A (.j (-1)) (.n .p))) (.T (.A (.j (-1)) (.n .p)) (.n .p))) (.e (.d (.A (.j (-1)) (.n .p))) (.S .p (.k 1)))) [] [_]) IY
  rw[h1,Gy,hv];rfl
 simp -iota only[qm,VT,if_false]
 rw[e]
 exact Ac (EJ ho hd (_hz':=by rw[<-Dt,PC,List.length_dropLast,Dt];exact(pw [.t .p .q] (.l (.S .p (.k 1)) (.A .q (.k 1))) [] [_,_]) hl) (An q))
noncomputable def qx(xs:List AV):AV:=match xs.getLast? with | some v=>v | none=>.tup [.str "",.str ""]
def qy(H:List AO)(l dl:Nat)(xs:List AV):List AO:=match xs.getLast? with | some _=>H.set l (.acc dl xs.dropLast) | none=>H
theorem ky(Cl:Be c)(Su:JI c){l dl wr:Nat}(e:H[l]?=some (.acc dl xs))(hsz:xs.length<=1000)(hx:xs.getLast?=some v)(hwl:wr<=l)(I:fH c fr lo l env)(F:Bu π H.length fr env)(G:Av c π H s)(L:Br c π H.length s.heap env.locals lo)(hline:(ap.endLine==pos.line)=true)
  (h:∀cv s',PG c wr none π H s (H.set l (.acc dl xs.dropLast)) π s'->As π H.length s'.heap v cv->Q cv s'):L5 c.m A (.func body env) (eval (.Call (.Attribute (.Call (.Name "super" p0) [] [] p1) "pop" ap) [] [] pos) env) Q E s:=
 Kq Cl Su I F G L e ⋯ hline (Py.pop Cl Su) λs₃ K₃=>by
  have G₃:=G.DT K₃
  refine Bl λGG fin=>(HI G₃ e).elim λvl y=>y.elim λkk y=>y.elim λsl y=>(y.2.1.get (show xs[xs.length-1]?=some v by rw[<-List.getLast?_eq_getElem?] at ⊢;exact hx)).elim λcv z=>fin ?_
  have hsv:=y.2.1.size
  refine qw y.1 rfl (hsv.symm▸CE hsz ⋯) (by rw[<-Q3,hsv] at ⊢;exact z.1) ⟨_,rfl,?_⟩
  have P:=CY (o:=.acc dl xs.dropLast) (f:=C6 (·.eraseIdxIfInBounds (vl.size-1))) G₃ (G₃.lt e) hwl y.1 CZ CZ rfl s₃.toks (λh' S e'=>⟨_,_,sl,e',y.2.2.1,by
   rw[PC,bZ,bZ,y.2.1.length]
   exact(y.2.1.step S).take _⟩)
  exact h _ _ ((PG.pure G K₃).trans P.1) (z.2.step P.2)
theorem kz(Fs:Ez c)(Cl:Be c)(Su:JI c){l dl wr:Nat}(e:H[l]?=some (.acc dl xs))(hs:Cw H dl "part_count" =true)(hsz:xs.length<=1000)(hwl:xs.getLast?=none\/wr<=l):
  DQ c (d+2) H wr (.val (.ref 209)) [.loc l] [] (qx xs) (qy H l dl xs):=by
 intro A π s E cf cargs Gr R hw G rf ra rk
 rcases rf.val with ⟨⟩
 refine Bl λGG fin=>(GH vU).elim λfi q=>q.elim λb q=>(GH qr).elim λfi2 q2=>q2.elim λ_ q2=>vW.elim λp z=>z.elim λn z=>fin ?_
 refine S4 Fs Su q.1 q.2.1 q.2.2 ⋯ (I3 q.1 (AaM _ _ _ _)) rfl R hw G ra λenv s₁ π₁ I hab P₁ F₁ L₁=>?_
 rcases I2 q.1 q.2.1 z.1 with ⟨⟩
 have qz:Bt c (d+1) (Au fi H.length wr) [("self",.loc l)] H (.Name "self" (p 0)) (.loc l) H:=IW (S:=⟨H,true⟩) _ (by
  show(CX (Au fi H.length wr) "self").bind _=_
  rw[show CX (Au fi H.length wr) "self" =some .local from(D8 ..).trans q.2.2.ka];rfl)
 have em:=
  Bt.vY qz rfl z.2.1 (UE Cl _ (fJ (b:=true) e hs)) .nil (λ_ _=>rfl) (Ef.fn Fs q2.1) ⋯ (QU Fs Cl Su e)
 have test:Jv c (d+1) (Au fi H.length wr) [("self",.loc l)] H (.Compare (.Call (.Attribute (.Name "self" (p 0)) "part_count" (p 1)) [] [] (p 2)) [.Eq] [.Constant (.int 0) (n 3) (p 4)] (p 5)) (decide ((xs.length:Int)=0)) H:=
  Jv.cmp em (GC _ rfl) (YK (S:=⟨H,true⟩) _ rfl) rfl
 have R':A5 (d+1) (A.deeper env):=A5.deeper R
 have L₁':=L₁
 delta qx qy
 revert test
 cases hx:xs.getLast? with
 |none=>
  rw[List.getLast?_eq_none_iff.mp hx] at ⊢
  intro test
  have et:Bt c (d+1) (Au fi H.length wr) [("self",.loc l)] H (.Tuple [.Constant (.str "") (n 6) (p 7),.Constant (.str "") (n 8) (p 9)] (n 10) (p 11)) (.tup [.str "",.str ""]) H:=
   Bt.tuple (.cons (GC _ rfl) (.cons (GC _ rfl) .nil)) (λ_ _=>rfl) ⋯
  refine Ig (JA ((E9.ite test (Kk.stop rfl (E9.ret et))).Ng R' F₁ P₁.g L₁' λcf s₂ π₂ P₂ F₂ L₂ r₂=>?_))
  exact AH r₂ λcv r=>r.1▸⟨π₂,PG.Uj P₁ hab (P₂.Kj (Y7 hw).1),r.2⟩
 |some v=>
  rw[Ct λw=>by rw[List.eq_nil_of_length_eq_zero (Ly.inj w)] at hx;cases hx]
  intro test
  refine Ig (JA ((E9.ite test Kk.nil).Ng R' F₁ P₁.g L₁' λcf s₂ π₂ P₂ F₂ L₂ r₂=>?_))
  subst r₂
  have kA:=PG.Uj P₁ hab (P₂.Kj (Y7 hw).1)
  exact Ig (RB (ky Cl Su e hsz hx (hwl.resolve_left (by rw[hx];nofun)) I F₂ P₂.g L₂ z.2.2 λcv s' P r=>⟨π₂,kA.trans P,F6.symm▸r⟩))
end
end
section
open Builtin Builtin.ObjectAttr
noncomputable def PD(K:AI):Aa:=match K.lookup 249 with
 |some ⟨_,_,.cls cd,sl⟩ => !cd.hasDel&&((sl.toList[4]?).join==some (.builtin "list.__new__")&&(cd.mro==[.ref 249,.type "list",.type "object"]&&(OD K (.ref 249) "__call__" ==some (some (.builtin "type.__call__"))&&(instIn K (.ref 249) (.type "type")==some true&&
   (A7 K (.ref 249) "__init__" ==some (some (.ref 186))&&EU K (.ref 186)==some (.type "function"))))))
 |_=>false
structure Xx(M:Model)(K:AI)(h:Ay):Prop where
 obj:∃oc od cd sl,h.get? 249=some ⟨oc,od,.cls cd,sl⟩/\cd.hasDel=false/\cd.mro=[.ref 249,.type "list",.type "object"]
 made:AR M h (Bind.madeBy (.ref 249)) (some "list.__new__")
 base:AR M h (Bind.staticBase (.ref 249)) (.ref 249)
 call:AR M h (Il (.ref 249) "__call__") (some (.builtin "type.__call__"))
 typ:AR M h (Ik (.ref 249) (.type "type")) true
 sub:∀t,AR M h (Ma (.ref 249) t) (([.ref 249,.type "list",.type "object"]:List Ad).contains t)
 init:AR M h (typeLookup (.ref 249) "__init__") (some (.ref 186))
 bind:∀self,AR M h (bindSpecial (.ref 186) self) (.ref 186,[self])
set_option tactic.hygienic true in
theorem QV{K:AI}(X:K.In h)(e:PD K=true):Xx M K h:=by
 unfold PD at e
 split at e
 ·rename_i oc od cd sl ho
  simp only[HQ,VU,beq_iff_eq] at e
  obtain ⟨e1,e2,e3,e4,e5,e6,e7⟩:=e
  have hc:W.clsIn K 249=some cd:=by unfold W.clsIn;rw[ho]
  have hm:AR M h (mroOf (.ref 249)) cd.mro:=(OB X hc).andThen .now
  have made:AR M h (Bind.madeBy (.ref 249)) (some "list.__new__"):=by
   intro A Q E s k q
   refine Ac (hm A _ E s k ?_)
   rw[e3,FP]
   refine Ac (Ac (Ac (Ac (RJ (k _ _ (X _ _ ho)) (An ?_)))))
   rw[<-Q3,e2] at ⊢
   exact An (An (An q))
  refine⟨⟨oc,od,cd,sl,X _ _ ho,e1,e3⟩,made,?_,looks_specialIn X e4,looks_instIn X e5,λt=>Iz X ?_,Dr X e6,λself=>bind_fn X self e7⟩
  ·intro A Q E s k q
   refine Ac (hm A _ E s k ?_)
   rw[e3,FP]
   exact Ac (Ac (Ac (made A _ E s k (An (An (An q))))))
  ·unfold IA;rw[hc,Gy,AD (by rw[e3];decide),e3]
 ·rcases e with ⟨⟩
noncomputable abbrev I4(dx:Ah):Obj:={cls:=.ref 249,dict:=some dx,data:=.seq #[]}
theorem kB:Dp "list.__new__" =some .builtinFn:=⋯
theorem fK:G8 "list.__new__" =some ("list","__new__"):=⋯
section
variable{prog:Dq}{w:DG}{A:AG}{K:AI}{R:Result->Aj->Prop}{h:Ay}{g:AE Mc}{d:Drawn}{t:Nat}{os:G6}
theorem vZ(Y:Xx (AW prog w) K h)
  (hq:R (.ok (.ret (.ref (h.objs.size+1)))) ⟨(h.push Cs).push (I4 h.objs.size),g,d,t,os⟩):
  EM (AW prog w) A (.call (.builtin "list.__new__") ⟨[.ref 249,v],[]⟩) R ⟨h,g,d,t,os⟩:=by
 obtain ⟨⟨oc,od,cd,sl,hC,e2,e3⟩,made,base,call,typ,sub,_,_⟩:=Y
 have s1:AR (AW prog w) h (Ma (.ref 249) (.type "list")) true:=sub _
 refine RH ?_
 have check:∀{A':AG}{E':EP}{Q':Ce->Aj->Prop},Q' () ⟨h,g,d,t,os⟩->Ae (AW prog w) A' (Oe "list.__new__" ⟨[.ref 249,v],[]⟩) Q' E' ⟨h,g,d,t,os⟩:=by
  intro A' E' Q' q
  rw[Oe,kB,fK]
  repeat (first | rw[AD BJ] | lk)
  exact q
 refine Ac (check (An ⟨Gc df _,codeAny_builtin_stack PySem.F.entry_list_new rfl λp st=>?_⟩))
 rw[Ka df _]
 have hown:=owner_list_new
 simp only[hown]
 repeat (first | rw[AD BJ] | lk)
 refine Ol (B6 _ (B6 _ hC)) ?_
 dsimp only
 rw[e2]
 refine An (An (An ?_))
 rw[Mg]
 exact hq
theorem qA(Y:Xx (AW prog w) K h)
  (hq:Ae (AW prog w) (A.under (.builtin "type.__call__" ⟨[.ref 249,v],[]⟩)) (RS (.ref 186) [.ref (h.objs.size+1),v]) (λr s'=>r=.none/\R (.ok (.ret (.ref (h.objs.size+1)))) s') (λe s'=>R (.error e) s') ⟨(h.push Cs).push (I4 h.objs.size),g,d,t,os⟩):
  EM (AW prog w) A (.call (.ref 249) ⟨[v],[]⟩) R ⟨h,g,d,t,os⟩:=by
 have Y':=Y
 obtain ⟨⟨oc,od,cd,sl,hC,e2,e3⟩,made,base,call,typ,sub,init,bind⟩:=Y
 refine RH ?_
 refine nd_load hC ?_
 show Ae _ _ (dD (.ref 249) _) _ _ _
 refine Ac (call.at ?_)
 dsimp only
 rw[tc_bind]
 refine Ac (An (Ac (An ?_)))
 refine An (Fo rfl ?_)
 refine cM (dA _ ⋯) entry_typeCall (Mh tc_kind tc_split typ (tc_args _ _ _) ?_)
 have hm:AR (AW prog w) h (mroOf (.ref 249)) cd.mro:=((D3 hC).andThen .now).andThen .now
 have e4:cd.mro.isEmpty=false:=by rw[e3];rfl
 repeat (first | rw[AD BJ] | rw[AD (show ¬cd.mro.isEmpty=true from e4▸BJ)] | with_reducible refine DE ?_ | lk)
 refine vZ Y' ?_
 have k:∀b o,h.get? b=some o->((h.push Cs).push (I4 h.objs.size)).get? b=some o:=λb o e=>B6 _ (B6 _ e)
 have hx:((h.push Cs).push (I4 h.objs.size)).get? (h.objs.size+1)=some (I4 h.objs.size):=by heap_get
 have t1:AR (AW prog w) ((h.push Cs).push (I4 h.objs.size)) (CR (.ref (h.objs.size+1))) (.ref 249):=(D3 hx).andThen .now
 have s1:=(sub (.ref 249)).keeps k
 have i1:=init.keeps k
 have b1:=(bind (.ref (h.objs.size+1))).keeps k
 repeat ((fail_if_success (with_reducible show Ae _ _ (RS _ _ _) _ _ _));lk)
 refine AJ hq (λr s' ⟨e,q⟩=>?_) λ_ _ x=>x
 subst e
 exact An (An q)
end
end
section
open Builtin Builtin.ObjectAttr
theorem A5.make(R:A5 (d+1) A)(C:Ah)(rest:List Ad):A5 d (A.under (.builtin "type.__call__" ⟨.ref C::rest,[]⟩)):=
 ⟨R.handled,by have:=R.depth;exact(pw [.t (.A .p (.A .q (.k 1))) (.k 900)] (.t (.A (.A .p (.k 1)) .q) (.k 900)) [] [_,_]) this,by have:=R.units;exact(pw [.t (.A (.A .p (.m 20 (.A .q (.k 1)))) (.k 40)) (.k 9900)] (.t (.A (.A (.A .p (.k 1)) (.m 20 .q)) (.k 40)) (.k 9900)) [] [_,_]) this,R.frames⟩
theorem kC(h:Ay):(h.push Cs).Ns1 h.objs.size (λ_=>none):=
 ⟨_,_,_,Bp _ rfl,rfl,by simp[StrKeys],by simp[UniqKeys],λname=>by simp[ER,findBy]⟩
section
variable{c:Cx}{d:Nat}{fr:FD}{lo Bv BK:Lo}{H H' EY H1 H2 H3:List AO}
theorem qB(H:List AO)(a b c' e:AO):((H++[a,b]).set H.length c').set (H.length+1) e=H++[c',e]:=by
 induction H with
 |nil=>rfl
 |cons x H ih=>exact Ai (x :: ·) ih
theorem Y9(H:List AO)(a b:AO):(H++[a,b])[H.length]?=some a/\(H++[a,b])[H.length+1]?=some b/\(H++[a,b]).length=H.length+2:=by
 induction H with
 |nil=>exact⟨rfl,rfl,rfl⟩
 |cons x H ih=>exact⟨ih.1,ih.2.1,Ai Gb ih.2.2⟩
theorem As.Za(hl:l<n):As π n h (.loc l) (.ref (π.at' l)):=⟨hl,rfl⟩
theorem Xy(ho:s.heap.get? x=some o)(hd:o.data=.seq #[] k)
  (q:Q (.done (.ret .none)) {s with heap:=s.heap.update x (C6 λ_ => #[])}):
  Ae c.m A (Bo.«list.__init__» ⟨[.ref x],[]⟩) Q E s:=by
 obtain ⟨h,g,dd,t,os⟩:=s
 unfold Bo.«list.__init__»
 repeat wp_step
 rw[hd]
 refine An (An ?_)
 refine Ac (EJ ho hd (_hz':=by simp) ?_)
 exact Ac (An (An q))
theorem PG.Zb(G:Av c π H s)(hw:wr<=H.length)(hf:o2.isFreed=false)(hok:Jg o2)
  (hor:∀(h':Ay)(π':Pl),h'.get? (s.heap.objs.size+1)=some o2->π'.at' H.length=s.heap.objs.size->IS π' (H.length+2) h' ao (s.heap.objs.size+1)):
  ∃π',PG c wr none π H s (H++[.dict [],ao]) π' {s with heap:=(s.heap.push Cs).push o2}/\π'.at' (H.length+1)=s.heap.objs.size+1:=by
 have hsz1:(s.heap.push Cs).objs.size=s.heap.objs.size+1:=Mg ..
 have hl1:∀o:AO,(H++[o]).length=H.length+1:=λo=>BP
 have g1:(s.heap.push Cs).get? s.heap.objs.size=some Cs:=Bp _ rfl
 have P1:=PG.add (o:=.dict []) G hw (Kp.BU Cs) (Bx _ (AP _)) ⟨_,_,kC _,λx hx=>AL rfl hx,g1,λx=>rfl⟩ ⟨_,g1,.data (λ_ q=>nomatch q)⟩
 have g2:((s.heap.push Cs).push o2).get? (s.heap.push Cs).objs.size=some o2:=Bp _ hf
 have P2:=PG.add (wr:=wr) P1.g (hl1 _▸JT hw) (Kp.BU o2) (Bx _ (AP _)) (by
  have h4:=hor ((s.heap.push Cs).push o2) (ext (ext π H.length s.heap.objs.size) (H++[AO.dict []]).length (s.heap.push Cs).objs.size) (hsz1▸g2) ((Eo (hl1 _▸CF _)).trans D7)
  rw[<-hsz1] at h4
  rw[hl1] at h4 ⊢
  exact h4) ⟨_,g2,hok⟩
 have h5:=P1.trans P2
 rw[FO] at h5
 exact⟨_,h5,by rw[<-hl1 (.dict [])];exact D7.trans hsz1⟩
theorem kD(Fs:Ez c)(Cl:Be c)(Su:JI c)(hmk:PD c.K=true):DQ c (d+2) H wr (.val (.ref 249)) [v] [] (.loc (H.length+1)) (H++[.dict [("_initial_size",v)],.acc H.length []]):=by
 intro A π s E cf cargs Gr R hw G rf ra rk
 rcases rf.val with ⟨⟩
 refine Bl λGG fin=>AH ra λcv ra=>ra.elim λws ra=>(GH AaN).elim λfi q=>q.elim λb q=>vX.elim λp z=>(PG.Zb (ao:=.acc H.length []) (o2:=I4 s.heap.objs.size) G hw rfl CZ λh' π' hg hat=>⟨#[],_,_,by rw[hg,hat],Wg ⋯,.nil⟩).elim λπ' P=>fin ?_
 rw[ra.1,ra.2.2]
 refine DE ?_
 obtain ⟨hp0,g,dd,t,os⟩:=s
 refine qA (QV (c.DA G) hmk) ?_
 have hat:=P.2
 have P:=P.1
 have hT:=Y9 H (.dict []) (.acc H.length [])
 have hS:=qB H (.dict []) (.acc H.length []) (.dict [("_initial_size",v)]) (.acc H.length [])
 revert hat P hT hS
 generalize H++[.dict [],.acc H.length []]=H2
 generalize (⟨(hp0.push Cs).push (I4 hp0.objs.size),g,dd,t,os⟩ :Aj)=s₀
 intro hat P hT hS
 have IY:H.length+1<H2.length:=hT.2.2▸CF _
 have ra':Ag π' H2.length s₀.heap [.loc (H.length+1),v] [.ref (hp0.objs.size+1),cv]:=.cons ⟨IY,Ai Bq hat.symm⟩ (.cons (ra.2.1.pg P G) .nil)
 have hw2:=AA hw P.le
 refine S4 Fs Su q.1 q.2.1 q.2.2 ⋯ (I3 q.1 (qt _ _ _ _ _)) rfl (R.make 249 [cv]) hw2 P.g ra' λenv s₁ π₁ I hab P₁ F₁ L₁=>?_
 rcases I2 q.1 q.2.1 z.1 with ⟨⟩
 have nm:∀{x:Str}{a:AV}{p:Pos},(W6 x=false)->CX (Au fi H2.length wr) x=some .local->lk x [("self",AV.loc (H.length+1)),("initial_size",v)]=some a->Bt c d (Au fi H2.length wr) [("self",.loc (H.length+1)),("initial_size",v)] H2 (.Name x p) a H2:=λh1 h2 he=>
  IW (S:=⟨H2,true⟩) _ (by unfold nameA;rw[h1,h2];exact he)
 have kI:CX (Au fi H2.length wr) "initial_size" =some .local:=I3 (f:=λfi=>CX (Au fi H2.length wr) "initial_size") q.1 (by kernel_rfl!)
 have hwS:(Au fi H2.length wr).wr<=H.length:=by
  show cond fi.Ss wr _<=_
  rw[show fi.Ss=true from AQ (I3 (f:=λfi=>some fi.Ss) q.1 (by kernel_rfl!))]
  exact hw
 have AaO:kh c d (Au fi H2.length wr).wr H2 (.loc (H.length+1)) "_initial_size" v (H2.set H.length (.dict [("_initial_size",v)])):=Xq Cl.a (λy hy=>Lz _ hy) rfl (nV · _) (.head _) (.inr ⟨rfl,_,hT.2.1⟩) hT.1 hwS
 have est:=E9.Y2 (p:=p 1) (p2:=p 3) (nm (p:=p 2) rfl kI rfl) (nm (p:=p 0) (x:="self") rfl ((D8 ..).trans q.2.2.ka) rfl) AaO
 refine Ig (JA (est.Ng ((R.make 249 [cv]).deeper) F₁ P₁.g L₁ λcf s₂ π₂ P₂ F₂ L₂ r₂=>?_))
 subst r₂
 have kA:=PG.Uj P₁ hab (P₂.Kj (Y7 hw2).1)
 have fL:(H2.set H.length (.dict [("_initial_size",v)]))[H.length+1]?=some (.acc H.length []):=(Rd (EG (CF _))).trans hT.2.1
 refine Bl λGG fin=>(HI P₂.g fL).elim λvl y=>y.elim λkk y=>y.elim λsl y=>fin ?_
 clear fin GG
 obtain rfl:vl = #[]:=VO y.2.1.size
 have hint:interactive env=false:=by unfold interactive;rw[F₂.scope,F₂.kind];rfl
 refine Ig (ks_wpAt_Expr_any (Kq Cl Su I F₂ P₂.g L₂ fL ⋯ z.2 (Py.init (c:=c)) λs₃ K₃=>?_) hint)
 have qC:=kA.DT K₃
 refine Xy (K₃.keep _ _ (λq=>q) (P₂.g.tabs.D4 y.1 nofun) y.1) rfl ⟨_,rfl,?_⟩
 have P4:=Fp (CY (wr:=wr) (o:=.acc H.length []) (f:=C6 λ_ => #[]) qC.g (qC.g.lt fL) (JT hw) (K₃.keep _ _ (λq=>q) (P₂.g.tabs.D4 y.1 nofun) y.1) CZ CZ rfl s₃.toks (λh' S e'=>⟨_,_,sl,e',y.2.2.1,.nil⟩))
 refine JA (WC ⟨rfl,π₂,hS▸(P.trans qC).trans P4,?_⟩)
 rw[<-(kA.agree (H.length+1) IY).trans hat,<-hS]
 exact As.Za (by rw[F6,F6];exact IY)
end
end
section
open Builtin Builtin.ObjectAttr
section
variable{prog:Dq}{w:DG}{A:AG}{K:AI}{C:Ah}{R:Result->Aj->Prop}{h:Ay}{g:AE Mc}{d:Drawn}{t:Nat}{os:G6}
theorem qD(Y:Makes (AW prog w) h C)(hi:AR (AW prog w) h (typeLookup (.ref C) "__init__") (some init))
  (hb:∀self,AR (AW prog w) h (bindSpecial init self) (init,[self]))(hne:(some init !=some (R7 "object.__init__"))=true\/(rest=[]/\([]:List (Str×Ad))=[]))
  (hq:Ae (AW prog w) (A.under (.builtin "type.__call__" ⟨.ref C::rest,[]⟩)) (RS init (.ref (h.objs.size+1)::rest)) (λr s'=>r=.none/\R (.ok (.ret (.ref (h.objs.size+1)))) s') (λe s'=>R (.error e) s') ⟨(h.push Cs).push (Mi C h.objs.size),g,d,t,os⟩):
  EM (AW prog w) A (.call (.ref C) ⟨rest,[]⟩) R ⟨h,g,d,t,os⟩:=by
 have Y':=Y
 obtain ⟨⟨oc,od,cd,sl,hC,e1,e2,e4⟩,made,base,self,top,call,typ⟩:=Y
 refine RH ?_
 refine nd_load hC ?_
 show Ae _ _ (dD (.ref C) _) _ _ _
 refine Ac (call.at ?_)
 dsimp only
 rw[tc_bind]
 refine Ac (An (Ac (An ?_)))
 refine An (Fo rfl ?_)
 refine cM (dA _ ⋯) entry_typeCall (Mh tc_kind tc_split typ (tc_args _ _ _) ?_)
 have hm:AR (AW prog w) h (mroOf (.ref C)) cd.mro:=((D3 hC).andThen .now).andThen .now
 repeat (first | rw[AD BJ] | rw[AD (show ¬cd.mro.isEmpty=true from e4▸BJ)] | with_reducible refine DE ?_ | lk)
 refine new_K Y' hi hne ?_
 have k:∀b o,h.get? b=some o->((h.push Cs).push (Mi C h.objs.size)).get? b=some o:=λb o e=>B6 _ (B6 _ e)
 have hx:((h.push Cs).push (Mi C h.objs.size)).get? (h.objs.size+1)=some (Mi C h.objs.size):=by heap_get
 have t1:AR (AW prog w) ((h.push Cs).push (Mi C h.objs.size)) (CR (.ref (h.objs.size+1))) (.ref C):=(D3 hx).andThen .now
 have s1:=self.keeps k
 have i1:=hi.keeps k
 have b1:=(hb (.ref (h.objs.size+1))).keeps k
 repeat ((fail_if_success (with_reducible show Ae _ _ (RS _ _ _) _ _ _));lk)
 refine AJ hq (λr s' ⟨e,q⟩=>?_) λ_ _ x=>x
 subst e
 exact An (An q)
end
section
variable{c:Cx}{d:Nat}{fr:FD}{lo Bv BK:Lo}{H H' EY H1 H2 H3:List AO}
theorem aP(Fs:Ez c)(hmk:makesIn c.K 165=true)(hin:A7 c.K (.ref 165) "__init__" =some (some (.ref 106)))(hty:EU c.K (.ref 106)=some (.type "function"))(Sd:Bk c d r):Ok (d7 r wr as S) (nG c (d+2) wr S (.val (.ref 165)) as []):=
 Ok.self.bind λfi hf=>(SU Fs Sd hf).bind λx i=>.guard λhn=>.some λo=>⟨(i o).1,λA π s E cf cargs Gr R hw G rf ra rk=>by
  cases rf.val
  have run:=(i o).2
  rw[QB hn] at run
  revert run
  have hT:=Y9 S.H (.dict []) (.inst 165 S.H.length)
  refine(PG.Zb (ao:=.inst 165 S.H.length) (o2:=Mi 165 s.heap.objs.size) G hw rfl (.data (λ_ q=>nomatch q)) λh' π' hg hat=>⟨_,by rw[hg,hat],Wg ⋯⟩).elim λπ' P=>?_
  have hat:=P.2
  have P:=P.1
  revert hat P hT
  generalize S.H++[.dict [],.inst 165 S.H.length]=H2
  intro hT hat P run
  have IY:S.H.length+1<H2.length:=hT.2.2▸CF _
  refine DE ?_
  obtain ⟨hp0,g,dd,t,os⟩:=s
  refine qD (makes_of (c.DA G) hmk) (Dr (c.DA G) hin) (λself=>bind_fn (c.DA G) self hty) (.inl rfl) ?_
  refine AJ (run _ π' _ _ (.ref 106) (.ref (hp0.objs.size+1)::cargs) [] (R.make 165 cargs) (AA hw P.le) P.g .FW (.cons ⟨IY,Ai Bq hat.symm⟩ (ra.pg P G)) .nil) (λcv s' q=>q.elim λπ₂ q=>?_) λ_ _ x=>x
  refine⟨q.2,π₂,P.trans q.1,?_⟩
  rw[<-(q.1.agree (S.H.length+1) IY).trans hat]
  exact As.Za (BX IY q.1.le)⟩
end
end
section
open Builtin Builtin.ObjectAttr
section
variable{α:Type}(gt:α->α->Aa)
noncomputable def Ea(l:List α)(a:α):α:=l.foldl (λm x=>if gt x m then x else m) a
def Mz(l:List α)(i j:Nat):Aa:=Bz l[i]? λx=>Bz l[j]? λy=>gt x y
theorem S5(a:α)(as:List α):∀k,k<=as.length->(a::as)[EO (Mz gt (a::as)) k]?=some (Ea gt (as.take k) a):=by
 intro k
 induction k with
 |zero=>exact λ_=>rfl
 |succ k ih=>
  intro hk
  have i1:=ih (Wk hk)
  have e2:=HU hk
  have e4:Mz gt (a::as) (k+1) (EO (Mz gt (a::as)) k)=gt as[k] (Ea gt (as.take k) a):=by
   show Bz as[k]? (λx=>Bz (a::as)[EO (Mz gt (a::as)) k]? λy=>gt x y)=_
   rw[e2,i1];rfl
  rw[bR hk,show Ea gt (as.take k++[as[k]]) a=if gt as[k] (Ea gt (as.take k) a) then as[k] else Ea gt (as.take k) a from List.foldl_append ..]
  show(a::as)[if Mz gt (a::as) (k+1) (EO (Mz gt (a::as)) k)=true then k+1 else EO (Mz gt (a::as)) k]?=_
  rw[e4]
  induction gt as[k] (Ea gt (as.take k) a) using Eh with
  |true=>exact e2
  |false=>exact i1
theorem UJ(a:α)(as:List α):(a::as)[EO (Mz gt (a::as)) ((a::as).length-1)]?=some (Ea gt as a):=by
 have:=S5 gt a as as.length (AP _)
 rw[Wb] at this
 exact this
end
theorem Zc:∀(l:List Int)(m:Int),pq l m=Ea (λx m=>decide (m<x)) l m
 |[],_=>rfl
 |x::l,m=>(Zc l _).trans (Ai (Ea _ l) (by simp only[Gl]))
theorem Zd:∀(l:List Int)(m:Int),px l m=Ea (λx m=>decide (x<m)) l m
 |[],_=>rfl
 |x::l,m=>(Zd l _).trans (Ai (Ea _ l) (by simp only[Gl]))
theorem Ze:∀(l:List Al)(m:Al),pz l m=Ea (λx m=>Ek x m==some .gt) l m
 |[],_=>rfl
 |x::l,m=>Ze l _
theorem Zf:∀(l:List Al)(m:Al),pA l m=Ea (λx m=>Ek x m==some .lt) l m
 |[],_=>rfl
 |x::l,m=>Zf l _
end
section
open Builtin Builtin.ObjectAttr
section
variable{prog:Dq}{w:DG}{A:AG}{E:EP}{s:Aj}
theorem args_max3(a b c:Ad):C5 "max" ⟨[a,b,c],[]⟩:=by unfold C5;kernel_rfl
theorem args_min3(a b c:Ad):C5 "min" ⟨[a,b,c],[]⟩:=by unfold C5;kernel_rfl
theorem call_max_three
  (h:Ae (AW prog w) A.in1 (Fj (.ref s.heap.objs.size)) (λit s₂=>∃I fp wr n P St bt,it=.ref I/\Walks prog w A.in1 I fp wr n P St/\St 0 s₂.heap/\(∀b∈fp,b<s₂.heap.objs.size)/\0<n/\Ha prog w A.in1 .Gt P bt/\
   ∀v h' tk,P (EO bt (n-1)) v->(∀b o,b∉wr->s₂.heap.get? b=some o->h'.get? b=some o)->Q v {s₂ with heap:=h',toks:=tk}) E
   {s with heap:=s.heap.push {cls:=.type "tuple",data:=.seq #[a,b,c]}}):
  Ae (AW prog w) A (call (.builtin "max") [a,b,c]) Q E s:=by
 have fM:(toString "max" ++toString ".loop" :A3)="max.loop" :=⋯
 refine Wx PySem.F.kind_max PySem.F.plain_max PySem.F.entry_max (args_max3 _ _ _) ?_
 refine Ac (Ci (rfl) ?_)
 refine Ac (Eu ?_)
 refine Ac (AJ h (λit s₂ h₂=>?_) λ_ _ e=>e)
 obtain ⟨I,fp,wr,n,P,St,bt,rfl,W,hst,hfp,hn,hcmp,hQ⟩:=h₂
 refine Ac (Eu ?_)
 have hSf:=λhm=>F9 _ (hfp _ hm)
 rw[fM]
 refine An ⟨Gc PySem.F.plain_max_loop _,codeAny_max_loop_first W bt hcmp s₂.heap.objs.size hSf hn (W.frame _ _ _ hst λb _ o e=>B6 _ e) (Bp _ rfl) λv h' tk hP hk=>?_⟩
 exact hQ v h' tk hP λb o hbw e=>hk b o hbw (EG (Ew e)) (B6 _ e)
theorem call_min_three
  (h:Ae (AW prog w) A.in1 (Fj (.ref s.heap.objs.size)) (λit s₂=>∃I fp wr n P St bt,it=.ref I/\Walks prog w A.in1 I fp wr n P St/\St 0 s₂.heap/\(∀b∈fp,b<s₂.heap.objs.size)/\0<n/\Ha prog w A.in1 .Lt P bt/\
   ∀v h' tk,P (EO bt (n-1)) v->(∀b o,b∉wr->s₂.heap.get? b=some o->h'.get? b=some o)->Q v {s₂ with heap:=h',toks:=tk}) E
   {s with heap:=s.heap.push {cls:=.type "tuple",data:=.seq #[a,b,c]}}):
  Ae (AW prog w) A (call (.builtin "min") [a,b,c]) Q E s:=by
 have fM:(toString "min" ++toString ".loop" :A3)="min.loop" :=⋯
 refine Wx PySem.F.kind_min PySem.F.plain_min PySem.F.entry_min (args_min3 _ _ _) ?_
 refine Ac (Ci (rfl) ?_)
 refine Ac (Eu ?_)
 refine Ac (AJ h (λit s₂ h₂=>?_) λ_ _ e=>e)
 obtain ⟨I,fp,wr,n,P,St,bt,rfl,W,hst,hfp,hn,hcmp,hQ⟩:=h₂
 refine Ac (Eu ?_)
 have hSf:=λhm=>F9 _ (hfp _ hm)
 rw[fM]
 refine An ⟨Gc PySem.F.plain_min_loop _,codeAny_min_loop_first W bt hcmp s₂.heap.objs.size hSf hn (W.frame _ _ _ hst λb _ o e=>B6 _ e) (Bp _ rfl) λv h' tk hP hk=>?_⟩
 exact hQ v h' tk hP λb o hbw e=>hk b o hbw (EG (Ew e)) (B6 _ e)
def Et(prog:Dq)(w:DG)(A:AG)(op:G9)(x:Ad)(s:Aj)(vs:AE Ad)(bt:Nat->Nat->Aa)(Q:EP)(E:EP):Prop:=
 Ae (AW prog w) A (Fj x) (λit s₂=>∃I fp wr n P St bt,it=.ref I/\Walks prog w A I fp wr n P St/\St 0 s₂.heap/\(∀b∈fp,b<s₂.heap.objs.size)/\0<n/\Ha prog w A op P bt/\
   ∀v h' tk,P (EO bt (n-1)) v->(∀b o,b∉wr->s₂.heap.get? b=some o->h'.get? b=some o)->Q v {s₂ with heap:=h',toks:=tk}) E s
theorem Et.list(hh:A.handled=none)(hl:s.heap.IsList l vs)(hn: 0<vs.size)(hcmp:Ha prog w A op (λi v=>vs[i]?=some v) bt)
  (hQ:∀v h' tk,vs[EO bt (vs.size-1)]?=some v->(∀b o,s.heap.get? b=some o->h'.get? b=some o)->Q v {s with heap:=h',toks:=tk}):Et prog w A op (.ref l) s vs bt Q E:=by
 have IY:l<s.heap.objs.size:=by obtain ⟨_,e,_⟩:=hl;exact Ew e
 refine RE hl ?_
 refine⟨s.heap.objs.size,[s.heap.objs.size,l],[s.heap.objs.size],vs.size,_,_,bt,rfl,Walks.list hh _ l (EG IY) vs,⟨⟨_,Bp _ rfl,rfl,rfl⟩,hl.push _⟩,λb hb=>?_,hn,hcmp,λv h' tk hP hk=>?_⟩
 ·show b<(s.heap.push _).objs.size
  rw[Mg]
  simp only[Bc,N1,OH] at hb
  rcases hb with rfl | rfl
  ·exact CF _
  ·exact N6 IY
 ·exact hQ v h' tk hP λb o e=>hk b o (λhm=>by rw[CL.mp hm] at e;exact F9 _ (Ew e)) (B6 _ e)
theorem Et.tup(hh:A.handled=none)(hn: 0<as.size)(hcmp:Ha prog w A op (λi v=>as[i]?=some v) bt)
  (hQ:∀v h' tk,as[EO bt (as.size-1)]?=some v->(∀b o,s.heap.get? b=some o->h'.get? b=some o)->Q v {s with heap:=h',toks:=tk}):
  Et prog w A op (.ref s.heap.objs.size) {s with heap:=s.heap.push {cls:=.type "tuple",data:=.seq as}} as bt Q E:=by
 have hT:(s.heap.push {cls:=.type "tuple",data:=.seq as}).IsTuple s.heap.objs.size as:=⟨_,Bp _ rfl,rfl,0,rfl⟩
 have hsz:(s.heap.push {cls:=.type "tuple",data:=.seq as}).objs.size=s.heap.objs.size+1:=Mg ..
 refine wpAny_pyIter_tuple hT ?_
 refine⟨_,[_,s.heap.objs.size],[_],as.size,_,_,bt,rfl,Walks.tuple hh _ s.heap.objs.size (by rw[hsz];exact EG (CF _)) as,⟨⟨_,Bp _ rfl,rfl,rfl⟩,hT.push _⟩,λb hb=>?_,hn,hcmp,λv h' tk hP hk=>?_⟩
 ·show b<((s.heap.push _).push _).objs.size
  rw[Mg,hsz]
  rcases Bc.mp hb with rfl | hb
  ·show(s.heap.push _).objs.size<_
   rw[hsz];exact CF _
  ·rw[CL.mp hb];exact N6 (CF _)
 ·exact hQ v h' tk hP λb o e=>hk b o (λhm=>by
   have h1:=CL.mp hm
   have h2:=h1
   rw[hsz] at h2
   have h3:=Ew e
   rw[h2] at h3
   exact AL h3 (EI.mpr (Dw _))) (B6 _ (B6 _ e))
end
end
section
open Builtin Builtin.ObjectAttr
section
noncomputable def qE:Aa->G9 | true=>.Gt | false=>.Lt
def gtI(mx:Aa)(x m:Int):Aa:=match mx with | true=>decide (m<x) | false=>decide (x<m)
noncomputable def gtF(mx:Aa)(x m:Al):Aa:=match mx with | true=>Ek x m==some .gt | false=>Ek x m==some .lt
abbrev Zg{α:Type}(K:α->Ad->Prop)(l:List α)(vs:AE Ad):Prop:=∀(i:Nat)(v:Ad),vs[i]?=some v->∃x,l[i]?=some x/\K x v
abbrev isI(x:Int)(v:Ad):Prop:=∃t,v=.int x t
abbrev isF(x:Al)(v:Ad):Prop:=∃t,v=.float x t
theorem Zh{x y:α}(e1:l[i]?=some x)(e2:l[j]?=some y):Mz gt l i j=gt x y:=by unfold Mz;rw[e1,e2];rfl
theorem qF(mx:Aa)(hv:Zg isI l vs):Ha prog w A (qE mx) (λi v=>vs[i]?=some v) (Mz (gtI mx) l):=by
 intro i j vi vj s Q E hi hj
 refine(hv i vi hi).elim λx q=>q.2.elim λt e=>(hv j vj hj).elim λy q'=>q'.2.elim λu e'=>?_
 rw[Zh q.1 q'.1,e,e']
 intro h
 rcases mx with ⟨⟩
 ·exact richCompare_gives (EK s _ t) (EK s _ u) PySem.F.slot_int_lt PySem.F.entry_int_lt (PySem.F.args_int_lt_2 _ _) (gives_int_lt _ _ t u) (λx=>nomatch x) h
 ·exact richCompare_gives (EK s _ t) (EK s _ u) PySem.F.slot_int_gt PySem.F.entry_int_gt (PySem.F.args_int_gt_2 _ _) (gives_int_gt _ _ t u) (λx=>nomatch x) h
theorem qG(mx:Aa)(hv:Zg isF l vs):Ha prog w A (qE mx) (λi v=>vs[i]?=some v) (Mz (gtF mx) l):=by
 intro i j vi vj s Q E hi hj
 refine(hv i vi hi).elim λx q=>q.2.elim λt e=>(hv j vj hj).elim λy q'=>q'.2.elim λu e'=>?_
 rw[Zh q.1 q'.1,e,e']
 intro h
 rcases mx with ⟨⟩
 ·exact cU h
 ·exact cT h
theorem Ag.qH{mk:α->AV}{K:α->Ad->Prop}(hK:∀x v,As π n h (mk x) v->K x v)(r:Ag π n h (l.map mk) vs.toList):Zg K l vs:=λi v hv=>by
 rw[<-Q3] at hv
 refine(r.get' hv).elim λx q=>?_
 have q1:=q.1
 rw[F4] at q1
 exact(Ab.map_eq_some_iff.mp q1).imp λy (z:l[i]?=some y/\mk y=x)=>⟨z.1,hK y v (z.2▸q.2)⟩
theorem I5{mk:α->AV}(hf:∀{v},Ok (f v) λx=>v=mk x):∀{xs:List AV},Ok (Gn f xs) λys=>xs=ys.map mk
 |[]=>.some rfl
 |x::xs=>hf.bind λb e=>(I5 hf).bind λbs q=>.some (e▸q▸rfl)
theorem QW:Ok (ON xs) λis=>xs=is.map .int:=I5 Bd
theorem aQ:Ok (dT xs) λis=>xs=is.map .AS:=I5 IQ
def n3(mx:Aa)(xs:List AV)(r:AV):Prop:=∀{π:Pl}{n:Nat}{hp:Ay}{vs:AE Ad},Ag π n hp xs vs.toList->∀{prog:Dq}{w:DG}{A:AG},
 0<vs.size/\∃bt,Ha prog w A (qE mx) (λi v=>vs[i]?=some v) bt/\∀v,vs[EO bt (vs.size-1)]?=some v->∀h',As π n h' r v
theorem bestOf{mk:α->AV}{K:α->Ad->Prop}(hK:∀{π n h x v},As π n h (mk x) v↔K x v)(hr:r=mk (Ea gt as a))
  (hc:∀{prog:Dq}{w:DG}{A:AG}{vs:AE Ad},Zg K (a::as) vs->Ha prog w A (qE mx) (λi v=>vs[i]?=some v) (Mz gt (a::as))):n3 mx ((a::as).map mk) r:=λ{π n hp vs} rv {prog w A}=>by
 have hv:=Ag.qH (λx v=>hK.mp) rv
 have hsz:=rv.size.trans (AY ..)
 refine⟨hsz▸N9 _,_,hc hv,λv hk h'=>(hv _ v hk).elim λx q=>?_⟩
 have e:=q.1
 rw[hsz,UJ] at e
 rw[hr,AQ e]
 exact hK.mpr q.2
theorem PE{mx:Aa}{xs:List AV}:Ok (YF mx xs) (n3 mx xs):=by
 induction xs using B9 with
 |nil=>exact .none
 |cons x t=>
  induction x using AV.casesOn with
  |int i=>exact QW.bind λis e=>.some (e▸bestOf Iff.rfl (by rcases mx with ⟨⟩;exact Ai AV.int (Zd ..);exact Ai AV.int (Zc ..)) (qF mx))
  |AS i=>exact aQ.bind λis e=>.some (e▸bestOf Iff.rfl (by rcases mx with ⟨⟩;exact Ai AV.AS (Zf ..);exact Ai AV.AS (Ze ..)) (qG mx))
  |_=>exact .none
end
end
section
open Builtin Builtin.ObjectAttr
section
variable{c:Cx}{d:Nat}{fr:FD}{lo Bv BK:Lo}{H H' EY H1 H2 H3:List AO}
noncomputable def S6(mx:Aa):A3:=match mx with | true=>"max" | false=>"min"
theorem wa(h:Et c.prog c.w A.in1 (qE mx) x s vs bt Q E):Ae c.m A (call (.builtin (S6 mx)) [x]) Q E s:=by
 rcases mx with ⟨⟩
 ·exact call_min_walk h
 ·exact call_max_walk h
theorem wc(h:Et c.prog c.w A.in1 (qE mx) (.ref s.heap.objs.size) {s with heap:=s.heap.push {cls:=.type "tuple",data:=.seq #[a,b]}} #[a,b] bt Q E):Ae c.m A (call (.builtin (S6 mx)) [a,b]) Q E s:=by
 rcases mx with ⟨⟩
 ·exact call_min_two h
 ·exact call_max_two h
theorem we(h:Et c.prog c.w A.in1 (qE mx) (.ref s.heap.objs.size) {s with heap:=s.heap.push {cls:=.type "tuple",data:=.seq #[a,b,e]}} #[a,b,e] bt Q E):Ae c.m A (call (.builtin (S6 mx)) [a,b,e]) Q E s:=by
 rcases mx with ⟨⟩
 ·exact call_min_three h
 ·exact call_max_three h
def aR(c:Cx)(d:Nat)(wr:Nat)(S:St)(id:A3)(as:List AV)(x:Rt AV):Prop:=AX S x.S (Cj c d S.H wr id as x.v x.S.H)
theorem UK:Ok (dX mx as S) (aR c d wr S (S6 mx) as):=by
 have up:∀{s:Aj}{h':Ay}{tk:Nat},(∀b o,s.heap.get? b=some o->h'.get? b=some o)->Kp no s {s with heap:=h',toks:=tk}:=λup=>.of_keeps up
 match as with
 |[]=>exact .none
 |[a]=>exact Bs.bind λxs hl=>PE.bind λv hi=>.some (AX.mk (.one λA π s E ca R _ G ra=>(hl π s G ca ra).elim λb q=>q.elim λvs q=>(hi q.2.2).2.elim λbt z=>
   q.1▸wa (Et.list R.handled q.2.1 (hi q.2.2 (prog:=c.prog) (w:=c.w) (A:=A.in1)).1 z.1 λv h' tk hk hu=>⟨π,.pure G (up hu),z.2 v hk _⟩)))
 |[a,b]=>exact PE.bind λv hi=>.some (AX.mk (.two λA π s E ca cb R _ G ra rb=>(hi (.cons ra (.cons rb .nil))).2.elim λbt z=>
   wc (Et.tup R.handled (N9 _) z.1 λv h' tk hk hu=>⟨π,.pure G (up hu),z.2 v hk _⟩)))
 |[a,b,e]=>exact .guard λ_=>PE.bind λv hi=>.some (AX.mk (.three λA π s E ca cb ce R _ G ra rb re=>(hi (.cons ra (.cons rb (.cons re .nil)))).2.elim λbt z=>
   we (Et.tup R.handled (N9 _) z.1 λv h' tk hk hu=>⟨π,.pure G (up hu),z.2 v hk _⟩)))
 |a::b::e::x::t=>exact .none
theorem n63{n:Nat}(h:(n:Int)<2^60):(n:Int)<2^63:=V7 h ⋯
theorem Cj.qI(hn:(x.length:Int)<2^60):Cj c d H wr "len" [.str x] (.int x.length) H:=.one λA π s E ca R _ G ra=>ra.str.elim λt e=>by
 subst e
 exact P.len_str (Fd.mpr (n63 hn)) ⟨π,.pure G .toks,.mkInt⟩
theorem Cj.qJ(hn:(xs.length:Int)<2^60):Cj c d H wr "len" [.tup xs] (.int xs.length) H:=.one λA π s E ca R _ G ra=>ra.tup.elim λa q=>q.elim λvs q=>by
 rw[q.1]
 exact PyProof.Rows.len_tuple q.2.1 (q.2.2.2.size.symm▸n63 hn) ⟨π,.pure G .toks,q.2.2.2.size▸.mkInt⟩
theorem Cj.Zi(ha:Jw c H a xs)(hn:(xs.length:Int)<2^60):Cj c d H wr "len" [a] (.int xs.length) H:=.one λA π s E ca R _ G ra=>(ha π s G ca ra).elim λb q=>q.elim λvs q=>by
 rw[q.1]
 exact Calls.call_len_list q.2.1 (q.2.2.size.symm▸n63 hn) ⟨π,.pure G .toks,q.2.2.size▸.mkInt⟩
theorem UL(l:List Int):preSum (λi=>l.getD i 0) l.length=l.foldl (· + ·) 0:=by
 rw[preSum_getD,Wb,List.sum_eq_foldl]
theorem kE:Ok (uy as S) (aR c d wr S "sum" as):=BE.bind λa e=>Bs.bind λxs ha=>QW.bind λis hi=>.some (e▸AX.mk (.one λA π s E ca R _ G ra=>(ha π s G ca ra).elim λb q=>q.elim λvs q=>by
 subst hi
 rw[q.1]
 have IY:=q.2.1.elim λ_ e=>Ew e.1
 have hs:=q.2.2.size.trans (AY ..)
 have hv:=Ag.qH (mk:=.int) (λx v r=>r) q.2.2
 refine call_sum_walkAnyS (RE q.2.1 ?_)
 refine⟨s.heap.objs.size,[s.heap.objs.size,b],[s.heap.objs.size],_,vs.size,_,_,(λi=>is.getD i 0),rfl,(Walks.list (A:=A.in1) R.handled _ b (EG IY) vs).toS,⟨⟨_,Bp _ rfl,rfl,rfl⟩,q.2.1.push _⟩,λy hy=>?_,λi v hP=>(hv i v hP).elim λx z=>z.2.imp λt z2=>?_,λs' t' hm=>?_⟩
 ·show y<(s.heap.push _).objs.size
  rw[Mg]
  exact(Bc.mp hy).elim (λe=>e▸CF _) λhy=>CL.mp hy▸N6 IY
 ·rw[z2];show _=J9 (is.getD i 0) t;rw[HG,z.1] at ⊢;rfl
 ·rw[hs,UL]
  have K:Kp no s s':=.of_keeps (λy o e=>hm.heap y o (λkF=>by rw[CL.mp kF] at e;exact F9 _ (Ew e)) (B6 _ e)) hm.os hm.gens
  exact⟨π,.pure G K,.mkInt⟩))
theorem kH:Ok (uz as S) (aR c d wr S "abs" as):=BE.bind λa e=>Bd.bind λi hi=>.some (e▸hi▸AX.mk (.one λA π s E ca R _ G ra=>ra.int.elim λt e=>e▸call_abs_int λu tk=>⟨π,.pure G .toks,.mkInt⟩))
theorem aS:Ok (dY as S) (aR c d wr S "round" as):=BE.bind λa e=>IQ.bind λi hi=>.some (e▸hi▸AX.need λh=>.one λA π s E ca R _ G ra=>ra.AS.elim λt e=>by
 subst e
 exact PySem.Flt.call_round_float R.handled (λq=>nomatch (PySem.Flt.not_nan_of_finite h).symm.trans q) (λq=>nomatch (PySem.Flt.not_inf_of_finite h).symm.trans q) λ_=>⟨π,.pure G .toks,.mkInt⟩)
theorem S7(G:Av c π H s)(K:Kp no s s')(hx:s'.heap.get? x=some {cls:=.type "range",data:=.fields #[.int a tx,.int b ty,.int k tz]})(hf:s.heap.get? x=none):
  FV c wr π H s (.Gw a b k) H (.ref x) s':=⟨π,.pure G K,x,rfl,⟨tx,ty,tz,hx⟩,G.fresh hf⟩
def wj(c:Cx)(d:Nat)(H:List AO)(wr:Nat)(id:A3)(as:List AV)(r:AV)(H':List AO):Prop:=
 ∀(A:AG)(π:Pl)(s:Aj)(E:EP)(cargs:List Ad),A5 d A->wr<=H.length->Av c π H s->Ag π H.length s.heap as cargs->Ae c.m A (call (.type id) cargs) (FV c wr π H s r H') E s
theorem wj.NA{id:A3}(h:wj c d H wr id as r H'):DQ c d H wr (.val (.type id)) as [] r H':=λA π s E cf cargs Gr R hw G rf ra rk=>by
 rcases rf.val with ⟨⟩
 exact h A π s E cargs R hw G ra
def qK(c:Cx)(d:Nat)(wr:Nat)(S:St)(id:A3)(as:List AV)(x:Rt AV):Prop:=AX S x.S (wj c d S.H wr id as x.v x.S.H)
theorem aT:Ok (dZ as S) (qK c d wr S "range" as):=by
 induction as using B9 with
 |nil=>exact .none
 |cons a t=>
  exact Bd.bind λx hx=>by
         subst hx
         induction t using B9 with
         |nil=>
          exact .some (AX.mk λA π s E cargs R hw G ra=>AH ra λv ra=>ra.elim λws ra=>by
               rw[ra.1,ra.2.2]
               refine ra.2.1.int.elim λt e=>e▸callType_new R3 ⋯ (PySem.F.typeCall_range_1 _) (PySem.F.newCall_range_1 _) (λobj=>PySem.F.initArgs_range_1 obj _) c9 (AutoRange.range___new___type_int_0 x t R3.sub) ⟨⟨_,Bp _ rfl,rfl⟩,?_⟩
               exact S7 G (.push _) (Bp _ rfl) (Bx _ (AP _)))
         |cons b t=>
          exact Bd.bind λy hy=>by
                 subst hy
                 induction t using B9 with
                 |nil=>
                  exact .some (AX.mk λA π s E cargs R hw G ra=>AH ra λv ra=>ra.elim λws ra=>AH ra.2.2 λw rb=>rb.elim λus rb=>by
                       rw[ra.1,rb.1,rb.2.2]
                       refine ra.2.1.int.elim λt e=>rb.2.1.int.elim λu e'=>e▸e'▸callType_new R3 ⋯ (PySem.F.typeCall_range_2 _ _) (PySem.F.newCall_range_2 _ _) (λobj=>PySem.F.initArgs_range_2 obj _ _) c9 (AutoRange.range___new___type_int_int_0 x y t u R3.sub) ⟨⟨_,Bp _ rfl,rfl⟩,?_⟩
                       exact S7 G (.push _) (Bp _ rfl) (Bx _ (AP _)))
                 |cons z t=>
                  exact Bd.bind λk hz=>.guard λh=>by
                         subst hz
                         have hk:=Bi (Am h)
                         rw[Bj (Ax h)]
                         exact .some (AX.mk λA π s E cargs R hw G ra=>AH ra λv ra=>ra.elim λws ra=>AH ra.2.2 λw rb=>rb.elim λus rb=>AH rb.2.2 λw rc=>rc.elim λts rc=>by
                          rw[ra.1,rb.1,rc.1,rc.2.2]
                          exact ra.2.1.int.elim λt e=>rb.2.1.int.elim λu e'=>rc.2.1.int.elim λv uf=>e▸e'▸uf▸call_range_3 hk.1 (S7 G (.push _) (Bp _ rfl) (Bx _ (AP _))) (.inl (PyProof.noPylong_small hk.2)))
end
end
section
open Builtin Builtin.ObjectAttr
noncomputable def Cf(z:Int)(val:Nat->Int):Nat->Int
 |0=>z
 |j+1=>Cf z val j+val j
section
variable{prog:Dq}{w:DG}{A:AG}{R:Result->Aj->Prop}{I:Ah}{fp wr:List Ah}{G:AE Mc->AE Mc->Prop}{n:Nat}{P:Nat->Ad->Prop}{St:Nat->Aj->Prop}
theorem GI(W:WalksS prog w A.in1 I fp wr G n P St)(z:Int)(val:Nat->Int)(hval:∀i v,P i v->∃t,v=.int (val i) t)(S:Ah)(hSf:S∉fp):
  ∀(k i:Nat)(s:Aj)(tA:Tok)(c:Nat)(st:Int),(st=0\/st=2)->n-i=k->i<=n->St i s->s.heap.get? S=some {cls:=.type "list",dict:=none,data:=.seq #[.int (Cf z val i) tA] c,slots := #[]}->
  (∀s' t',Moved (S::wr) G s s'->R (.ok (.ret (.int (Cf z val n) t'))) s')->EM (AW prog w) A (.builtin "sum.loop" ⟨[.ref I,.ref S,D0 st,D0 0],[]⟩) R s:=by
 have hSw:=λh=>hSf (W.sub _ h)
 have kJ:∀b∈wr,b∈S::wr:=λb hb=>Ed _ hb
 intro k
 induction k with
 |zero=>
  intro i s tA c st wk hk hi hst hS hR
  have hin:i=n:=(pw [.e (.S .p .q) (.k 0),.l .q .p] (.e .q .p) [] [_,_]) hk hi
  subst hin
  refine LU de ?_
  rw[Ka J5 _]
  refine Ac (FR hS rfl ?_)
  refine Ac (WE (W.done s _ _ hst λs' hm=>?_))
  exact An (hR s' tA (hm.mono kJ))
 |succ k ih=>
  intro i s tA c st wk hk hi hst hS hR
  have IY:i<n:=(pw [.e (.S .p .q) (.A .r (.k 1))] (.t .q .p) [] [_,_,_]) hk
  refine LU de ?_
  rw[Ka J5 _]
  refine Ac (FR hS rfl ?_)
  refine Ac (WE (W.item i s _ _ IY hst λv s' hP qM hm=>?_))
  obtain ⟨t,rfl⟩:=hval i v hP
  have jf:=hm.heap S _ hSw hS
  rcases wk with rfl | rfl
  ·show Ae _ A.in1 (if (_:Aa)=true then (mkInt (Cf z val i+val i)>>=_) else _) _ _ _
   split
   ·refine Ac (wpAny_mkInt ?_)
    refine Ac ?_
    refine EJ jf rfl (An ⟨Gc J5 _,ih (i+1) _ s'.toks _ 0 (.inl rfl) ((pw [.e (.S .p .q) (.A .r (.k 1))] (.e (.S .p (.A .q (.k 1))) .r) [] [_,_,_]) hk) IY (W.frame _ s' _ _ qM (by first | exact AP _ | exact Dw _ | lia) λb hb o e=>?_) (Kz _ jf rfl) λHM wm fN=>?_⟩)
    ·exact(JB _ _ (λh:S=b=>hSf (by rw[h];exact hb))).trans e
    ·refine hR HM wm (WV W.gtrans ((hm.mono kJ).then_heap (by first | exact AP _ | exact Dw _ | lia) λb o hb e=>?_) fN)
     exact(JB _ _ (λh:S=b=>hb (by rw[h];exact CT))).trans e
   ·refine Ac (Gd ?_)
    refine Ac (GZ (BF (WH ?_)))
    refine Ac (EJ jf rfl ?_)
    have wo:=Kz (C6 λ_ => #[J9 (Cf z val i+val i) s'.toks]) jf rfl
    refine Ac (L4 ?_)
    refine Ac (EJ wo rfl (An ⟨Gc J5 _,ih (i+1) _ s'.toks _ 2 (.inr rfl) ((pw [.e (.S .p .q) (.A .r (.k 1))] (.e (.S .p (.A .q (.k 1))) .r) [] [_,_,_]) hk) IY (W.frame _ s' _ _ qM (by first | exact AP _ | exact Dw _ | lia) λb hb o e=>?_) (Kz _ wo rfl) λHM wm fN=>?_⟩))
    ·exact(JB _ _ (λh:S=b=>hSf (by rw[h];exact hb))).trans ((JB _ _ (λh:S=b=>hSf (by rw[h];exact hb))).trans e)
    ·refine hR HM wm (WV W.gtrans ((hm.mono kJ).then_heap (by first | exact AP _ | exact Dw _ | lia) λb o hb e=>?_) fN)
     exact(JB _ _ (λh:S=b=>hb (by rw[h];exact CT))).trans ((JB _ _ (λh:S=b=>hb (by rw[h];exact CT))).trans e)
  ·show Ae _ A.in1 ((holding [J9 (val i) t] (binaryOp .Add (.int (Cf z val i) tA) (.int (val i) t))).attempt>>=_) _ _ _
   refine Ac (GZ (BF (WH ?_)))
   refine Ac (EJ jf rfl ?_)
   have wo:=Kz (C6 λ_ => #[J9 (Cf z val i+val i) s'.toks]) jf rfl
   refine Ac (L4 ?_)
   refine Ac (EJ wo rfl (An ⟨Gc J5 _,ih (i+1) _ s'.toks _ 2 (.inr rfl) ((pw [.e (.S .p .q) (.A .r (.k 1))] (.e (.S .p (.A .q (.k 1))) .r) [] [_,_,_]) hk) IY (W.frame _ s' _ _ qM (by first | exact AP _ | exact Dw _ | lia) λb hb o e=>?_) (Kz _ wo rfl) λHM wm fN=>?_⟩))
   ·exact(JB _ _ (λh:S=b=>hSf (by rw[h];exact hb))).trans ((JB _ _ (λh:S=b=>hSf (by rw[h];exact hb))).trans e)
   ·refine hR HM wm (WV W.gtrans ((hm.mono kJ).then_heap (by first | exact AP _ | exact Dw _ | lia) λb o hb e=>?_) fN)
    exact(JB _ _ (λh:S=b=>hb (by rw[h];exact CT))).trans ((JB _ _ (λh:S=b=>hb (by rw[h];exact CT))).trans e)
end
section
variable{prog:Dq}{w:DG}{A:AG}{E:EP}{s:Aj}
theorem aU(a b:Ad):C5 "sum" ⟨[a,b],[]⟩:=by unfold C5;kernel_rfl
theorem forC{M:Model}{A:AG}{α:Type}{a:α}{as:List α}{f:α->EW->Sem (Em EW)}{Q:EW->Aj->Prop}(h:Ae M A (f a ⟨⟩) (λr s'=>r=.yield ⟨⟩/\Ae M A (forIn as ⟨⟩ f) Q E s') E s):Ae M A (forIn (a::as) ⟨⟩ f) Q E s:=by
 rw[FP]
 exact Ac (AJ h (λr s' q=>q.1▸q.2) λ_ _ e=>e)
theorem Ql
  (h:Ae (AW prog w) A.in1 (Fj x) (λit s₂=>∃I fp wr G n P St val,it=.ref I/\WalksS prog w A.in1 I fp wr G n P St/\St 0 s₂/\(∀b∈fp,b<s₂.heap.objs.size)/\
   (∀i v,P i v->∃t,v=.int (val i) t)/\
   ∀s' t',Moved wr G s₂ s'->Q (.int (Cf z val n) t') s') E s):
  Ae (AW prog w) A (call (.builtin "sum") [x,.int z zt]) Q E s:=by
 refine Wx PySem.F.kind_sum PySem.F.plain_sum PySem.F.entry_sum (aU _ _) ?_
 unfold Bo.«sum»
 simp -iota only[JQ,N2]
 rw[AD ⋯]
 refine Ac (Ci (rfl) ?_)
 refine Ac (AJ h (λit s₂ h₂=>?_) λ_ _ e=>e)
 obtain ⟨I,fp,wr,G,n,P,St,val,rfl,W,hst,hfp,hval,hQ⟩:=h₂
 dsimp only
 split
 ·refine Ac (Gd (Ac (wpAny_mkInt (Ac (An ?_)))))
  refine Ac (forC (Ac (Ih (EK _ _ _) cS ?_)))
  refine An ⟨rfl,forC (Ac (Ih (EK _ _ _) cQ ?_))⟩
  refine An ⟨rfl,forC (Ac (Ih (EK _ _ _) cN ?_))⟩
  refine An ⟨rfl,An ?_⟩
  refine Ac (Eu ?_)
  have hSf:=λhm=>F9 _ (hfp _ hm)
  refine An ⟨Gc J5 _,GI W z val hval s₂.heap.objs.size hSf n 0 _ _ 0 _ (.inl rfl) rfl (Co _)
   (W.frame 0 s₂ _ _ hst (Dw _) λb _ o e=>B6 _ e) (Bp _ rfl) λs' t' hm=>?_⟩
  exact hQ s' t' (hm.drop_new (Dw _))
 ·refine Ac (An ?_)
  refine Ac (forC (Ac (Ih (EK _ _ _) cS ?_)))
  refine An ⟨rfl,forC (Ac (Ih (EK _ _ _) cQ ?_))⟩
  refine An ⟨rfl,forC (Ac (Ih (EK _ _ _) cN ?_))⟩
  refine An ⟨rfl,An ?_⟩
  refine Ac (Eu ?_)
  have hSf:=λhm=>F9 _ (hfp _ hm)
  refine An ⟨Gc J5 _,GI W z val hval s₂.heap.objs.size hSf n 0 _ _ 0 _ (.inr rfl) rfl (Co _)
   (W.frame 0 s₂ _ _ hst (AP _) λb _ o e=>B6 _ e) (Bp _ rfl) λs' t' hm=>?_⟩
  exact hQ s' t' (hm.drop_new (AP _))
end
end
section
open Builtin Builtin.ObjectAttr
section
variable{c:Cx}{d:Nat}{fr:FD}{lo Bv BK:Lo}{H H' EY H1 H2 H3:List AO}
theorem kK:Dp "list.__iter__" =some .slot\/Dp "list.__iter__" =some .method:=⋯
theorem fO:G8 "list.__iter__" =some ("list","__iter__"):=⋯
theorem kL(Cl:Be c)(X:c.K.In s.heap)(T:AR c.m s.heap (CR (.ref x)) (.ref 249))
  (q:Q (.ref s.heap.objs.size) {s with heap:=s.heap.push {cls:=.type "list_iterator",data:=.fields #[.ref x,.int 0 0]}}):Ae c.m A (Fj (.ref x)) Q E s:=by
 have S:AR c.m s.heap (Il (.ref x) "__iter__") (some (.builtin "list.__iter__")):=T.andThen (Dr X Cl.iter)
 refine Ac (S.here ?_)
 refine Ac (BF (Ac (Ac (S.here ?_))))
 refine Ac (wpAny_askSetting (wpAny_ite ?_))
 have fin:∀{refuse:Sem Ad}{Q':Ab Ad->Aj->Prop},Q' (some (.ref s.heap.objs.size)) {s with heap:=s.heap.push {cls:=.type "list_iterator",data:=.fields #[.ref x,.int 0 0]}}->
   Ae c.m A (if (R7 "list.__iter__" ==D1)=true then (refuse>>=λv=>pure (some v)) else (call (.builtin "list.__iter__") [.ref x]>>=λv=>pure (some v))) Q' E s:=by
  intro refuse Q' q'
  refine Ac (SV kK fO slot_list_iter.plain entry_list_iter (args_list_iter _) (Xn Cl X T _ ⋯) ?_)
  show Ae _ _ (do ret (<-newFields "list_iterator" [.ref x,D0 0])) _ _ s
  exact Ac (Eu (An ⟨_,rfl,An q'⟩))
 have nxt:Ae c.m A (Il (.ref s.heap.objs.size) "__next__") (λr s'=>r.isSome=true/\s'={s with heap:=s.heap.push {cls:=.type "list_iterator",data:=.fields #[.ref x,.int 0 0]}}) E {s with heap:=s.heap.push {cls:=.type "list_iterator",data:=.fields #[.ref x,.int 0 0]}}:=
  JZ ⟨_,Bp _ rfl,rfl⟩ JY.lookup ⟨rfl,rfl⟩
 split
 ·refine Ac (An (An (fin ?_)))
  exact Ac (JZ ⟨_,Bp _ rfl,rfl⟩ JY.lookup (An q))
 ·refine WE (Ac (An (An (fin ?_))))
  exact Ac (JZ ⟨_,Bp _ rfl,rfl⟩ JY.lookup (An q))
theorem UM(hit:s.heap.IsListIter it l i)(hol:s.heap.get? l=some ol)(hdl:ol.data=.seq items nl)(hx:items[i]?=some x)
  (hQ:∀h',h'.IsListIter it l (i+1)->Hb it s.heap h'->Q (some x) {s with heap:=h'}):Ae c.m A (pyNext (.ref it)) Q E s:=by
 obtain ⟨o,ho,hc,hd⟩:=id hit
 refine Ac (GZ (Oc hit.typeIs JY
  (GY JY hit.typeIs entry_listiter_next ?_ (args_listiter_next _))))
 show Ae _ _ (field (.ref it) 0>>=_) _ _ s
 refine Ac (DZ ho hd rfl ?_)
 show Ae _ _ (if (Bq l==D1)=true then _ else _) _ _ s
 rw[AD (show ¬ ((Bq l==D1)=true) from BJ)]
 refine Ac (DZ ho hd rfl ?_)
 refine Ac (FR hol hdl ?_)
 simp only[NV,hx]
 refine Ac (RK ho hd (by simp) (An ⟨x,rfl,An (hQ _ ?_ (Ml ..))⟩))
 exact⟨_,Kz _ ho (dq (R4 hd _)),(Obj.cls_mapFields ..).trans hc,by
  rw[R4 hd];simp[D0]⟩
theorem Xz(hh:A.handled=none)(hit:s.heap.IsListIter it l i)(hol:s.heap.get? l=some ol)(hdl:ol.data=.seq items nl)(hx:items[i]?=none)
  (hQ:∀h',Hc it s.heap h'->Q none {s with heap:=h'}):Ae c.m A (pyNext (.ref it)) Q E s:=by
 obtain ⟨o,ho,hc,hd⟩:=id hit
 refine Ac (GZ (Oc hit.typeIs JY
  (GY JY hit.typeIs entry_listiter_next ?_ (args_listiter_next _))))
 show Ae _ _ (field (.ref it) 0>>=_) _ _ s
 refine Ac (DZ ho hd rfl ?_)
 show Ae _ _ (if (Bq l==D1)=true then _ else _) _ _ s
 rw[AD (show ¬ ((Bq l==D1)=true) from BJ)]
 refine Ac (DZ ho hd rfl ?_)
 refine Ac (FR hol hdl ?_)
 simp only[NV,hx]
 refine Ac (Gd (Ac (RK ho hd (by simp) ?_)))
 refine Ac ?_
 refine Ac (Eu ?_ (by size_fits))
 refine Ac (Ci (by first | rfl | (simp only[firstArgMember];rfl)) ?_)
 refine Eu ?_ (by size_fits)
 refine Ac (wpAny_handled ?_)
 rw[hh]
 refine Ac (An (wpAny_throw ?_))
 refine Ac (Ih ⟨_,Bp _ rfl,rfl⟩ isSubtype_stop ?_)
 exact An (hQ _ (((Ml ..).extBut.push _).push _))
theorem kM(hh:A.handled=none)(I ax:Ah)(hne:ax≠I)(ol:Obj)(items:AE Ad)(nl:Nat)(hdl:ol.data=.seq items nl)(Ts:Nat->Ah)(vals:Nat->AE Ad)
  (hit:∀j,j<items.size->items[j]?=some (.ref (Ts j)))(hTI:∀j,j<items.size->Ts j≠I):
  WalksU c.prog c.w A I (I::ax::(Cn items.size).map Ts) [I] items.size (λj v=>j<items.size/\v=vals j)
   (λj h=>h.IsListIter I ax j/\h.get? ax=some ol/\∀k,k<items.size->h.IsTuple (Ts k) (vals k))
   (λj T h=>(j<items.size/\T=Ts j)/\h.IsListIter I ax (j+1)/\h.get? ax=some ol/\∀k,k<items.size->h.IsTuple (Ts k) (vals k)) where
 sub:=λb hb=>by simp at hb;simp[hb]
 frame:=λ_ _ _ st hk=>⟨st.1.at λo e=>hk I (by simp) o e,hk ax (by simp) _ st.2.1,
  λk wq=>(st.2.2 k wq).at λo e=>hk (Ts k) (Ed _ (Ed _ (CD.mpr ⟨k,Fe.mpr wq,rfl⟩))) o e⟩
 item:=λi s Q E hi st hQ=>by
  refine UM st.1 st.2.1 hdl (hit i hi) λh' AaR nT=>?_
  have tup:=λk wq=>(st.2.2 k wq).extBut nT.extBut (hTI k wq)
  exact hQ (Ts i) (vals i) h' s.toks ⟨hi,rfl⟩ (tup i hi) ⟨⟨hi,rfl⟩,AaR,nT.extBut _ _ hne st.2.1,tup⟩ λb o hb e=>nT.extBut b o (λh=>hb (by simp[h])) e
 go:=λ_ _ _ _ _ s Q _ hm hQ=>wpAny_letOwnedTupleGo_listiter hm.2.1 (hQ s.heap hm.2 λ_ _ _ e=>e)
 apart:=λj T _ hm kF=>by
  rcases Bc.mp kF with e | e
  ·exact hTI j hm.1.1 (hm.1.2▸e)
  ·cases e
 done:=λs Q E st hQ=>Xz hh st.1 st.2.1 hdl (by simp) λh' he'=>hQ h' s.toks λb o hb e=>he' b o (λh=>hb (by simp[h])) e
 self:=λ_ _ _ _ st hQ=>Wu st.1 hQ
end
end
section
open Builtin Builtin.ObjectAttr
section
variable{c:Cx}{d:Nat}{fr:FD}{lo Bv BK:Lo}{H H' EY H1 H2 H3:List AO}
theorem kN(F:Bu π H.length fr env)(G:Av c π H s)(hT:(c0,P,qual)∈TL)(hcode:fr.code=.ref c0){Q:Ad->Ah->Aj->Prop}
  (k:∀cv h' tk,Kp no s {s with heap:=h',toks:=tk}->(∀b o,b≠P->s.heap.get? b=some o->h'.get? b=some o)->Q cv C4 {s with heap:=h',toks:=tk}):
  Ae c.m A (genexprCode env pos qual sc) (λcv s₃=>Ae c.m A (builtinsFor env.globals env.builtins) (λbi s₄=>Q cv bi s₄) E s₃) E s:=by
 have hec:=(F.code (by rw[hcode];nofun)).trans hcode
 have T:=G.tabs _ hT
 refine Bl λGG fin=>T.2.elim λps y=>c.names.elim λmg x=>x.elim λmb x=>x.elim λbm x=>x.elim λob x=>fin ?_
 have bf:∀{h':Ay}{tk:Nat}{Q:Ah->Aj->Prop},Kp no s {s with heap:=h',toks:=tk}->Q C4 {s with heap:=h',toks:=tk}->Ae c.m A (builtinsFor env.globals env.builtins) Q E {s with heap:=h',toks:=tk}:=λK q=>by
  have G':=G.DT K
  rw[F.glob]
  exact wpAny_builtinsFor (Ns.up G' x.1) x.2.2.1 x.2.2.2.1 (G'.base.keep _ _ id (c.tabs.D4 x.2.2.2.2.1 (by rw[x.2.2.2.2.2.1];nofun)) x.2.2.2.2.1) x.2.2.2.2.2.1 x.2.2.2.2.2.2.1 x.2.2.2.2.2.2.2 q
 cases tR:Mb pos ps.toList with
 |some cv=>exact wpAny_genexprCode_hit hec (T.1.code y.1 y.2.1) tR (bf (.refl s) (k _ _ _ (.refl s) λb o _ e=>e))
 |none=>exact wpAny_genexprCodeX hec (T.1.code y.1 y.2.1) (T.1.tab y.1) tR λc' h' tk hx _ _ _ hrec htb hself=>
       have K:=Kp.grow hT y.1 hx htb.2 (UC hrec hself)
       bf K (k _ _ _ K hx)
end
end
section
open Builtin Builtin.ObjectAttr
theorem UN(n:Nat):passing (λ_=>true) n 0=Cn n:=by unfold passing;simp
noncomputable def XA(vs:AE Ad)(j:Nat):Ah:=match vs[j]? with | some (.ref T)=>T | _=>0
def MA(h:Ay)(vs:AE Ad)(j:Nat):AE Ad:=match h.get? (XA vs j) with | some o=>(match o.data with | .seq v _=>v | _ => #[]) | none => #[]
def wt(prog:Dq)(w:DG)(A:AG)(a:Ah)(pairs:List (Str×Str))(Fy:Str->Str->Ad->Prop)(s s₅:Aj):Prop:=
 ∃fp wr g St,WalksS prog w A.in4 a fp wr (GenOnlyQ g) pairs.length (λj y=>∃i,(Cn pairs.length)[j]?=some i/\∃p,pairs[i]?=some p/\Fy p.1 p.2 y) St/\St 0 s₅/\(∀i s,St i s->s.TypeIs (.ref a) "generator")/\a∈fp/\(∀b∈fp,b<s₅.heap.objs.size)/\(∀b∈wr,s.heap.get? b=none)/\∃h₄,TabsOk h₄/\(∀b o,h₄.get? b=some o->s₅.heap.get? b=some o)/\∀b∈wr,h₄.get? b=none\/∃o,h₄.get? b=some o/\Jg o
section
variable{c:Cx}{d:Nat}{fr:FD}{lo Bv BK:Lo}{H H' EY H1 H2 H3:List AO}
theorem wu{p:Str×Str}(r:As π n h (.tup [.str p.1,.str p.2]) v):∃T t u,v=.ref T/\h.IsTuple T #[ET p.1 t,ET p.2 u]:=
 r.tup.elim λT q=>q.elim λitems q=>AH q.2.2.2 λx a=>a.elim λw a=>AH a.2.2 λx' b=>b.elim λw' b=>a.2.1.str.elim λt e=>b.2.1.str.elim λu e'=>⟨T,t,u,q.1,by
  have h:items = #[ET p.1 t,ET p.2 u]:=NP.mp (a.1.trans (by rw[b.1,e,e',b.2.2]))
  exact h▸q.2.1⟩
structure qN(h:Ay)(pairs:List (Str×Str))(vs:AE Ad)(j:Nat):Prop where
 val:vs[j]?=some (.ref (XA vs j))
 tup:h.IsTuple (XA vs j) (MA h vs j)
 QK:∃p t u,pairs[j]?=some p/\MA h vs j = #[ET p.1 t,ET p.2 u]
theorem pairAt(hv:Ag π n h (pairs.map λp=>.tup [.str p.1,.str p.2]) vs.toList)(j:Nat)(hj:j<vs.size):qN h pairs vs j:=
 (Ag.qH (λ_ _=>wu) hv j vs[j] (VP hj)).elim λp q=>q.2.elim λT z=>z.elim λt z=>z.elim λu z=>by
  have ev:vs[j]?=some (.ref T):=by rw[VP hj,z.1] at ⊢
  have eT:XA vs j=T:=by unfold XA;rw[ev]
  have eV:MA h vs j = #[ET p.1 t,ET p.2 u]:=z.2.elim λo w=>w.2.2.elim λk hd=>by unfold MA;rw[eT,w.1];show(match o.data with | .seq v _=>v | _ => #[])=_;rw[hd]
  exact⟨eT▸ev,by rw[eT,eV];exact z.2,p,t,u,q.1,eV⟩
theorem qO(Cl:Be c){l dl:Nat}
  (R:A5 d A)(F:Bu π H.length fr env)(G:Av c π H s)(L:Br c π H.length s.heap env.locals lo)(hT:(c0,P,fr.qual++"<genexpr>")∈TL)(hcode:fr.code=.ref c0)(hx:fr.scope.names.lookup x=some .local)(hxd:(x==("__debug__" :Str))=false)(hlo:lo.lookup x=some (.loc l))
  (e:H[l]?=some (.acc dl (pairs.map λp=>.tup [.str p.1,.str p.2])))(hco:sc.isCoroutine=false)(hcl:L6 sc env=pure [])(hcell:∀y∈sc.names,y.2≠.cell)(h0:sc.names.lookup (".0" :Str)=some Sh)(hxa:sc.names.lookup xa=some .local)(hxb:sc.names.lookup xb=some .local)
  (hab:xa≠xb)(hkind:sc.kind=.function)
  (helt:∀(C:Ah)(cv:Ad)(A':AG)(E':EP)(a b:Str)(ta tb:Tok)(s₂:Aj) m₂,A'.handled=none->(a,b)∈pairs->s₂.heap.Ns C m₂->m₂ xa=some (.str a ta)->m₂ xb=some (.str b tb)->(∀(y:Str) v,Glob c.B.heap y v->Glob s₂.heap y v)->
   Ae c.m A' (eval elt (genEnv sc [] C cv C4 env)) (λy s₃=>Fy a b y/\Keeps s₂ s₃) E' s₂)
  (k:∀a s₅,Kp no s s₅->wt c.prog c.w A a pairs Fy s s₅->Q (.ref a) s₅):
  Ae c.m A (eval (.GeneratorExp elt [⟨.Tuple [.Name xa pa,.Name xb pb] kt pt,.Name x ip,[],0⟩] sc pos) env) Q E s:=by
 refine wpAny_GeneratorExp_walksQT R.handled hco hcl hcell h0 hxa hxb hab hkind R.rl ?_ λ_=>rfl
 refine Bl λGG fin=>(O7 L hlo).elim λm q=>q.elim λcv q=>(HI G e).elim λvl y=>y.elim λkk y=>y.elim λsl y=>fin ?_
 refine Ji F.kd (F.kindOf hx) q.1 q.2.1 hxd ?_
 rw[q.2.2.loc.2]
 have ho:=y.1
 refine kL Cl (c.DA G) y.2.2.2 ?_
 have K2:Kp no s {s with heap:=s.heap.push {cls:=.type "list_iterator",data:=.fields #[.ref (π.at' l),.int 0 0]}}:=.BU _
 have G₂:=G.DT K2
 refine⟨c.QF G₂,?_⟩
 rw[F.qual]
 refine kN F G₂ hT hcode λcd h' tk K3 up=>?_
 have PT:=TU _ hT
 have hI:(s.heap.push {cls:=.type "list_iterator",data:=.fields #[.ref (π.at' l),.int 0 0]}).get? s.heap.objs.size=some {cls:=.type "list_iterator",data:=.fields #[.ref (π.at' l),.int 0 0]}:=Bp _ rfl
 have y0:=up _ _ (λq:s.heap.objs.size=P=>G₂.tabs.D4 hI nofun (q▸PT)) hI
 have upP:=λb o hb e=>up b o hb (B6 _ e)
 have upN:=λb o e hc=>upP b o (λq=>G.tabs.D4 e hc (q▸PT)) e
 have hIne:∀{b o},s.heap.get? b=some o->b≠s.heap.objs.size:=λe=>EG (Ew e)
 have qn:=upN _ _ ho nofun
 have hpr:=pairAt y.2.1
 have y3:∀j,j<vl.size->h'.IsTuple (XA vl j) (MA s.heap vl j):=λj hj=>(hpr j hj).tup.elim λo z=>⟨o,upN _ _ z.1 (by rw[z.2.1];nofun),z.2⟩
 have G₄:=G₂.DT K3
 have AaS:=c.QF G₄
 have hsz:=y.2.1.size.trans (AY ..)
 refine⟨s.heap.objs.size,_,_,vl.size,_,_,_,(λ_=>true),(λi y=>∃p,pairs[i]?=some p/\Fy p.1 p.2 y),rfl,
  λA' hA=>kM hA s.heap.objs.size (π.at' l) (hIne ho) ⟨.ref 249,some (π.at' dl),.seq vl kk,sl⟩ vl kk rfl (XA vl) (MA s.heap vl) (λj hj=>(hpr j hj).val) (λj hj=>(hpr j hj).tup.elim λo z=>hIne z.1),?_,?_,?_,AaS,?_,?_,?_⟩
 ·exact λi vals hi=>(hpr i hi.1).QK.elim λp z=>z.elim λt z=>z.elim λu z=>⟨_,_,hi.2.trans z.2⟩
 ·exact⟨⟨_,y0,rfl,rfl⟩,qn,y3⟩
 ·exact λb hb=>(Bc.mp hb).elim (λe=>by rw[e];exact Ew y0) λhb=>(Bc.mp hb).elim (λe=>by rw[e];exact Ew qn) λhb=>(CD.mp hb).elim λj z=>z.2▸(y3 j (Fe.mp z.1)).elim λo w=>Ew w.1
 ·exact λhm=>AH (c.QF G) λmc hn=>F9 _ (CL.mp hm▸hn.1.lt)
 ·intro AeU hup
  refine⟨λA' E' i va vb s₂ m₂ hA hP hn h1 h2 hold=>?_,λA' E' i va vb s₂ m₂ hA hP _ hn h1 h2 hold=>?_⟩
  ·rw[LJ]
   exact An ⟨rfl,_,_,rfl,λb o e=>e⟩
  ·refine(hpr i hP.1).QK.elim λp z=>z.elim λt z=>z.elim λu z=>?_
   have kO:=Ai AE.toList (hP.2.trans z.2)
   obtain rfl:va=.str p.1 t:=(Gk kO).1
   obtain rfl:vb=.str p.2 u:=(Gk (Gk kO).2).1
   refine AJ (helt _ _ A' E' p.1 p.2 t u s₂ m₂ hA (b7 z.1) hn h1 h2 λy v g=>?_) (λy s₃ w=>⟨⟨p,z.1,w.1⟩,w.2⟩) λ_ _ x=>x
   have nsk:∀{a:Ah}{m},c.B.heap.Ns a m->s₂.heap.Ns a m:=λ{a m} hn=>(Ns.pN hn).elim λoa w=>by
    have q1:=G.base.keep _ oa id (c.tabs.Mq w.1 w.2) w.1
    have q2:=upP _ _ (λq:a=P=>G.tabs.Mq q1 w.2 (by rw[q];exact PT)) q1
    exact hn.at' λo' e'=>hold a (Fe.mpr (Ew q2)) (λhm=>hIne q1 (CL.mp hm)) _ (hup _ _ (AQ (w.1.symm.trans e')▸q2))
   exact g.imp λmg g=>g.imp λmb g=>⟨nsk g.1,nsk g.2.1,g.2.2⟩
 ·intro a h₅ tk₅ gs wx IY AaT wy W5 GA
  have K5:Kp no s {s with gens:=s.gens.push gs,toks:=tk₅,heap:=h₅}:=
   (K2.trans K3).trans ⟨λb o _ _ e=>wy b o e,λb o _ e=>⟨o,wy b o e⟩,λb _ vs e=>⟨#[],by rw[wy _ _ e,AE.append_empty]⟩,λT=>T.keeps wy,rfl,λhg=>AllBare.push hg wx⟩
  have hgone:∀b,s.heap.objs.size<=b->s.heap.get? b=none:=λb hb=>Bx _ hb
  have two:∀{b x z:Ah}{Q:Ah->Prop},Q x->Q z->b∈[x,z]->Q b:=λh1 h2 hb=>(Bc.mp hb).elim (λe=>e▸h1) λhb=>CL.mp hb▸h2
  have hpl:passing (λ_=>true) vl.size 0=Cn pairs.length:=by rw[UN,hsz]
  rw[hpl,GV] at W5
  refine k a _ K5 ⟨_,_,_,_,W5,GA,λi s st=>st.1.typeIs,CT ..,λb hb=>?_,λb hb=>two (Q:=λb=>s.heap.get? b=none) (hgone _ (DX (Ew y0))) (hgone _ (AP _)) hb,h',G₄.tabs,wy,λb hb=>two (Q:=λb=>h'.get? b=none\/∃o,h'.get? b=some o/\Jg o) (.inl (Bx _ (AP _))) (.inr ⟨_,y0,.inl ⟨by simp,by simp⟩⟩) hb⟩
  rw[AaT]
  exact(Bc.mp hb).elim (λe=>by rw[e];exact CF _) λhb=>N6 ((Bc.mp hb).elim (λe=>by rw[e];exact IY) λhb=>EH (Fe.mp hb) IY)
end
theorem TabsOk.kept(T:TabsOk h)(hk:∀b o,h.get? b=some o->¬ Jg o->h'.get? b=some o):TabsOk h':=λt ht=>(T t ht).imp (λb o e c d=>hk b o e λq=>q.dM c d) λps e=>hk _ _ e λq=>q.Sp
theorem n4(K:Kp no s s₅)(hm:Moved wr (GenOnlyQ g) s₅ s')(hwr:∀b∈wr,s.heap.get? b=none)(T:TabsOk h₄)(up:∀b o,h₄.get? b=some o->s₅.heap.get? b=some o)
  (hwo:∀b∈wr,h₄.get? b=none\/∃o,h₄.get? b=some o/\Jg o):Kp no s s' where
 keep:=λb o hb ht e=>hm.heap b o (λh=>nomatch (hwr b h).symm.trans e) (K.keep b o hb ht e)
 there:=λb o hb e=>(let ⟨o',e'⟩:=K.there b o hb e;⟨o',hm.heap b o' (λh=>nomatch (hwr b h).symm.trans e) e'⟩)
 tabs:=λb hb vs e=>(let ⟨xs,e'⟩:=K.tabs b hb vs e;⟨xs,hm.heap b _ (λh=>nomatch (hwr b h).symm.trans e) e'⟩)
 tok:=λ_=>T.kept λb o e hno=>hm.heap b o (λh=>by
  exact(hwo b h).elim (λq=>nomatch q.symm.trans e) λq=>q.elim λo' q=>hno (AQ (q.1.symm.trans e)▸q.2)) (up b o e)
 os:=hm.os.trans K.os
 gens:=λG=>hm.gens.bare (K.gens G)
end
section
open Builtin Builtin.ObjectAttr
section
variable{c:Cx}{d:Nat}{fr:FD}{lo Bv BK:Lo}{H H' EY H1 H2 H3:List AO}
theorem lenOf{m}(hk:env.scope.kind=.function)(hl:env.kindOf "len" =some .globalImplicit)(hg:env.globals=DN)(hb:env.builtins=C4)(G:Glob s.heap "len" (.builtin "len"))
  (hx:env.kindOf x=some .local)(hn:s.heap.Ns env.locals m)(hm:m x=some (.str a ta))(hd:(x==("__debug__" :Str))=false)(hnc:∀q r,Expr.Name x p2≠.Starred q r)(hsz:(a.length:Int)<2^60)(q:∀t tk,Q (.int a.length t) {s with toks:=tk}):
  Ae c.m A (eval (.Call (.Name "len" p1) [.Name x p2] [] p3) env) Q E s:=by
 refine Ac (KP hk hl hg hb G ⋯ ?_)
 refine Iy (P:=λ_=>True) rfl (λh _=>⟨.machine,.inr (.inl rfl),.now⟩) ?_
 have em:J4 p3 (G4 [.Name x p2] env)=([Expr.Name x p2].map λe=>eval e env).map λt=>(false,t):=rfl
 rw[em]
 refine Dd rfl ?_
 refine IB (Ji hk hx hn hm hd ?_)
 refine Mk ?_
 refine JX ⟨trivial,?_⟩
 exact P.len_str ((pw [.T (.n .p) (.j (2^60))] (.n (.L (.j (2^63)) (.n .p))) [] [_]) hsz) (q _ _)
def fP(cc:Ah)(gs:List Str)(fi:FI):Aa:=nil (AK fi.scope.names)&&(Bz (lk "self" fi.scope.names) isLocal&&(Bz fi.code (Aw · cc)&&gs.all λx=>Bz (lk x fi.scope.names) OS))
structure XB(cc:Ah)(gs:List Str)(fi:FI):Prop where
 cells:AK fi.scope.names=[]
 ka:fi.scope.names.lookup ("self" :Str)=some .local
 code:fi.code=some cc
 gl:∀x∈gs,fi.scope.names.lookup x=some .globalImplicit
theorem aW(h:fP cc gs fi=true):XB cc gs fi:=
 ⟨Bj (Ax h),S3 (λ_=>DK) (Ax (Am h)),(A0 (Ax (Am (Am h)))).elim λa q=>Cb q.2▸q.1,λx hx=>S3 (λ_=>Jn) (BW.mp (Am (Am (Am h))) x hx)⟩
def fQ(a cc:Ah)(gs:List Str):Aa:=Bz (FT a) λfi=>fP cc gs fi&&fI fi.body
theorem UO(h:fQ a cc gs=true):∃fi b,FT a=some fi/\fi.body=.stmts b/\XB cc gs fi:=(A0 h).elim λfi q=>by
 have h2:=Am q.2
 cases e:fi.body with
 |stmts b=>exact⟨fi,b,q.1,e,aW (Ax q.2)⟩
 |expr _=>rw[e] at h2;cases h2
def scG(sc:BR)(gs:List Str):Aa:=isFun sc.kind&&(!sc.isCoroutine&&(sc.names.all (λp => !EX p.2 && !isFree p.2)&&(Bz (lk ".0" sc.names) isLocal&&(Bz (lk "fws" sc.names) isLocal&&(Bz (lk "part" sc.names) isLocal&&gs.all λx=>Bz (lk x sc.names) OS)))))
structure ScG(sc:BR)(gs:List Str):Prop where
 kind:sc.kind=.function
 co:sc.isCoroutine=false
 cell:∀y∈sc.names,y.2≠.cell
 free:∀y∈sc.names,y.2≠.free
 dot:sc.names.lookup (".0" :Str)=some Sh
 fws:sc.names.lookup ("fws" :Str)=some Sh
 part:sc.names.lookup ("part" :Str)=some Sh
 gl:∀x∈gs,sc.names.lookup x=some .globalImplicit
theorem fR(h:scG sc gs=true):ScG sc gs:=
 have h2:=Am h;have h3:=Am h2;have h4:=Am h3;have h5:=Am h4;have h6:=Am h5
 ⟨Um (Ax h),HN (Ax h2),λy hy q=>(nomatch (HN (Ax (BW.mp (Ax h3) y hy))).symm.trans (Ai EX q)),λy hy q=>(nomatch (HN (Am (BW.mp (Ax h3) y hy))).symm.trans (Ai isFree q)),
  S3 (λ_=>DK) (Ax h4),S3 (λ_=>DK) (Ax h5),S3 (λ_=>DK) (Ax h6),λx hx=>S3 (λ_=>Jn) (BW.mp (Am h6) x hx)⟩
theorem S8(h:∀y∈sc.names,y.2≠.free):L6 sc env=pure []:=by
 unfold L6
 have:∀(l:List (Str×BD))(f:Str×BD->List (Str×Ah)->Sem (Em (List (Str×Ah)))),(∀y∈l,y.2≠.free)->(∀n k cs,k≠.free->f (n,k) cs=pure (.yield cs))->forIn l ([]:List (Str×Ah)) f=pure []:=by
  intro l
  induction l with
  |nil=>intro f _ _;rfl
  |cons p l ih=>
   intro f hl hf
   rw[FP,hf p.1 p.2 [] (hl p (CT ..))]
   exact ih f (λy hy=>hl y (Ed _ hy)) hf
 dsimp -iota only
 rw[this sc.names _ h λn k cs hk=>by simp[hk]]
 rfl
noncomputable abbrev M0(p:Str×Str):AV:=.tup [.str p.1,.str p.2]
theorem PF:Ok (Sr v) λp=>v=M0 p:=Fw.bind λxs e=>Ms.bind λp q=>Cz.bind λx ex=>Cz.bind λy ey=>.some (by rw[e,q,ex,ey])
theorem XC:Ok (YC xs) λn=>∃pairs:List (Str×Str),xs=pairs.map M0/\n=(pairs.map λp=>p.1.length+p.2.length).sum:=(I5 PF).bind λps e=>.some ⟨ps,e,rfl⟩
theorem XD:Ok (YD xs) λn=>∃pairs:List (Str×Str),xs=pairs.map M0/\n=pairs.flatMap λp=>p.1.cps.toList++p.2.cps.toList:=(I5 PF).bind λps e=>.some ⟨ps,e,rfl⟩
theorem HK(z:Int)(l:List Int):∀j,j<=l.length->Cf z (λi=>l.getD i 0) j=z+(l.take j).sum
 |0,_=>(Ei z).symm
 |j+1,hj=>by
  rw[Cf,HK z l j (Wk hj),bR hj,List.sum_append,HG,HU hj,List.sum_singleton,V4] at ⊢
  rfl
theorem AaW:fQ 216 215 ["sum"]=true:=by kernel_rfl!
theorem wz:∃(p:Nat->Pos)(n:Nat)(sc:BR),MZ 216=.stmts [.Return (some (.Call (.Name "sum" (p 0)) [.GeneratorExp (.BinOp (.Call (.Name "len" (p 1)) [.Name "fws" (p 2)] [] (p 3)) .Add (.Call (.Name "len" (p 4)) [.Name "part" (p 5)] [] (p 6)) (p 7)) [⟨.Tuple [.Name "fws" (p 8),.Name "part" (p 9)] n (p 11),.Name "self" (p 12),[],0⟩] sc (p 14),
 .Attribute (.Name "self" (p 15)) "_initial_size" (p 16)] [] (p 17))) (p 18)]/\scG sc ["len"]=true:=⟨pF 216,nF 216 10,sF 216 13,by kernel_rfl!,by kernel_rfl!⟩
theorem AaX:((FT 216).bind λfi=>some (sEq fi.qual "_Accumulator.__len__"))=some true:=by kernel_rfl!
theorem fS(hf:FT a=some fi)(h:((FT a).bind λfi=>some (sEq fi.qual q))=some true):fi.qual=q:=BC (AQ (I3 hf h))
theorem AaY(v:AV)(n wr:Nat)(S:St):((FT 216).bind λfi=>(Cv fi [v] []).bind λbs=>IJ (Au fi n wr) [] S bs)=some ⟨[("self",v)],S⟩:=by kernel_rfl!
theorem XE{dl:Nat}:Ok (YE H dl) λi=>∃es,H[dl]?=some (.dict es)/\es.lookup ("_initial_size" :Str)=some (AV.int i)/\0<=i:=
 dictAt.bind λes hd=>Ok.self.bind λv hv=>Bd.bind λi hi=>.guard λh=>.some ⟨es,hd,hi▸(D8 ..).symm.trans hv,Bi h⟩
theorem XG:∀{pairs:List (Str×Str)}{p:Str×Str},p∈pairs->p.1.length+p.2.length<=(pairs.map λp=>p.1.length+p.2.length).sum
 |q::ps,p,h=>by
  rw[ED,LK]
  exact(Bc.mp h).elim (λe=>e▸BG _ _) λh=>AA (XG h) (H7 _ _)
theorem UP:∀l:List (Str×Str),(l.map λp=>((p.1.length+p.2.length:Nat):Int)).sum=((l.map λp=>p.1.length+p.2.length).sum:Nat)
 |[]=>rfl
 |p::l=>by rw[ED,LK,ED,LK,UP l];rfl
theorem Zj{n i j:Nat}(h:(Cn n)[j]?=some i):i=j:=(NZ.mp h).elim λ_ e=>(Rh ..).symm.trans e |>.symm
theorem Zk(Cl:Be c){l dl:Nat}
  (R:A5 d A)(Sf:XB cc gs' fi)(S:ScG sc gs)(F:Bu π H.length (Au fi n wr) env)(G:Av c π H s)(L:Br c π H.length s.heap env.locals [("self",.loc l)])(hT:(cc,P,fi.qual++".<locals>." ++"<genexpr>")∈TL)
  (e:H[l]?=some (.acc dl (pairs.map M0)))
  (helt:∀(C:Ah)(cv:Ad)(A':AG)(E':EP)(a b:Str)(ta tb:Tok)(s₂:Aj) m₂,A'.handled=none->(a,b)∈pairs->s₂.heap.Ns C m₂->m₂ "fws" =some (.str a ta)->m₂ "part" =some (.str b tb)->(∀(y:Str) v,Glob c.B.heap y v->Glob s₂.heap y v)->
   Ae c.m A' (eval elt (genEnv sc [] C cv C4 env)) (λy s₃=>Fy a b y/\Keeps s₂ s₃) E' s₂)
  (k:∀a s₅,Kp no s s₅->wt c.prog c.w A a pairs Fy s s₅->Q (.ref a) s₅):
  Ae c.m A (eval (.GeneratorExp elt [⟨.Tuple [.Name "fws" pa,.Name "part" pb] kt pt,.Name "self" ip,[],0⟩] sc pos) env) Q E s:=
 qO Cl R F G L hT (by show T7 fi.code=_;rw[Sf.code];rfl) Sf.ka rfl rfl e S.co (S8 S.free) S.cell S.dot S.fws S.part ⋯ S.kind helt k
theorem XH(Fs:Ez c)(Cl:Be c){l dl wr:Nat}{pairs:List (Str×Str)}(e:H[l]?=some (.acc dl (pairs.map M0)))(hd:H[dl]?=some (.dict es))(hes:es.lookup ("_initial_size" :Str)=some (AV.int i))
  (hsz:((pairs.map λp=>p.1.length+p.2.length).sum:Nat)<2^60):DQ c (d+1) H wr (.val (.ref 216)) [.loc l] [] (.int (i+(pairs.map λp=>p.1.length+p.2.length).sum)) H:=by
 intro A π s E cf cargs Gr R hw G rf ra rk
 cases rf.val
 refine Bl λGG fin=>(UO AaW).elim λfi q=>q.elim λb q=>wz.elim λp z=>z.elim λkt z=>z.elim λsc z=>fin ?_
 refine PB Fs q.1 q.2.1 q.2.2.cells (I3 q.1 (AaY _ _ _ _)) R hw G ra λo fd env s₁ π₁ _ _ _ _ hab P₁ F₁ L₁=>?_
 cases I2 q.1 q.2.1 z.1
 have S:=fR z.2
 have n5:Glob c.B.heap "len" (.builtin "len"):=c.gt _ _ rfl
 refine Ig (RB (JA ?_))
 refine Ac (KP F₁.kd (F₁.kindOf (q.2.2.gl "sum" (.head _))) F₁.glob F₁.bi (Glob.up P₁.g (c.gt "sum" (.builtin "sum") rfl)) rfl ?_)
 refine Iy (P:=λ_=>True) rfl (λh _=>⟨.machine,.inr (.inl rfl),.now⟩) ?_
 have ns:∀a b:Expr,D9 [a,b]->J4 (p 17) (G4 [a,b] env)=([eval a env,eval b env]:List (Sem Ad)).map λt=>(false,t):=λa b h=>h env (p 17)
 rw[ns _ _ λ_ _=>rfl]
 refine Dd rfl (IB (Zk (P:=211) (Fy:=λa b y=>∃t,y=J9 (a.length+b.length) t) Cl R.deeper q.2.2 S F₁ P₁.g L₁ (by rw[fS q.1 AaX];decide) e
  (λC cv A' E' a b ta tb s₂ m₂ hA hm hn h1 h2 hgl=>?_) λa s₅ K₅ GX=>?_))
 ·have kP:=CE (XG hm) hsz
  refine wpAny_BinOp (lenOf S.kind (S.gl "len" (.head _)) F₁.glob rfl (hgl _ _ n5) S.fws hn h1 rfl (by nofun) (DB.mpr (CE (BG _ _) kP)) λt tk=>?_)
  exact lenOf S.kind (S.gl "len" (.head _)) F₁.glob rfl (hgl _ _ n5) S.part hn h2 rfl (by nofun) (DB.mpr (CE (H7 _ _) kP)) λt' tk'=>WH ⟨⟨_,rfl⟩,_,_,rfl,λ_ _ e=>e⟩
 ·have G₅:=P₁.g.DT K₅
  refine Bl λGG fin=>(O7 (x:="self") (L₁.DT P₁.g K₅) rfl).elim λm r=>r.elim λcv r=>(MT.of G₅ (.inr ⟨rfl,_,e⟩) hd).elim λm' I=>I.elim λox I=>I.elim λod I=>(I.own Cl.a (.head _) hes).elim λcv2 r2=>r2.2.int.elim λti hti=>Cl.a.mro.elim λcd w=>fin ?_
  refine IB ?_
  rw[arm_eval_Attribute,GD rfl]
  refine Ac (Ji F₁.kd (F₁.kindOf q.2.2.ka) r.1 r.2.1 rfl (Ac (DM (Ac (BF ?_)))))
  rw[r.2.2.loc.2]
  refine fu (c.DA G₅) I.inst Cl.a.ga Cl.a.hk w.1 w.2 (hti▸r2.1) rfl (Ac (Ww (An (Mk (JX ⟨trivial,?_⟩)))))
  refine GX.elim λfp x=>x.elim λyN x=>x.elim λg x=>x.elim λSt x=>x.2.2.2.2.2.2.elim λh₄ y=>?_
  have qP:=x.1.frame 0 s₅ s₅.heap _ x.2.1 (Dw _) λ_ _ _ e=>e
  refine Ql (x.1.in4_1.self 0 _ _ _ qP ⟨a,fp,yN,_,_,_,St,(λj=>(pairs.map λp=>((p.1.length+p.2.length:Nat):Int)).getD j 0),rfl,x.1.in4_1,qP,x.2.2.2.2.1,λj v u=>?_,λs' t' hmv=>?_⟩)
  ·exact u.elim λi' u=>u.2.elim λp u2=>u2.2.imp λt ht=>by
    rw[ht,<-Zj u.1]
    show _=J9 ((pairs.map λp=>((p.1.length+p.2.length:Nat):Int)).getD i' 0) t
    rw[HG,F4,u2.1] at ⊢;rfl
  ·have K:=n4 (K₅.trans .toks) hmv x.2.2.2.2.2.1 y.1 y.2.1 y.2.2
   rw[HK _ _ _ (Bn (AY ..).symm),V9 (Bn (AY ..)),UP]
   exact⟨π₁,P₁.trans (.pure P₁.g K),.mkInt⟩
end
end
section
open Builtin Builtin.ObjectAttr
theorem Aa0:fQ 223 222 ["EMPTYSTRING"]=true:=by kernel_rfl!
theorem wA:∃(p:Nat->Pos)(n:Nat->Nat)(sc:BR),MZ 223=.stmts [.Return (some (.Call (.Attribute (.Name "EMPTYSTRING" (p 0)) "join" (p 1)) [.GeneratorExp (.Call (.Attribute (.Name "EMPTYSTRING" (p 2)) "join" (p 3)) [.Tuple [.Name "fws" (p 4),.Name "part" (p 5)] (n 6) (p 7)] [] (p 8)) [⟨.Tuple [.Name "fws" (p 9),.Name "part" (p 10)] (n 11) (p 12),.Name "self" (p 13),[],0⟩] sc (p 15)] [] (p 16))) (p 17)]/\
 scG sc ["EMPTYSTRING"]=true/\((p 1).endLine==(p 16).line)=true/\((p 3).endLine==(p 8).line)=true:=⟨pF 223,nF 223,sF 223 14,by kernel_rfl!,by kernel_rfl!,by kernel_rfl!,by kernel_rfl!⟩
theorem Aa1:((FT 223).bind λfi=>some (sEq fi.qual "_Accumulator.__str__"))=some true:=by kernel_rfl!
theorem Aa2(v:AV)(n wr:Nat)(S:St):((FT 223).bind λfi=>(Cv fi [v] []).bind λbs=>IJ (Au fi n wr) [] S bs)=some ⟨[("self",v)],S⟩:=by kernel_rfl!
section
variable{c:Cx}{d:Nat}{fr:FD}{lo Bv BK:Lo}{H H' EY H1 H2 H3:List AO}
theorem UQ(hk:env.scope.kind=.function)(hl:env.kindOf x=some .globalImplicit)(hg:env.globals=DN)(hb:env.builtins=C4)
  (G:Glob s.heap x (.str sep ts))(hd:(x==("__debug__" :Str))=false)(hline:(ap.endLine==p3.line)=true)(hns:D9 [arg])(q:Ae c.m A (eval arg env) (λv s'=>Ae c.m A (call (.builtin "str.join") [.str sep ts,v]) Q E s') E s):
  Ae c.m A (eval (.Call (.Attribute (.Name x p1) "join" ap) [arg] [] p3) env) Q E s:=by
 rw[RL,GD rfl]
 refine Ac (KP hk hl hg hb G hd (Ac (DM ?_)))
 have Pz:Og ([arg].length+([]:List EN).length) (J4 p3 (G4 [arg] env)) (Fi p3 (Fh [] env))=true:=by rw[hns env p3];rfl
 have Xv:J0 true (.Name x p1) env ap p3=R9 p3:=by unfold J0;rw[hline];rfl
 unfold L8
 rw[Pz]
 refine Ac (BF (Wz (J1 s sep ts) dh di (MB.ty .join) (by nofun) ?_))
 refine Ac (Ci Xv ?_)
 rw[hns env p3]
 refine Iy (P:=λ_=>True) rfl (λh _=>⟨.machine,.inr (.inl rfl),.now⟩) ?_
 have em:([arg].map λe=>(false,eval e env))=([eval arg env]:List (Sem Ad)).map λt=>(false,t):=rfl
 rw[em]
 refine Dd rfl ?_
 refine IB (AJ q (λv s' h=>?_) λ_ _ x=>x)
 refine Mk ?_
 exact JX ⟨trivial,h⟩
theorem wC(a b:Str):OA "" [a,b]=⟨(a.cps.toList++b.cps.toList).toArray⟩:=(WW _ _:OA "" [a,b]=R5 "" [a,b]).trans (I1 _ _)
theorem n8:∀l:List Str,JC [] l=l.flatMap λx=>x.cps.toList
 |[]=>rfl
 |[x]=>(DW _).symm
 |x::y::r=>Ai (x.cps.toList ++ ·) (n8 (y::r))
theorem kQ(l:List Str):OA "" l=⟨(l.flatMap λx=>x.cps.toList).toArray⟩:=by
 rw[<-n8]
 exact(WW _ _:OA "" l=R5 "" l).trans (I1 _ _)
theorem len_app(a b:Str):(⟨(a.cps.toList++b.cps.toList).toArray⟩ :Str).length=a.length+b.length:=by
 show(a.cps.toList++b.cps.toList).toArray.size=a.cps.size+b.cps.size
 rw[LD,BP,Dt,Dt]
theorem UR:∀pairs:List (Str×Str),(pairs.flatMap λp=>p.1.cps.toList++p.2.cps.toList).length=(pairs.map λp=>p.1.length+p.2.length).sum
 |[]=>rfl
 |p::l=>by
  rw[List.flatMap_cons,BP,UR l,ED,LK,BP,Dt,Dt]
  rfl
noncomputable abbrev qQ(p:Str×Str):Str:=⟨(p.1.cps.toList++p.2.cps.toList).toArray⟩
theorem qR{pairs:List (Str×Str)}(hlen:lt.length=pairs.length)(h:∀(j:Nat) y,(strValues lt).toArray[j]?=some y->∃i:Nat,(Cn pairs.length)[j]?=some i/\∃p:Str×Str,pairs[i]?=some p/\∃t,y=ET (qQ p) t):lt.map (·.1)=pairs.map qQ:=by
 apply List.ext_getElem?
 intro j
 rw[F4,F4] at ⊢
 cases hj:lt[j]? with
 |none=>rw[H4 (hlen▸bT.mp hj)] at ⊢;rfl
 |some q=>
  exact(h j (.str q.1 q.2) (by show(lt.map _).toArray[j]?=_;rw[List.getElem?_toArray,F4,hj] at ⊢;rfl)).elim λi u=>u.2.elim λp v=>v.2.elim λt e=>by
   rw[<-Zj u.1,v.1]
   exact Ai some (by injection e)
theorem XJ(Fs:Ez c)(Cl:Be c)(hes:Glob c.B.heap "EMPTYSTRING" (.str "" tE)){l dl wr:Nat}{pairs:List (Str×Str)}(e:H[l]?=some (.acc dl (pairs.map M0)))(hsz:(pairs.map λp=>p.1.length+p.2.length).sum<=100000)(hsz2:pairs.length<=1000):
  DQ c (d+1) H wr (.val (.ref 223)) [.loc l] [] (.str ⟨(pairs.flatMap λp=>p.1.cps.toList++p.2.cps.toList).toArray⟩) H:=by
 intro A π s E cf cargs Gr R hw G rf ra rk
 cases rf.val
 refine Bl λGG fin=>(UO Aa0).elim λfi q=>q.elim λb q=>wA.elim λp z=>z.elim λn z=>z.elim λsc z=>fin ?_
 refine PB Fs q.1 q.2.1 q.2.2.cells (I3 q.1 (Aa2 _ _ _ _)) R hw G ra λo fd env s₁ π₁ _ _ _ _ hab P₁ F₁ L₁=>?_
 cases I2 q.1 q.2.1 z.1
 have S:=fR z.2.1
 refine Ig (RB (JA ?_))
 refine UQ F₁.kd (F₁.kindOf (q.2.2.gl "EMPTYSTRING" (.head _))) F₁.glob F₁.bi (Glob.up P₁.g hes) rfl z.2.2.1 (λ_ _=>rfl) ?_
 refine Zk (P:=218) (Fy:=λa b y=>∃t,y=ET (qQ (a,b)) t) Cl R.deeper q.2.2 S F₁ P₁.g L₁ (by rw[fS q.1 Aa1];decide) e (λC cv A' E' a b ta tb s₂ m₂ hA hm SN h1 h2 hgl=>?_) λa s₅ K₅ GX=>?_
 ·have kP:=AA (XG hm) hsz
  refine UQ S.kind (S.gl "EMPTYSTRING" (.head _)) F₁.glob rfl (hgl _ _ hes) rfl z.2.2.2 (λ_ _=>rfl) (Tuple_ ?_)
  have ns2:∀(pp:Pos)(a b:Expr)(env:Env),D9 [a,b]->J4 pp (G4 [a,b] env)=[(false,eval a env),(false,eval b env)]:=λpp a b env h=>h env pp
  rw[ns2 _ _ _ _ λ_ _=>rfl]
  refine IB (Ji S.kind S.fws SN h1 rfl (IB (Ji S.kind S.part SN h2 rfl (Mk (LV ?_ (by show 2<=BY;decide))))))
  exact join_tupleC ⟨_,Bp _ rfl,rfl,0,rfl⟩ (.cons _ _ (.cons _ _ .nil)) ⋯ (by simp;exact(pw [.l (.A .p .q) (.k 100000)] (.l (.A .p .q) (.k 16777088)) [] [_,_]) kP) λt' k=>⟨⟨t',by rw[wC]⟩,_,_,rfl,λb o e=>B6 _ e⟩
 ·refine GX.elim λfp x=>x.elim λyN x=>x.elim λg x=>x.elim λSt x=>x.2.2.2.2.2.2.elim λh₄ y=>?_
  refine SC.joinGen x.1.in4_2 x.2.2.1 x.2.1 x.2.2.2.2.1 x.2.2.2.1 (λi v u=>u.elim λi' u=>u.2.elim λp u=>u.2.elim λt hv=>⟨_,t,hv⟩) (λs' lt hmv hit=>?_) (by unfold BY;exact(pw [.l .p (.k 1000)] (.l .p (.k (2^24))) [] [_]) hsz2)
  have hl:=qR (by have h:=hit.1;rw[LD] at h;exact(AY ..).symm.trans h) hit.2
  have Aa3:((lt.map (·.1)).map (·.length)).sum=(pairs.map λp=>p.1.length+p.2.length).sum:=by
   rw[hl,F8]
   exact Ai List.sum (LA λp _=>len_app _ _)
  refine⟨joinOk_of (by rw[Aa3];exact(pw [.l .p (.k 100000)] (.l (.A .p (.R .q 0)) (.k 16777216)) [] [_,_]) hsz),λt' k=>?_⟩
  have K:=n4 K₅ hmv x.2.2.2.2.2.1 y.1 y.2.1 y.2.2
  rw[hl,kQ,List.flatMap_map]
  exact⟨π₁,P₁.trans (.pure P₁.g (K.trans .toks)),.mkStr⟩
end
end
section
open Builtin Builtin.ObjectAttr
structure US(c:Cx):Prop where
 mkL:PD c.K=true
 mkO:makesIn c.K 165=true
 inO:A7 c.K (.ref 165) "__init__" =some (some (.ref 106))
 tyO:EU c.K (.ref 106)=some (.type "function")
 wD:EU c.K (.ref 216)=some (.type "function")
 wF:EU c.K (.ref 223)=some (.type "function")
 es:∃t,Glob c.B.heap "EMPTYSTRING" (.str "" t)
section
variable{c:Cx}{d:Nat}{fr:FD}{lo Bv BK:Lo}{H H' EY H1 H2 H3:List AO}
theorem MU{l dl wr:Nat}(e:H[l]?=some (.acc dl xs))(hf:A7 c.K (.ref 249) name=some (some (.ref f)))(ht:EU c.K (.ref f)=some (.type "function"))
  (hc:DQ c d H wr (.val (.ref f)) [.loc l] [] r H')(R:A5 d A)(hw:wr<=H.length)(G:Av c π H s)(k:∀cv s' π',PG c wr none π H s H' π' s'->As π' H'.length s'.heap r cv->Q (some cv) s'):
  Ae c.m A (callSpecial? (.ref (π.at' l)) name []) Q E s:=by
 have X:=c.DA G
 refine Bl λGG fin=>(HI G e).elim λvl y=>y.elim λkk y=>y.elim λsl y=>fin ?_
 refine Ac (Ac (y.2.2.2.here ((Dr X hf).here (BF (Ac ((bind_fn X _ ht).here (Ac ?_)))))))
 exact AJ (hc A π s E (.ref f) [.ref (π.at' l)] [] R hw G .FW (.cons (As.Za (G.lt e)) .nil) .nil) (λcv s' q=>q.elim λπ' q=>An (k cv s' π' q.1 q.2)) λ_ _ x=>x
theorem Zl{l dl wr:Nat}(Ao:US c)(Cl:Be c)(e:H[l]?=some (.acc dl xs))(hn: 0<=n/\n<2^60)(hc:DQ c d H wr (.val (.ref 216)) [.loc l] [] (.int n) H)(R:A5 d A)(hw:wr<=H.length)(G:Av c π H s)
  (k:∀t s' π',PG c wr none π H s H π' s'->Q (.done (.ret (.int n t))) s'):Ae c.m A (Bo.«len» ⟨[.ref (π.at' l)],[]⟩) Q E s:=by
 refine Ac (An (Ac (MU e Cl.len Ao.wD hc R hw G λcv s' π' P rv=>rv.int.elim λt ht=>?_)))
 subst ht
 refine Ac (BF (An (Ac (L4 ?_))))
 rw[AD (DD.mpr hn.1)]
 rw[AD (Fd.mpr (V7 hn.2 ⋯))]
 exact Ac (wpAny_mkInt (An (k _ _ π' (P.DT .toks))))
theorem Zm(Fs:Ez c)(Cl:Be c){l dl wr:Nat}(e:H[l]?=some (.acc dl xs)):Ok (aa H (.acc dl xs)) λn=>0<=n/\n<2^60->DQ c (d+1) H wr (.val (.ref 216)) [.loc l] [] (.int n) H:=
 XE.bind λi hi=>XC.bind λn hn=>.some λh=>hi.elim λes hi=>hn.elim λpairs hn=>by
  have e':=e
  rw[hn.1] at e'
  rw[hn.2] at h ⊢
  exact XH Fs Cl e' hi.1 hi.2.1 (DB.mp (V1 (Int.le_add_of_nonneg_left hi.2.2) h.2))
theorem Cj.qT(Ao:US c)(Cl:Be c){l dl wr:Nat}(e:H[l]?=some (.acc dl xs))(hsz: 0<=n/\n<2^60)(hc:DQ c (d+1) H wr (.val (.ref 216)) [.loc l] [] (.int n) H):Cj c (d+2) H wr "len" [.loc l] (.int n) H:=.one λA π s E ca R hw G ra=>by
 rw[ra.loc.2]
 exact call_function_entry kind_len plain_len entry_len (args_len1 _) (Zl Ao Cl e hsz hc R.in1 hw G λt s' π' P=>⟨_,rfl,π',P,.mkInt⟩)
def MC(c:Cx)(d:Nat)(H:List AO)(a:AV)(r:Aa):Prop:=
 ∀(A:AG)(π:Pl)(s:Aj)(E:EP)(ca:Ad),A5 d A->Av c π H s->As π H.length s.heap a ca->
  Ae c.m A (truthy ca) (λb s'=>∃π',PG c H.length none π H s H π' s'/\b=r) E s
theorem n9(n:Int):(n !=0)=decide (n≠0):=by
 by_cases q:n=0
 ·rw[q];rfl
 ·rw[AU q];exact bne_iff_ne.mpr q
theorem qU(Ao:US c)(Cl:Be c){l dl:Nat}(e:H[l]?=some (.acc dl xs))(hsz: 0<=n/\n<2^60)(hc:DQ c (d+1) H H.length (.val (.ref 216)) [.loc l] [] (.int n) H):MC c (d+2) H (.loc l) (decide (n≠0)):=by
 intro A π s E ca R G ra
 rw[ra.loc.2]
 have X:=c.DA G
 refine Bl λGG fin=>(HI G e).elim λvl y=>y.elim λkk y=>y.elim λsl y=>fin ?_
 have hB:AR c.m s.heap (Il (.ref (π.at' l)) "__bool__") none:=y.2.2.2.andThen (Dr X Cl.bool)
 have hL:AR c.m s.heap (Il (.ref (π.at' l)) "__len__") (some (.ref 216)):=y.2.2.2.andThen (Dr X Cl.len)
 unfold truthy
 refine Ac (Ac (hB.here (An ?_)))
 refine Ac (hL.here ?_)
 refine Ac (wpAny_runValue (LU entry_len ?_))
 rw[Ka plain_len _]
 refine AJ (Zl (Q:=λfin s'=>∃t π',fin=.done (.ret (.int n t))/\PG c H.length none π H s H π' s') Ao Cl e hsz hc R.in1 (AP _) G λt s' π' P=>⟨t,π',rfl,P⟩) (λfin s' h=>h.elim λt h=>h.elim λπ' h=>?_) λ_ _ x=>x
 rw[h.1]
 exact An ⟨π',h.2,n9 n⟩
theorem qV(Ao:US c)(Fs:Ez c)(Cl:Be c){l dl wr:Nat}{pairs:List (Str×Str)}(e:H[l]?=some (.acc dl (pairs.map M0)))(hsz:(pairs.map λp=>p.1.length+p.2.length).sum<=100000)(hsz2:pairs.length<=1000):
  wj c (d+4) H wr "str" [.loc l] (.str ⟨(pairs.flatMap λp=>p.1.cps.toList++p.2.cps.toList).toArray⟩) H:=λA π s E cargs R hw G ra=>AH ra λv ra=>ra.elim λws ra=>by
 rw[ra.1,ra.2.2,ra.2.1.loc.2]
 refine Bl λGG fin=>(HI G e).elim λvl y=>y.elim λkk y=>y.elim λsl y=>(G.ex _ (G.mem dl y.2.2.1)).elim λo2 z=>Ao.es.elim λtE hes=>fin ?_
 have I:InstAt s.heap (π.at' l) _ 249 (some o2):=⟨y.1,rfl,rfl,z.1⟩
 refine kso_call (R.in1.in1.cl) (c.DA G) I Cl.str (beq_iff_eq.mpr Ao.wF) ?_
 exact AJ (XJ Fs Cl hes e hsz hsz2 A.in1.in1 π s E (.ref 223) [.ref (π.at' l)] [] (R.in1.in1.le (Dw _)) hw G .FW (.cons (As.Za (G.lt e)) .nil) .nil) (λcv s' q=>q.elim λπ' q=>q.2.str.elim λt ht=>ht▸⟨π',q.1,.mkStr⟩) λ_ _ x=>x
theorem MC.of(h:Gq c d H a r):MC c d H a r:=λA π s E ca R G ra=>AJ (h A π s E ca R G ra) (λb s' h=>⟨π,.pure G h.1,h.2⟩) λ_ _ x=>x
theorem Jv.plainQ(he:Bt c d fr lo H e a H1)(ht:MC c d H1 a b)
  (hp:∀env whole,RP e env whole=(do let v <-whole;standAt e.pos;holding [v] (truthy v))):Jv c d fr lo H e b H1:=by
 intro A env π s E R F G L
 refine isTrue_plain (he.use R F G L λca s₁ π₁ P₁ F₁ L₁ r₁=>?_) (hp env _)
 exact AJ (ht A π₁ s₁ E ca R P₁.g r₁) (λb' s₂ h=>h.imp λπ₂ h=>⟨P₁.trans (h.1.Kj F₁.wr),h.2⟩) λ_ _ e=>e
theorem Bt.Aa4(he:Bt c d fr lo H e a H1)(ht:MC c d H1 a b):Bt c d fr lo H (.UnaryOp .Not e p) (.bool (!b)) H1:=by
 intro A env π s E R F G L
 rw[arm_eval_UnaryOp]
 refine Ac (he.use R F G L λca s₁ π₁ P₁ F₁ L₁ r₁=>Ac (DM (BF ?_)))
 refine BF ?_
 exact Ac (AJ (ht A π₁ s₁ E ca R P₁.g r₁) (λb' s₂ h=>An (h.imp λπ₂ h=>⟨P₁.trans (h.1.Kj F₁.wr),by rw[h.2];rfl⟩)) λ_ _ e=>e)
end
end
section
open Builtin Builtin.ObjectAttr
structure CG(c:Cx):Prop where
 fns:Ez c
 cls:Be c
 sup:JI c
 acc:US c
theorem M1:∀{x y:List Char},x.map Char.toNat=y.map Char.toNat->x=y
 |[],[],_=>rfl
 |[],_::_,h=>nomatch h
 |_::_,[],h=>nomatch h
 |a::x,b::y,h=>by
  have h:=Gk h
  rw[M1 h.2,Char.ext (UInt32.toNat_inj.mp h.1)]
theorem Hn(h:Gi a=Gi b):a=b:=by
 rw[du,du] at h
 exact A3.ext (M1 (Ai (λx:Str=>x.cps.toList) h))
section
variable{c:Cx}{d:Nat}{fr:FD}{lo Bv BK:Lo}{H H' EY H1 H2 H3:List AO}
theorem Zn(hl:s.heap.IsList b vs)(hv:Ag π n s.heap xs vs.toList)(hsz:xs.length<100000)(q:∀tk,Q (T2 xs) {s with toks:=tk}):Ae c.m A (truthy (.ref b)) Q E s:=by
 have hs:=hv.size
 refine wpAny_truthy_list hl ((pw [.t .p (.k 100000),.e .q .p] (.T (.n .q) (.j (2^63))) [] [_,_]) hsz hs) ?_
 have e:(!vs.isEmpty)=T2 xs:=by
  induction xs using B9 with
  |nil=>rw[VO hs];rfl
  |cons x xs=>rw[show vs.isEmpty=false from Ct λw=>nomatch w.symm.trans hs];rfl
 rw[e]
 exact q _
theorem Zo(BS:CG c):Ok (ph S a) (MC c (d+2) S.H a):=by
 induction a using AV.casesOn with
 |val v=>
  induction v using R6 with
  |bool b=>exact .some (.of Gq.bool)
  |none=>exact .some (.of Gq.none)
  |_=>exact .none
 |int i=>exact .some (n9 i▸.of Gq.int)
 |str x=>exact .guard λh=>.some (.of λA π s E ca R G ra=>ra.str.elim λt e=>by
   subst e
   refine P.truthy_str (by have h:=Bi h;exact(pw [.t .p (.k (2^20))] (.n (.L (.j (2^63)) (.n .p))) [] [_]) h) ⟨.toks,?_⟩
   have e:x.length=x.cps.toList.length:=(Dt ..).symm
   rw[e]
   rcases x.cps.toList with ⟨⟩<;>rfl)
 |lst xs=>exact .guard λh=>.some (.of λA π s E ca R G ra=>ra.lst.elim λb q=>q.elim λvs q=>by
   rw[q.1]
   exact Zn q.2.1 q.2.2.2 (Bi h) λtk=>⟨.toks,rfl⟩)
 |loc l=>
  refine Ok.self.bind λo hH=>?_
  induction o using AO.casesOn with
  |list xs=>exact .guard λh=>.some (.of λA π s E ca R G ra=>(G.objs l _ hH).elim λvs q=>q.elim λk q=>by
    rw[ra.loc.2]
    exact Zn ⟨_,q.1,rfl,_,rfl⟩ q.2 (Bi h) λtk=>⟨.toks,rfl⟩)
  |acc dl xs=>exact(Zm BS.fns BS.cls hH).bind λn hc=>.guard λh=>.some (qU BS.acc BS.cls hH (Bi h) (hc (Bi h)))
  |_=>exact .none
 |_=>exact .none
theorem kT(BS:CG c):Ok (TZ H a) λn=>0<=n/\n<2^60->Cj c (d+2) H wr "len" [a] (.int n) H:=by
 induction a using AV.casesOn with
 |str x=>exact .some λh=>.qI h.2
 |tup xs=>exact .some λh=>.qJ h.2
 |lst xs=>exact .some λh=>.Zi (Bs _ rfl) h.2
 |loc l=>
  refine Ok.self.bind λo hH=>?_
  induction o using AO.casesOn with
  |list xs=>exact .some λh=>.Zi (Bs _ (by show(H[l]?).bind CW=_;rw[hH];rfl)) h.2
  |acc dl xs=>exact(Zm BS.fns BS.cls hH).mono λn hc h=>.qT BS.acc BS.cls hH h (hc h)
  |_=>exact .none
 |_=>exact .none
theorem kU(BS:CG c):Ok (ux as S) (aR c (d+2) wr S "len" as):=BE.bind λa e=>(kT BS).bind λn hc=>.some (e▸AX.need λh=>hc (Bi h))
theorem kW(BS:CG c):Ok (uA (Gi fs) as S) (aR c (d+2) wr S fs as):=by
 have nm:∀{g:A3},sEq (Gi fs) (Gi g)=true->fs=g:=λq=>Hn (BC q)
 refine .cond (λh=>nm h▸kU BS) λ_=>.cond (λh=>nm h▸kE) λ_=>.cond (λh=>nm h▸UK) λ_=>.cond (λh=>nm h▸UK) λ_=>
  .cond (λh=>nm h▸kH) λ_=>.cond (λh=>nm h▸aS) λ_=>.none
theorem kX(BS:CG c):Ok (uB as S) (qK c (d+4) wr S "str" as):=
 BE.bind λa e=>Ey.bind λl el=>SI.bind λp hp=>XD.bind λx hx=>.guard λh=>.some (hx.elim λpairs hx=>by
  subst e el
  have h1:=Bm (Ax h)
  have h2:=Bm (Am h)
  rw[hx.1] at hp h2
  rw[hx.2] at h1 ⊢
  exact AX.mk (qV BS.acc BS.fns BS.cls hp (UR pairs▸h1) (AY (f:=M0)▸h2)))
theorem kY(BS:CG c):Ok (uC (Gi fs) as S) (qK c (d+4) wr S fs as):=by
 have nm:∀{g:A3},sEq (Gi fs) (Gi g)=true->fs=g:=λq=>Hn (BC q)
 exact .cond (λh=>nm h▸aT) λ_=>.cond (λh=>nm h▸kX BS) λ_=>.none
end
end
section
open Builtin Builtin.ObjectAttr
section
variable{c:Cx}{d d':Nat}{fr:FD}{lo Bv BK:Lo}{H H' EY H1 H2 H3:List AO}
theorem DQ.le(h:DQ c d H wr f as ks r H')(hd:d<=d'):DQ c d' H wr f as ks r H':=λA π s E cf ca ck R=>h A π s E cf ca ck (R.le hd)
theorem Bt.le(h:Bt c d fr lo H e v H')(hd:d<=d'):Bt c d' fr lo H e v H':=λA env π s E R=>h A env π s E (R.le hd)
theorem Jv.le(h:Jv c d fr lo H e v H')(hd:d<=d'):Jv c d' fr lo H e v H':=λA env π s E R=>h A env π s E (R.le hd)
theorem IT.le(h:IT c d fr lo H e v H')(hd:d<=d'):IT c d' fr lo H e v H':=λA env π s E R=>h A env π s E (R.le hd)
theorem E9.le{st:Az}(h:E9 c d fr lo H st fl Bv H')(hd:d<=d'):E9 c d' fr lo H st fl Bv H':=λA env π s E R=>h A env π s E (R.le hd)
def Zp(c:Cx)(d:Nat)(r:Ev):Prop:=∀{f:A3}{as:List AV}{ks:List (Str×AV)}{wr:Nat}{S:St},Ok (nj r (Gi f) as ks S) (nG c (d+4) wr S (.val (.builtin f)) as ks)
def Zq(c:Cx)(d:Nat)(wr:Nat)(S:St)(k:Sy)(o:AV)(as:List AV)(x:Rt AV):Prop:=AX S x.S (DQ c d S.H wr (.val (IZ k)) (o::as) [] x.v x.S.H)
theorem KV:Ok (HH wr S l o) λx=>wr<=l/\x=⟨.none,S.on (S.H.set l o)⟩:=Jj.bind λS' q=>.some ⟨q.1,by rw[q.2]⟩
theorem Zq.bl(h:AX S x.S (Cj c d S.H wr b.id (o::as) x.v x.S.H)):Zq c d wr S (.bi b) o as x:=AX.imp h Cj.NA
theorem lt5(h:n<=1000):n<100000:=CE h ⋯
theorem kZ(Cl:Be c)(e:S.H[l]?=some ob):Ok (jD wr S l v ob) λx=>AX S x.S (Cj c d S.H wr "list.append" [.loc l,v] x.v x.S.H):=by
 induction ob using AO.casesOn with
 |list xs=>exact .guard λh=>KV.mono λx q=>q.2▸AX.mk (.append e (lt5 (Bm h)) q.1)
 |acc dl xs=>exact .guard λh=>KV.mono λx q=>q.2▸AX.mk (.aL Cl e (lt5 (Bm h)) q.1)
 |_=>exact .none
theorem fT(Cl:Be c):Ok (nk wr b o as S) (Zq c d wr S (.bi b) o as):=by
 cases b with
 |append=>exact Ey.bind λl hl=>BE.bind λv hv=>Ok.self.bind λob e=>(kZ Cl e).mono λx i=>hl▸hv▸Zq.bl i
 |extend=>exact Ey.bind λl hl=>BE.bind λv hv=>listAt.bind λxs e=>Bs.bind λys hy=>.guard λh=>KV.mono λx q=>hl▸hv▸q.2▸Zq.bl (AX.mk (.extend e hy (Bm h) q.1))
 |insert=>
  exact Ey.bind λl hl=>Ms.bind λp hp=>Bd.bind λi hi=>listAt.bind λxs e=>.guard λh=>KV.mono λx q=>by
        rw[hl,hp,hi,q.2]
        exact Zq.bl (AX.mk (.insert e (Bi h) q.1))
 |Hj=>
  refine BE.bind λv hv=>Cz.bind λx hx=>?_
  induction o using AV.casesOn with
  |lst xs=>exact UG.bind λys hy=>Y5.bind λi hi=>.guard λh=>.some (by rw[hv,hx];exact Zq.bl (AX.mk (.Hj hy hi (Bi h))))
  |_=>exact .none
 |join=>exact Cz.bind λx hx=>BE.bind λv hv=>Bs.bind λxs hl=>QR.bind λys hy=>.guard λh=>.some (by rw[hx,hv];exact Zq.bl (AX.mk (.join hl hy (Bi h))))
 |split=>exact Cz.bind λx hx=>BE.bind λv hv=>Cz.bind λy hy=>BE.bind λch hc=>.guard λh=>.some (by rw[hx,hv,hy];exact Zq.bl (AX.mk (.split hc (Bi h))))
 |Kf=>exact Cz.bind λx hx=>BE.bind λv hv=>Cz.bind λy hy=>Ok.self.bind λi hi=>.some (by rw[hx,hv,hy];exact Zq.bl (AX.mk (.Kf hi)))
 |isspace=>exact Cz.bind λx hx=>.guard λh=>.some (by rw[hx,Bj h];exact Zq.bl (AX.mk .isspace))
 |Kg=>exact Bd.bind λi hi=>.guard λh=>.some (by rw[hi,Bj h];exact Zq.bl (AX.mk .Kg))
theorem k4(BS:CG c):Ok (uE wr l as S) (Zq c (d+2) wr S .pop (.loc l) as):=SI.bind λp hp=>.guard λh=>by
 have hsh:=Ax (Am h)
 have hsz:=Bm (Am (Am h))
 have run:=λhw=>kz (d:=d) (wr:=wr) BS.fns BS.cls BS.sup hp hsh hsz hw
 rw[Bj (Ax h)]
 unfold qx qy at run
 cases hx:p.2.getLast? with
 |none=>rw[hx] at run;exact .some (AX.mk (run (.inl rfl)))
 |some v=>rw[hx] at run;exact Jj.bind λS' q=>.some (q.2▸AX.mk (run (.inr q.1)))
theorem fU(BS:CG c)(Sd:Bk c d r):Ok (IL r wr k o as S) (Zq c (d+4) wr S k o as):=by
 cases k with
 |fn a=>exact Ok.self.bind λfi hf=>(SU BS.fns Sd hf).mono λx i=>AX.imp i (·.le (BG _ 3))
 |pop=>exact Ey.bind λl hl=>(k4 BS).mono λx i=>hl▸AX.imp i (·.le (BG _ 2))
 |parts=>
  exact Ey.bind λl hl=>SI.bind λp hp=>.guard λh=>.some (by
        rw[hl,Bj (Ax h)]
        exact AX.mk ((QU BS.fns BS.cls BS.sup hp).le (BG _ 3)))
 |bi b=>exact fT BS.cls
theorem fV:Ok (nf v) λk=>v=.BI k:=by rcases v with ⟨⟩<;>first | exact .none | exact .some rfl
theorem fW:Ok (nh v) λt=>v=.Gw t.1 t.2.1 t.2.2:=by rcases v with ⟨⟩<;>first | exact .none | exact .some rfl
theorem UT(BS:CG c)(Sd:Bk c d r)(So:Zp c d r):Ok (A9 r wr f as ks S) (nG c (d+4) wr S f as ks):=by
 have le:∀{d1:Nat}{f:AV}{as:List AV}{ks:List (Str×AV)}{x:Rt AV},d1<=d+4->nG c d1 wr S f as ks x->nG c (d+4) wr S f as ks x:=λh i=>AX.imp i (·.le h)
 induction f using AV.casesOn with
 |val v=>
  induction v using R6 with
  |ref a=>
   refine .cond (λh=>.guard λhk=>?_) λ_=>.cond (λh=>.guard λhk=>?_) λ_=>.cond (λh=>Bj (Am h)▸(aA BS.fns Sd).mono λx i=>le (BG _ 3) i) λ_=>Ok.self.bind λfi hf=>(SU BS.fns Sd hf).mono λx i=>le (BG _ 3) i
   ·rw[Cb h,Bj hk]
    exact(aP BS.fns BS.acc.mkO BS.acc.inO BS.acc.tyO Sd).mono λx i=>le (BG _ 2) i
   ·rw[Cb h,Bj hk]
    exact BE.bind λv hv=>.some (hv▸AX.mk ((kD BS.fns BS.cls BS.sup BS.acc.mkL).le (BG _ 2)))
  |builtin n=>exact .cond (λh=>Bj h▸(kW BS).mono λx i=>le (BG _ 2) (AX.imp i Cj.NA)) λ_=>So
  |type n=>exact .guard λh=>Bj h▸(kY BS).mono λx i=>AX.imp i wj.NA
  |_=>exact .none
 |BI k=>exact(Un Sd).mono λx i=>le (BG _ 3) i
 |_=>exact .none
end
end
section
variable{c:Cx}{d:Nat}{fr:FD}{lo Bv BK:Lo}{H H' EY H1 H2 H3:List AO}
theorem fX(G:Av c π H s)(hw:wr<=H.length)(r:Ag π H.length s.heap xs vs):
  FV c wr π H s (.loc H.length) (H++[.list xs]) (.ref s.heap.objs.size) {s with heap:=s.heap.push {cls:=.type "list",data:=.seq vs.toArray k}}:=
 have K:Kp no s {s with heap:=s.heap.push {cls:=.type "list",data:=.seq vs.toArray k}}:=.BU _
 have g:=Bp _ rfl
 have ha:=Bx s.heap (AP _)
 ⟨_,PG.add G hw K ha ⟨vs.toArray,k,g,r.step (K.En G.tabs .no .no (Dw _) (λ_ h=>Eo h) (er ha))⟩ ⟨_,g,CZ⟩,by rw[BP];exact CF _,Ai Bq D7.symm⟩
theorem Bt.k5(h:IT c d fr lo H es vs H1)(hst:D9 es)(hsz:vs.length<=BY):Bt c d fr lo H (.List es p) (.loc H1.length) (H1++[.list vs]):=by
 intro A env π s E R F G L
 have hh:=h A env π s E R F G L
 rw[<-hst env p] at hh
 refine List_ (AJ hh (λcvs s₁ h=>h.elim λπ₁ q=>Oi ((fX q.1.g (AA F.wr q.1.le) q.2).imp λπ₂ z=>⟨q.1.trans z.1,z.2⟩) (by rw[q.2.length];exact hsz)) λ_ _ e=>e)
theorem Bt.wG(hl:Bt c d fr lo H l a H1)(hr:Bt c d fr lo H1 r b H2)(ho:CO c d H2 op a b t)(hm':Oh op' r'=false)
  (hT:t=true->∃e,Bt c d fr lo H2 r' e H3/\CO c d H3 op' b e v)(hF:t=false->v=false/\H3=H2):Bt c d fr lo H (.Compare l [op,op'] [r,r'] p) (.bool v) H3:=by
 intro A env π s E R F G L
 refine Compare_chain (hl.use R F G L λca s₁ π₁ P₁ F₁ L₁ r₁=>?_) (by unfold lastMarks;exact hm')
 refine chain_link (hr.use R F₁ P₁.g L₁ λcb s₂ π₂ P₂ F₂ L₂ r₂=>?_)
 refine AJ (ho A π₂ s₂ E ca cb R P₂.g (r₁.pg P₂ P₁.g) r₂) (λcv s₃ h=>?_) λ_ _ e=>e
 rw[h.2]
 refine RD ?_
 have P₃:PG c fr.wr none π₂ H2 s₂ H2 π₂ s₃:=.pure P₂.g h.1
 induction t using Eh with
 |false=>
  rw[AD BJ,(hF rfl).1,(hF rfl).2]
  exact⟨π₂,(P₁.trans P₂).trans P₃,rfl⟩
 |true=>
  rw[Bh rfl]
  exact(hT rfl).elim λe q=>chain_last (q.1.use R (P₃.fr F₂) P₃.g (L₂.pg P₃ P₂.g) λce s₄ π₄ P₄ F₄ L₄ r₄=>
   AJ (q.2 A π₄ s₄ E cb ce R P₄.g ((r₂.pg P₃ P₂.g).pg P₄ P₃.g) r₄) (λcv s₅ z=>⟨π₄,(((P₁.trans P₂).trans P₃).trans P₄).DT z.1,z.2⟩) λ_ _ e=>e)
end
theorem M2:∀l:List α,((Cn ((l.length+1)/2)).map (2 * ·)).filterMap (l[·]?)=Cu l
 |[]=>by simp[Cu]
 |[a]=>by simp[Cu,List.range_succ]
 |a::b::r=>by
  have ih:=M2 r
  have hlen:((a::b::r).length+1)/2=(r.length+1)/2+1:=by simp only[JQ];exact(pw [.e (.A (.m 2 .p) .r) (.A (.A (.A .s (.k 1)) (.k 1)) (.k 1)),.t .r (.k 2),.e (.A (.m 2 .q) .t) (.A .s (.k 1)),.t .t (.k 2)] (.e .p (.A .q (.k 1))) [] [_,_,_,_,_]) (Du _ _) (Dx _ ⋯) (Du _ _) (Dx _ ⋯)
  rw[hlen,bV,ED,LB]
  rw[show Cu (a::b::r)=a::Cu r from rfl,<-ih]
  congr 1
  first | rw[F8] | skip
  rw[Rg,Rg]
  first | done | (congr 1;done) | (congr 1;funext j;first | rfl | simp)
theorem wH(vs:AE Ad)(i:Int)(h: 0<=i):RX vs (some i) none (some 2)=(Cu (vs.toList.drop i.toNat)).toArray:=by
 delta RX sliceBounds sliceRange
 simp only[Ab.getD_some,show(2:Int)>0 by decide,if_true,show ¬ (i<0) by exact(pw [.L (.j 0) .p] (.n (.T .p (.j 0))) [_] []) h,if_false]
 congr 1
 rw[<-M2]
 have e0:(max 0 (min i (vs.size:Int)))=((min i.toNat vs.size:Nat):Int):=(pw [] (.E (.max (.j 0) (.min .p (.n .p))) (.n (.min (.d .p) .p))) [_] [_])
 rw[e0]
 have hl:(vs.toList.drop i.toNat).length=vs.size-i.toNat:=by simp
 have ec:(if ((min i.toNat vs.size:Nat):Int)<(vs.size:Int) then ((vs.size:Int)-((min i.toNat vs.size:Nat):Int)+2-1)/2 else 0).toNat=((vs.toList.drop i.toNat).length+1)/2:=by
  rw[hl];split<;>lia
 rw[ec,Rg,Rg]
 have hm:∀k∈Cn (((vs.toList.drop i.toNat).length+1)/2),((λx=>vs[x]?)∘λ(k:Nat)=>(((min i.toNat vs.size:Nat):Int)+2*(k:Int)).toNat) k=((λx=>(vs.toList.drop i.toNat)[x]?)∘(2 * ·)) k:=by
  intro k hk
  have hk:=Fe.mp hk
  rw[hl] at hk
  show vs[(((min i.toNat vs.size:Nat):Int)+2*(k:Int)).toNat]?=(vs.toList.drop i.toNat)[2*k]?
  rw[List.getElem?_drop,show(((min i.toNat vs.size:Nat):Int)+2*(k:Int)).toNat=i.toNat+2*k by exact(pw [.t .p .q,.e (.A (.m 2 .q) .s) (.A (.S .r (.d .p)) (.k 1)),.t .s (.k 2)] (.e (.d (.A (.n (.min (.d .p) .r)) (.l 2 (.n .p)))) (.A (.d .p) (.m 2 .p))) [_] [_,_,_,_]) hk (Du _ _) (Dx _ ⋯)] at ⊢
  simp
 generalize Cn (((vs.toList.drop i.toNat).length+1)/2)=R at hm
 induction R with
 |nil=>rfl
 |cons x R ih=>
  rw[LB,LB,hm x (CT ..),ih λk hk=>hm k (Ed _ hk)]
theorem Ag.Cu{π n h}:∀{xs:List AV}{vs:List Ad},Ag π n h xs vs->Ag π n h (Cu xs) (Cu vs)
 |[],vs,r=>by rw[r];exact .nil
 |[x],vs,r=>AH r λv r=>r.elim λws r=>by rw[r.1,r.2.2];exact .cons r.2.1 .nil
 |x::y::xs,vs,r=>AH r λv r=>r.elim λws r=>AH r.2.2 λw q=>q.elim λus q=>by rw[r.1,q.1];exact .cons r.2.1 (Ag.Cu q.2.2)
section
variable{c:Cx}{d:Nat}{fr:FD}{lo Bv BK:Lo}{H H' EY H1 H2 H3:List AO}
theorem DR.int:DR c d fr lo H (some (.Constant (.int i) k p)) (some i) H:=⟨i,rfl,GC _ rfl⟩
theorem Bt.qW(he:Bt c d fr lo H e a H1)(ha:Jw c H1 a xs)(h0: 0<=i)(hsz:xs.length<100000):
  Bt c d fr lo H (.Subscript e (.Slice (some (.Constant (.int i) k1 p1)) none (some (.Constant (.int 2) k2 p2)) p) q) (.lst (Cu (xs.drop i.toNat))) H1:=by
 intro A env π s E R F G L
 rw[eval_Subscript]
 refine Ac (he.use R F G L λca s₁ π₁ P₁ F₁ L₁ r₁=>?_)
 refine Ac (BF (wpAny_Slice (DR.int.use R F₁ P₁.g L₁ λs₂ π₂ pl P₂ F₂ L₂ hpl epl=>?_)))
 rw[WJ]
 refine An (DR.int.use R F₂ P₂.g L₂ λs₃ π₃ pst P₃ F₃ L₃ hps eps=>Ac (DM ?_))
 refine Bl λGG fin=>(ha π₃ s₃ P₃.g ca ((r₁.pg P₂ P₁.g).pg P₃ P₂.g)).elim λb z=>z.elim λvs z=>fin ?_
 rw[z.1]
 have K:Kp no s₃ {s₃ with heap:=s₃.heap.push {cls:=.type "slice",data:=.fields #[CU pl,.none,CU pst]}}:=.BU _
 refine Ie ((z.2.1.push _).typeIs) LR.lookup (cL (z.2.1.push _) (WS.new ..) hpl .none hps (by simp) ?_ (size_le hsz z.2.2.size)) rfl
 refine⟨π₃,((P₁.trans P₂).trans P₃).DT (K.trans (.BU _)),?_⟩
 rw[wH vs i h0]
 exact As.newList (P₃.g.DT K) (((z.2.2.DT K P₃.g.tabs).drop _).Cu)
end
section
variable{c:Cx}{d:Nat}{fr:FD}{lo Bv BK:Lo}{H H' EY H1 H2 H3:List AO}
theorem Bt.qY(ha:Bt c d fr lo H a x H1)(hst:D9 [a])(hb:Bt c d fr lo H1 b (.int y) H2)(h0: 0<=y)(h1:y<1000):Bt c d fr lo H (.BinOp (.List [a] lp) .Mult b p) (.loc H2.length) (H2++[.list (OP [x] y.toNat)]):=by
 intro A env π s E R F G L
 refine wpAny_BinOp ((Bt.list (IT.cons ha .nil) hst (by show 1<=BY;decide)).use R F G L λcl s₁ π₁ P₁ F₁ L₁ r₁=>hb.use R F₁ P₁.g L₁ λcb s₂ π₂ P₂ F₂ L₂ r₂=>?_)
 exact nI h0 h1 (r₁.pg P₂ P₁.g) r₂ λv rv=>(fX P₂.g F₂.wr (Ag.rep rv y.toNat)).imp λπ₃ q=>⟨(P₁.trans P₂).trans q.1,q.2⟩
end
section
variable{c:Cx}{d:Nat}{fr:FD}{lo Bv BK:Lo}{H H' EY H1 H2 H3:List AO}
theorem UW:Ok (Qw e) λes=>∃p,e=.List es p:=by rcases e with ⟨⟩<;>first | exact .none | exact .some ⟨_,rfl⟩
theorem k6:Ok (af e) λt=>∃lp p,e=.BinOp (.List [t.1] lp) .Mult t.2 p:=by
 induction e using Hg with
 |BinOp a op b p=>
  cases op with
  |Mult=>exact UW.bind λes h=>BE.bind λx hx=>.some (h.imp λlp h=>⟨p,by rw[h,hx]⟩)
  |_=>exact .none
 |_=>exact .none
theorem Zr(h:n<=200):n<=BY:=AA h ⋯
theorem S9(Sd:Bk c d r):Ok (OX r fr lo S x e) (jI c d fr lo S e):=by
 refine .cond (λ_=>?_) λ_=>Sd.E fr lo S e
 cases hl:Qw e with
 |some es=>exact .guard λhn=>(Mv Sd).bind λx i=>.some ((UW _ hl).elim λp h=>h▸AX.imp i.1 λh=>.k5 h (BM hn).1 (i.2▸Zr (BM hn).2))
 |none=>
  cases hm:af e with
  |some t=>exact .guard λhn=>(Sd.E fr lo S t.1).bind λx i=>(Sd.E fr lo x.S t.2).bind λk j=>Bd.bind λy hy=>.guard λh=>.some ((k6 _ hm).elim λlp z=>z.elim λp z=>z▸AX.bind i j λi j=>.qY i (BM hn).1 (hy▸j) (Bi h).1 (Bi h).2)
  |none=>exact Sd.E fr lo S e
theorem Zs(Sd:Bk c d r):∀{ts es:List Expr}{S:St},Ok (ee r fr lo S ts es) λx=>uQ c d fr lo S es x/\x.v.length=es.length
 |[],es,S=>.guard λh=>.some (Bj h▸⟨.mk .nil,rfl⟩)
 |t::ts,[],S=>.none
 |t::ts,e::es,S=>(S9 Sd).bind λx i=>(Zs Sd).bind λy j=>.some ⟨AX.bind i j.1 .cons,Ai Gb j.2⟩
end
section
variable{c:Cx}{d:Nat}{fr:FD}{lo Bv BK:Lo}{H H' EY H1 H2 H3:List AO}
theorem qZ(h:bz fr x y=true):x=y/\CX fr x=some .globalImplicit:=⟨BC (Ax h),(A0 (Am h)).elim λk q=>Jn q.2▸q.1⟩
theorem PH{S:St}(h:bz fr x y=true)(hb:W6 y=false)(hg:lk y GT=some v):Bt c d fr lo S.H (.Name x p) (.val v) S.H:=IW _ (by
 obtain ⟨rfl,k⟩:=qZ h
 unfold nameA
 rw[hb,k]
 rw[hg];rfl)
theorem UX:Ok (T5 e) λp=>∃xp p',e=.Call (.Name p.1 xp) p.2 [] p':=by
 induction e using Hg with
 |Call f as ks p=>exact .guard λh=>O8.bind λx hx=>.some ⟨x.2,p,by rw[hx,Bj h]⟩
 |_=>exact .none
theorem UY(Sd:Bk c d r):Ok (FU r fr lo S e) λx=>SD x.v t=true->AX S x.S (Pn c d fr lo S.H e t x.v x.S.H)/\Gp e=true:=by
 unfold FU
 cases hc:(T5 e).bind λp=>Af (bz fr p.1 "zip") (some p.2) with
 |some as=>
  have hz:=Ok.bind (P':=λas=>∃x xp p,e=.Call (.Name x xp) as [] p/\bz fr x "zip" =true) UX (λp h=>.guard λg=>.some (h.elim λxp h=>h.elim λp' h=>⟨p.1,xp,p',h,g⟩)) as hc
  exact .guard λhn=>(Mv Sd).bind λx i=>.guard λhl=>(fj λ_=>aF).bind λss hm=>.some λht=>hz.elim λy z=>z.elim λxp z=>z.elim λp z=>by
   rw[z.1]
   have h2:=Bm (Ax hl)
   have h3:=Bm (Am hl)
   exact⟨AX.imp i.1 λi=>.zip ht (PH z.2 rfl rfl) i (BM hn).1 hm ((pw [.l (.k 2) .p,.l .p (.k 3)] (.o (.e .p (.k 2)) (.e .p (.k 3))) [] [_]) h2 h3),rfl⟩
 |none=>exact .guard λhn=>(Sd.E fr lo S e).bind λx i=>KS.bind λsrc hs=>.some λ_=>⟨AX.imp i λi=>.base i hs,hn⟩
def Aa5(c:Cx)(d:Nat)(fr:FD)(lo:Lo)(H:List AO)(elt:Expr)(gs:List RM)(sc:BR)(v:AV)(H':List AO):Prop:=∃t it ifs,gs=[⟨t,it,ifs,0⟩]/\∀cp,j2 c d fr lo H elt t it ifs sc cp v H'
theorem UZ(Sd:Bk c d r):Ok (MQ r fr lo S elt gs sc) λx=>AX S x.S (Aa5 c d fr lo S.H elt gs sc x.v x.S.H):=
 BE.bind λg hg=>.guard λha=>by
  obtain ⟨t,it,ifs,a⟩:=g
  have e:=Bi ha
  subst e
  exact(UY Sd).bind λs i=>(Xk Sd).mono λx j o=>by
   have q:=j o
   have z:=i q.2.2.1
   exact⟨(z.1 q.1).1,t,it,ifs,hg,λcp=>q.2.1▸q.2.2.2 (z.1 q.1).2 z.2⟩
theorem E9.k7(run:j2 c d fr lo H elt t it ifs sc cp v H1)(hp:FA c d fr lo H1 x v Bv H2):E9 c d fr lo H (.Assign [.Name x xp] (.ListComp elt [⟨t,it,ifs,0⟩] sc cp) p) .next Bv H2:=by
 intro A env π s E R F G L
 have sw:∃b,RW (.ListComp elt [⟨t,it,ifs,0⟩] sc cp) (some (.Name x xp)) p.line env=R9 b:=⟨_,rfl⟩
 refine sw.elim λb hb=>?_
 induction b using Eh with
 |false=>exact wpAny_Assign_Name ((Bt.comp run).use R F G L λcv s₁ π₁ P₁ F₁ L₁ r₁=>hp.use R F₁ P₁.g L₁ r₁ λs₂ P₂ F₂ L₂ hl=>⟨π₁,P₁.any.trans P₂,L₂,rfl⟩) hb
 |true=>
  rw[exec_Assign_Name_used _ _ _ _ hb]
  refine Ac (DM (Ac ?_))
  refine Ac (AJ (run A env π s E _ (some (assign (.Name x xp) env)) (λ_ s'=>∃π',PG c fr.wr (some env.locals) π H s H2 π' s'/\Br c π' H2.length s'.heap env.locals Bv) R F G L λacc C s' π' P rv hm hC hM=>?_) (λ_ s' h=>An (An (h.imp λπ' h=>⟨h.1,h.2,rfl⟩))) λ_ _ x=>x)
  have hLC:env.locals≠C:=λq=>L.obj.elim λo z=>z.elim λes z=>z.elim λk z=>by rw[q,hC] at z;cases z.1
  refine wpAny_assign_Name (hp.use R (P.fr F) P.g (L.pg P G) rv λs₂ P₂ F₂ L₂ hl=>hm.elim λm hn=>?_)
  have wI:=(Ns.pN hn).elim λoC w=>hn.at' λo e=>P₂.kp.keep C o (λx=>x.elim (λq=>hLC (AQ q)) hM) (P.g.tabs.Mq e (AQ (w.1.symm.trans e)▸w.2)) e
  refine⟨m,wI,λh' hs=>?_⟩
  have O:=PG.vr G (P.any.trans P₂) hC hM wI hs
  exact⟨π',O.1,L₂.ns.imp λm2 q=>⟨q.1.sameBut hs hLC,λy v e=>(q.2 y v e).imp λcv r=>⟨r.1,r.2.step O.2⟩⟩,L₂.nl,L₂.new⟩
end
section
variable{c:Cx}{d:Nat}{fr:FD}{lo Bv BK:Lo}{H H' EY H1 H2 H3:List AO}
theorem PI(h:Gp e=true):Oh op e=false:=by rcases e with ⟨⟩<;>first | rfl | exact ff h
theorem plainT_ok(h:plainT e=true)(env:Env)(whole:Sem Ad):RP e env whole=(do let v <-whole;standAt e.pos;holding [v] (truthy v)):=by
 rcases e with ⟨⟩<;>first | rfl | exact ff h
theorem NB(Sd:Bk c d r):Ok (Ua r fr lo x op b) λy=>Oh op b=false/\AX x.S y.S (Bt c d fr lo x.S.H b y.v.1 y.S.H/\CO c d y.S.H op x.v y.v.1 y.v.2):=
 .guard λhn=>(Sd.E fr lo x.S b).bind λy i=>YK.bind λt ht=>.some ⟨PI hn,AX.imp i λi=>⟨i,ht⟩⟩
theorem pD.le(hd:d<=d')(h:AX S x.S (Jv c d fr lo S.H e x.v x.S.H)):pD c d' fr lo S e x:=AX.imp h (·.le hd)
theorem fY(BS:CG c)(Sd:Bk c d r):Ok (stepT r fr lo S e) (pD c (d+2) fr lo S e):=by
 have plain:∀e,Ok (Qz r fr lo S e) (pD c (d+2) fr lo S e):=λe=>.guard λh=>(Sd.E fr lo S e).bind λx i=>(Zo BS).bind λb hb=>.some (AX.imp i λi=>.plainQ (i.le (BG _ 2)) hb (plainT_ok h))
 have le2:∀{S:St}{e:Expr}{x:Rt Aa},AX S x.S (Jv c d fr lo S.H e x.v x.S.H)->pD c (d+2) fr lo S e x:=λh=>pD.le (BG _ 2) h
 induction e using Hg with
 |UnaryOp op a p=>
  cases op with
  |Not=>exact(Sd.T fr lo S a).bind λx i=>.some (le2 (AX.imp i .not))
  |_=>exact .none
 |BoolOp op es p=>
  induction es using B9 with
  |nil=>cases op with
   |And=>exact .some (AX.mk .pO)
   |Or=>exact .some (AX.mk .u3)
  |cons a as=>
   refine(Sd.T fr lo S a).bind λx i=>?_
   cases op with
   |And=>exact .cond (λh=>(Sd.T fr lo x.S _).mono λy j=>le2 (AX.bind i j λi j=>.u4 rfl (h▸i) j)) λh=>.some (le2 (AX.imp i λi=>by rw[h] at i ⊢;exact .Aag i))
   |Or=>exact .cond (λh=>.some (le2 (AX.imp i λi=>by rw[h] at i ⊢;exact .YL i))) λh=>(Sd.T fr lo x.S _).mono λy j=>le2 (AX.bind i j λi j=>.u4 rfl (h▸i) j)
 |Compare a ops bs p=>exact BE.bind λop ho=>BE.bind λb hb=>(Sd.E fr lo S a).bind λx i=>(NB Sd).bind λy j=>.some (le2 (by rw[ho,hb];exact AX.bind i j.2 λi k=>.cmp i k.1 k.2 j.1))
 |_=>exact plain _
end
section
variable{c:Cx}{d:Nat}{fr:FD}{lo Bv BK:Lo}{H H' EY H1 H2 H3:List AO}
theorem AX.put(e:S2.ob=S1.ob)(i:AX S S1 P):AX S S2 P:=λo=>i (e▸o)
theorem Ho(h:Ok o P)(k:∀p,P p->Q ⟨.next,p.v,p.S⟩):Ok (Hl o) Q:=h.bind λp hp=>.some (k p hp)
theorem Ok.and{P Q:α->Prop}(h:Ok o P)(k:Ok o Q):Ok o λa=>P a/\Q a:=λa e=>⟨h a e,k a e⟩
theorem Ta(Sd:Bk c d r):Ok (jE r fr lo S e) λx=>AX S x.S (DR c d fr lo S.H e x.v x.S.H):=by
 induction e using BL with
 |none=>exact .some (AX.mk ⟨rfl,rfl⟩)
 |some e=>exact(Sd.E fr lo S e).bind λx i=>Bd.bind λk hk=>.some (AX.imp i λi=>⟨k,rfl,hk▸i⟩)
theorem fZ:Ok (MP e) λt=>∃p,e=.ListComp t.1 t.2.1 t.2.2 p:=by rcases e with ⟨⟩<;>first | exact .none | exact .some ⟨_,rfl⟩
theorem k8:Ok (ae e) λt=>∃k p,e=.Tuple t k p:=by rcases e with ⟨⟩<;>first | exact .none | exact .some ⟨_,_,rfl⟩
theorem QX:Ok (Fv e) λt=>∃p,e=.Slice t.1 t.2.1 t.2.2 p:=by rcases e with ⟨⟩<;>first | exact .none | exact .some ⟨_,rfl⟩
theorem QY:∀{xs:List Str}{vs:List AV}{lo:Lo}{S:St},Ok (T6 fr lo S xs vs) λ_=>xs.length=vs.length
 |[],vs,lo,S=>.guard λh=>.some (Bj h▸rfl)
 |x::xs,[],lo,S=>.none
 |x::xs,v::vs,lo,S=>Ok.any.bind λp _=>QY.mono λ_ h=>Ai Gb h
theorem k9:Ok (putN fr lo S x v) λ_=>CX fr x≠some .globalExplicit:=.guard λ_=>Ok.self.bind λk hk=>by
 cases k with
 |globalExplicit=>exact .none
 |_=>exact λ_ _=>by rw[hk];nofun
abbrev wJ(c:Cx)(d:Nat)(fr:FD)(lo:Lo)(S:St)(t e:Expr)(p:Pos):Rx->Prop:=yO c d fr lo S (.Assign [t] e p)
theorem la(Sd:Bk c d r):Ok (OZ r fr lo S x e) (wJ c d fr lo S (.Name x xp) e p):=by
 unfold OZ
 cases hc:MP e with
 |some t=>exact(UZ Sd).bind λv i=>Ho E7 λq j=>AX.put j.2 (AX.imp i λi=>(fZ _ hc).elim λcp z=>i.elim λa i=>i.elim λit i=>i.elim λifs i=>by rw[z,i.1];exact .k7 (i.2 cp) j.1)
 |none=>exact .guard λhn=>(S9 Sd).bind λv i=>Ho E7 λq j=>AX.put j.2 (AX.imp i λi=>.jV i hn j.1)
theorem lh:Ok (jF v) (jU c d H v):=by
 induction v using AV.casesOn with
 |tup xs=>exact .some .tup
 |lst xs=>exact .some (.lst (Bs _ rfl))
 |_=>exact .none
theorem lj(Sd:Bk c d r):Ok (ef r fr lo S ts e) (wJ c d fr lo S (.Tuple ts k tp) e p):=by
 unfold ef
 cases hc:ae e with
 |some es=>
  exact .guard λhn=>Ok.bind (P:=λo=>∀{k k':Nat}{p p':Pos}{π:Pl}{n:Nat}{env:Env},Bu π n fr env->LY [.Tuple ts k p] (.Tuple es k' p') env=pure o) (λo e k k' p p'=>eP hn o e) λo hsw=>(Zs Sd).bind λvs i=>(k8 _ hc).elim λk' z=>z.elim λep z=>by
   have et:AX S vs.S (Bt c d fr lo S.H (.Tuple es k' ep) (.tup vs.v) vs.S.H):=AX.imp i.1 λi'=>.tuple i' (BM hn).1 (i.2▸Zr (BM hn).2)
   rw[z]
   induction o using BL with
   |none=>exact Ho (jc.tuple jU.tup) λq j=>AX.put j.2 (AX.imp et λi=>.YO hsw i j.1)
   |some xs=>exact Ho (Ok.and eJ QY) λq j=>AX.put j.1.2 (AX.imp et λi=>.YO hsw i ⟨by have h:=j.2;rw[b9,b9] at h;exact h,j.1.1⟩)
 |none=>exact(Sd.E fr lo S e).bind λv i=>Ok.bind (lh) λvs hv=>Ho (jc.tuple hv) λq j=>AX.put j.2 (AX.imp i λi=>.eM i hc j.1)
theorem ll(BS:CG c)(Sd:Bk c d r):Ok (uI r fr lo S o x e) (wJ c d fr lo S (.Attribute o x xp) e p):=
 (S9 Sd).bind λv i=>(Sd.E fr lo v.S o).bind λov j=>(ki BS.cls).bind λS' q=>.some (AX.put q.2 (AX.bind i j λi j=>.Y2 i j q.1))
theorem lq(BS:CG c)(Sd:Bk c d r):Ok (uJ r fr lo S o i e) (wJ c d fr lo S (.Subscript o i xp) e p):=
 (Sd.E fr lo S e).bind λv iv=>(Sd.E fr lo v.S o).bind λov io=>Ey.bind λl hl=>by
  cases hs:Fv i with
  |some t=>
   exact .guard λhn=>(Ta Sd).bind λk ik=>SI.bind λq hq=>Bs.bind λvs hv=>.guard λhz=>Jj.bind λS' hw=>.some ((QX _ hs).elim λsp z=>by
    rw[z,CN (Ax hn),CN (Am hn),hw.2]
    exact AX.put rfl (AX.bind (AX.bind iv io λa b=>Fo a b) ik λa b=>.UA BS.cls a.1 (hl▸a.2) b hq hv (Bi hz) hw.1))
  |none=>
   exact(Sd.E fr lo ov.S i).bind λk ik=>Bd.bind λj hj=>listAt.bind λxs hx=>.guard λhz=>Jj.bind λS' hw=>.some (by
    rw[hw.2]
    exact AX.put rfl (AX.bind (AX.bind iv io λa b=>Fo a b) ik λa b=>.kj a.1 (hl▸a.2) (hj▸b) hx (Bi hz) hw.1))
theorem ls(BS:CG c)(Sd:Bk c d r):Ok (uK r fr lo S t e) (wJ c d fr lo S t e p):=by
 induction t using Hg with
 |Name x xp=>exact la Sd
 |Tuple ts k tp=>exact lj Sd
 |Attribute o x xp=>exact ll BS Sd
 |Subscript o i xp=>exact lq BS Sd
 |_=>exact .none
theorem f3(h:Bz (CX fr x) isLocal=true):fr.scope.names.lookup x=some .local:=(A0 h).elim λk q=>O6 (DK q.2▸q.1)
theorem lu(Sd:Bk c d r):Ok (uL r fr lo S t op e) (yO c d fr lo S (.AugAssign t op e p)):=by
 cases op with
 |Add=>
  exact O8.bind λx hx=>.guard λhk=>Ok.self.bind λv hv=>Bd.bind λa ha=>(Sd.E fr lo S e).bind λy i=>Bd.bind λb hb=>Ho E7 λq j=>by
       rw[hx]
       exact AX.put j.2 (AX.imp i λi=>.aug (f3 hk) ((D8 ..).symm.trans (ha▸hv)) (hb▸i) j.1)
 |_=>exact .none
theorem lx{x:Rx}(h:x.fl.C8=false)(q:x.fl=.next\/x.fl.GB=false):x.fl.GB=false:=q.elim (λw=>by rw[w] at h;rcases h with ⟨⟩) id
theorem f6(BS:CG c)(Sd:Bk c d r){st:Az}:Ok (nC r fr lo S st) (yO c d fr lo S st):=by
 induction st using Az.casesOn with
 |Pass=>exact .some (AX.mk .pass)
 |Break=>exact .some (AX.mk .brk)
 |Continue=>exact .some (AX.mk .cont)
 |Return o p=>induction o using BL with
  |none=>exact .some (AX.mk .Aaj)
  |some e=>exact(Sd.E fr lo S e).bind λx i=>.some (AX.imp i .ret)
 |Expr e p=>exact .guard λhn=>(Sd.E fr lo S e).bind λx i=>.some (AX.imp i (.expr · hn))
 |If t a b p=>exact(Sd.T fr lo S t).bind λx i=>.cond (λh=>(MR Sd).mono λy j=>AX.bind i j λi j=>.ite (h▸i) j) λh=>(MR Sd).mono λy j=>AX.bind i j λi j=>.ite (h▸i) j
 |While t b oe p=>
  exact .guard λho=>Ok.bind Ok.self λx hx=>.some (by
   rw[Bj ho]
   exact λo=>have o':=eZ▸o;⟨QI Sd x hx o',.pW Sd hx o'⟩)
 |For t it b oe p=>
  exact(UY Sd).bind λs i=>.guard λhz=>Ok.bind Ok.self λx hx=>.cond
   (λhn=>(MR Sd).mono λy j o=>have q:=(i hz).1 ((Nz Sd x hx).1 (j o).1);⟨q.1,.vo Sd q.2 (i hz).2 hx (j o).1 (.inl ⟨QE hn,(j o).2⟩)⟩)
   λhn=>.some λo=>have o':=eZ▸o;have q:=(i hz).1 ((Nz Sd x hx).1 o');⟨q.1,.vo Sd q.2 (i hz).2 hx o' (.inr ⟨lx hn (Nz Sd x hx).2,rfl⟩)⟩
 |Assign ts e p=>exact BE.bind λt ht=>ht▸ls BS Sd
 |AugAssign t op e p=>exact lu Sd
 |FunctionDef n ps b ds rt tps sc ts bd p=>
  refine .guard λh=>Ok.bind Ok.self λfc hfc=>Ho (Ok.and (E7 (c:=c) (d:=d)) k9) λq j=>?_
  have h1:=Am h
  have h2:=Am h1
  have h3:=Am h2
  rw[<-BC (Ax h1),Bj (Ax h2),CN (Ax h3),Bj (Ax (Am h3)),CN (Am (Am h3))]
  exact AX.put j.1.2 (AX.mk (.Aaz (Ax h) hfc j.1.1 j.2))
 |_=>exact .none
end
theorem ly{acc σ:List Int}{x:Int}(hl:acc.length=σ.length)(hk:∀k:Int,(acc.any λy=>decide (y=k))=σ.any (· ==k)):
  (cond (acc.any λy=>decide (y=x)) acc (x::acc)).length=(LQ σ x).length/\∀k:Int,((cond (acc.any λy=>decide (y=x)) acc (x::acc)).any λy=>decide (y=k))=(LQ σ x).any (· ==k):=by
 rw[hk x]
 unfold LQ
 cases e:σ.any (· ==x) with
 |true=>exact⟨hl,hk⟩
 |false=>
  refine⟨by rw[AD BJ,BP];exact Ai (· +1) hl,λk=>?_⟩
  rw[AD BJ,List.any_append,<-hk k]
  show(decide (x=k)||_)=(_||((x==k)||false))
  rw[VW,Aa.or_comm]
  rfl
theorem f9:∀{xs:List AV}{acc:List Int},Ok (Nc xs acc) λres=>∃is:List Int,xs=is.map .int/\∀σ:List Int,acc.length=σ.length->(∀k:Int,(acc.any λy=>decide (y=k))=σ.any (· ==k))->res.length=(is.foldl LQ σ).length
 |[],acc=>.some ⟨[],rfl,λ_ hl _=>hl⟩
 |x::xs,acc=>Bd.bind λi hi=>f9.mono λres h=>h.imp' (i :: ·) λis h=>⟨by rw[hi,h.1];rfl,λσ hl hk=>have q:=ly hl hk;h.2 _ q.1 q.2⟩
theorem Ag.Zt{π:Pl}{n:Nat}{h:Ay}:∀{is:List Int}{vs:List Ad},Ag π n h (is.map .int) vs->IntsAre vs is
 |[],vs,r=>by rw[r];exact .nil
 |i::is,vs,r=>AH r λv r=>r.elim λws r=>r.2.1.int.elim λt e=>by rw[r.1,e];exact .cons i t (Ag.Zt r.2.2)
theorem range_getD(is:List Int):(Cn is.length).map (λi=>is.getD i 0)=is:=by
 apply Ri
 ·simp
 ·intro i h1 h2
  simp at h1
  simp[HG,h1]
section
variable{c:Cx}{d:Nat}{fr:FD}{lo Bv BK:Lo}{H H' EY H1 H2 H3:List AO}
theorem aX{x:Str}{as:List Expr}{ks:List EN}:Ok (Hi fr x as ks) λe=>∃y yp p,as=[.Call (.Name y yp) [e] [] p]/\ks=[]/\bz fr x "len" =true/\bz fr y "set" =true:=
 .guard λhk=>BE.bind λa ha=>UX.bind λq hq=>.guard λhg=>BE.mono λe he=>hq.elim λyp hq=>hq.elim λp hq=>⟨q.1,yp,p,by rw[ha,hq,he],Bj hk,Ax hg,Am hg⟩
theorem lz(e:Expr):D9 [e]\/∃a p,e=.Starred a p:=by
 rcases e with ⟨⟩<;>first | exact .inr ⟨_,_,rfl⟩ | exact .inl (BM (n:=1) rfl).1
theorem aY{a:Expr}{p:Pos}{v:AV}(h:Bt c d fr lo H (.Starred a p) v H1){α:Type}{t:Sem α}{A:AG}{env:Env}{π:Pl}{s s₀:Aj}{E:EP}{Q:α->Aj->Prop}(R:A5 d A)(F:Bu π H.length fr env)(G:Av c π H s)(L:Br c π H.length s.heap env.locals lo):
  Ae c.m A t Q E s₀:=λΓ p hΓ=>(h A env π s (λ_ _=>Cd) R F G L Γ p hΓ).elim
theorem Bt.Hi{x y:Str}{xp p yp p':Pos}{e:Expr}{v:AV}{xs:List AV}{n:Nat}(hx:bz fr x "len" =true)(hy:bz fr y "set" =true)(he:Bt c d fr lo H e v H1)(hv:Jw c H1 v xs)(hn:∃is:List Int,xs=is.map .int/\n=(is.foldl LQ []).length)(hsz:xs.length<1000):
  Bt c d fr lo H (.Call (.Name x xp) [.Call (.Name y yp) [e] [] p'] [] p) (.int n) H1:=by
 intro A env π s E R F G L
 have hst:D9 [.Call (.Name y yp) [e] [] p']:=λ_ _=>rfl
 refine Ac ((PH (S:=⟨H,true⟩) hx rfl rfl).use R F G L λcf s₁ π₁ P₁ F₁ L₁ r₁=>?_)
 rcases r₁.val with ⟨⟩
 rw[hst env p]
 refine Iy rfl (λh x=>x) ?_
 have em:([.Call (.Name y yp) [e] [] p'].map λe=>(false,eval e env))=([.Call (.Name y yp) [e] [] p'].map λe=>eval e env).map λt=>(false,t):=rfl
 rw[em]
 refine Dd rfl ((lz e).elim (λhns=>?_) λq=>q.elim λa q=>q.elim λap q=>aY (q▸he) R F₁ P₁.g L₁)
 refine IB (QL (PH hy rfl rfl) (.cons he .nil) hns .ty R F₁ P₁.g L₁ λcf cvs s₂ π₂ P₂ r₂ rv=>?_)
 rcases r₂.val with ⟨⟩
 refine Bl λGG fin=>AH rv λcv rv=>rv.elim λws rv=>(hv π₂ s₂ P₂.g cv rv.2.1).elim λb q=>q.elim λvs q=>hn.elim λis hi=>fin ?_
 rw[rv.1,rv.2.2,q.1]
 have hr:=q.2.2
 rw[hi.1] at hr hsz
 rw[AY] at hsz
 have hs:=hr.size.trans (AY ..)
 refine call_set_list R.handled q.2.1 hr.Zt (by unfold scanBound;exact(pw [.t .p (.k 1000),.e .q .p] (.t (.A .q (.k 1)) (.k 4096)) [] [_,_]) hsz hs) λh' tk hS hkp=>?_
 have K:Kp no s₂ {s₂ with heap:=h',toks:=tk}:=.of_keeps λy o e=>hkp y o (Ew e) e
 refine Mk (JX ⟨⟨.machine,.inr (.inl rfl),.now⟩,?_⟩)
 obtain ⟨o,es,ep,t,ho,hex,hd,hel,kF,hb,Aa6,hlen⟩:=hS
 have e1:n=es.size:=by
  rw[hlen,hi.2]
  unfold firstMet
  rw[hs,range_getD]
 exact call_len_set ho hex hd Aa6 (by unfold scanBound at hb;exact(pw [.t .p (.k 4096)] (.T (.n .p) (.j (2^63))) [] [_]) hb) ⟨π₂,(P₁.trans P₂).DT (K.trans .toks),e1▸.mkInt⟩
theorem XK{x:Rt AV}:Ok (KL x) λy=>y.S=x.S/\∃xs n,y.v=.int (n:Nat)/\Jw c x.S.H x.v xs/\(∃is:List Int,xs=is.map .int/\n=(is.foldl LQ []).length)/\xs.length<1000:=
 Bs.bind λxs hl=>f9.bind λis h=>.guard λhz=>.some ⟨rfl,xs,is.length,rfl,hl,h.imp λis h=>⟨h.1,h.2 [] rfl λ_=>rfl⟩,Bi hz⟩
end
section
open Builtin Builtin.ObjectAttr
theorem aZ:Ok (Cv fi as ks) λ_=>as.length<=fi.params.args.length:=
 .cond (λ_=>.guard λh=>.some (Bn (Cb (Am (Am h))).symm)) λ_=>.guard λh _ _=>(VS.mp (Am h)).elim (λq=>Bn (Cb q)) λq=>Cb q▸BG _ _
theorem arities:(D5++D6).all (λp=>Bz (FT p.2) λfi=>Bf fi.params.args.length 9)=true:=⋯
theorem gc(h:(m,a)∈D5++D6)(hf:FT a=some fi):fi.params.args.length<=9:=(A0 (BW.mp arities _ h)).elim λfi' q=>AQ (q.1.symm.trans hf)▸Bm q.2
theorem wK:Om "function" "__get__" =some (some (.builtin "function.__get__")):=⋯
theorem wL:Om "function" "__set__" =some none:=⋯
theorem wM:Om "function" "__delete__" =some none:=⋯
theorem a6:(D5++D6).all (λp => !copiedNames.contains p.1)=true:=⋯
theorem findObj_fn{K:AI}(hh:OE K C=true)(ha:A7 K (.ref C) name=some (some (.ref f)))(ht:EU K (.ref f)=some (.type "function"))(hc:copiedNames.contains name=false)(hl:lookIn name od=some none):
  findObj K C (some od) name=some (.bind (.builtin "function.__get__") (.ref f)):=by
 have hn:OD K (.ref f) "__get__" =some (some (.builtin "function.__get__")):=by unfold OD;rw[ht,Gy];exact wK
 have htk:takesIn K (.ref f)=some false:=by
  delta takesIn OD
  rw[ht]
  show(match Om "function" "__set__" with | some (some _)=>some true | some none=>(Om "function" "__delete__").map Ab.isSome | none=>none)=_
  rw[wL,wM];rfl
 obtain ⟨cd,hc',hd⟩ :∃cd,Iw K C=some cd/\cd.hasDict=true:=by
  unfold OE at hh
  cases q:Iw K C with
  |none=>rw[q] at hh;cases hh
  |some cd=>rw[q] at hh;exact⟨cd,rfl,hh⟩
 unfold findObj
 have ho:WT cd (some od) name=some none:=by unfold WT;rw[Bh hd];exact hl
 rw[hc',Gy,ha,Gy]
 show(OD K (.ref f) "__get__").bind _=_
 rw[hn]
 show(takesIn K (.ref f)).bind _=_
 rw[htk]
 show(WT cd (some od) name).bind _=_
 rw[ho]
 show(if (copiedNames.contains name&&_)=true then none else _)=_
 rw[hc]
 rfl
section
variable{c:Cx}{d:Nat}{fr:FD}{lo Bv BK:Lo}{H H' EY H1 H2 H3:List AO}
theorem lA{K:AI}{x f:Ah}{ox:Obj}{od:Ab Obj}{name:Str}{expr:Aa}(X:K.In s.heap)(I:InstAt s.heap x ox 249 od)
  (hga:A7 K (.ref 249) "__getattribute__" =some (some (.builtin "list.__getattribute__")))(hk:A7 K (.ref 249) "__getattr__" =some none)(hc:Iw K 249=some cd)(hm:cd.mro=[.ref 249,.type "list",.type "object"])
  (hf:findObj K 249 od name=some (.bind (.builtin "function.__get__") (.ref f)))(ht:EU K (.ref f)=some (.type "function"))(h:Q (.ref s.heap.objs.size) {s with heap:=s.heap.push (OC (.ref f) (.ref x)),toks:=s.toks+1}):Ae c.m A (getAttr (.ref x) name expr) Q E s:=by
 obtain ⟨j5,g,dd,t,os⟩:=s
 have L0:=I.type (M:=AW c.prog c.w)
 have L1:=Dr (M:=AW c.prog c.w) X hga
 have L2:=Dr (M:=AW c.prog c.w) X hk
 have L3:=looks_find (M:=AW c.prog c.w) X I hf
 refine Ac (RO (BF (Ac (L0.at (Ac (L1.at ?_))))))
 delta getAttrByItsOwn hookBefore callGetattribute boundAndCalled
 refine Ac (L2.at ?_)
 refine Ac (GZ (BF ?_))
 have e1:(expr&&onTheHeap (R7 "list.__getattribute__"))=false:=by rcases expr with ⟨⟩<;>rfl
 rw[e1,AD BJ]
 refine Ac (Ci (R1.bind _) ?_)
 have sub:AR c.m j5 (Ik (.ref x) (.type "list")) true:=L0.andThen (Iz X (by unfold IA;rw[hc,Gy,AD (by rw[hm];decide),hm];rfl))
 refine DE (RA R1.plain QN (@Mh c.m _ _ ⟨j5,g,dd,t+1,os⟩ "list.__getattribute__" "list" "__getattribute__" (.ref x) [.str name t] [] _ Uu QO sub (cZ _ _) ?_))
 refine Ac (Ci rfl ?_)
 refine Ac (Ci rfl ?_)
 refine Ac (L0.at (Ac (L3.at ?_)))
 refine Ac (BF (DE (fn_get X ht ?_)))
 refine An ?_
 show Ae _ _ (handedOut _) _ _ _
 rw[handedOut_of rfl];exact An h
def Qm(c:Cx)(H:List AO)(o:AV)(m:Str)(a:Ah):Prop:=(m,a)∈D5++D6/\∀{A:AG}{π:Pl}{s:Aj}{E:EP}{cv:Ad}{Q:EP},Av c π H s->As π H.length s.heap o cv->
  (∀s' b,Kp no s s'->s.heap.get? b=none->s'.heap.get? b=some (OC (.ref a) cv)->Q (.ref b) s')->Ae c.m A (getAttr cv m true) Q E s
theorem wO(hp:p∈D5++D6):copiedNames.contains p.1=false:=HN (BW.mp a6 p hp)
theorem wQ{Q:EP}(q:∀s' b,Kp no s s'->s.heap.get? b=none->s'.heap.get? b=some (OC (.ref a) cv)->Q (.ref b) s'):Q (.ref s.heap.objs.size) {s with heap:=s.heap.push (OC (.ref a) cv),toks:=s.toks+1}:=
 q _ _ (.of_keeps λ_ _ e=>B6 _ e) (Bx _ (AP _)) (Bp _ rfl)
theorem Qm.inst(Cl:Be c){l dl:Nat}(hH:H[l]?=some (.inst 165 dl))(hsh:Cw H dl m=true)(hm:(m,a)∈D5):Qm c H (.loc l) m a:=by
 refine⟨N0 _ hm,λ{A π s E cv Q} G rv q=>?_⟩
 have f:=Cl.v.ms _ hm
 have nc:=wO (N0 D6 hm)
 refine Bl λGG fin=>(Jm G hsh).elim λod z=>(G.objs l _ hH).elim λsl y=>fin ?_
 rw[rv.loc.2] at q ⊢
 have I:InstAt s.heap (π.at' l) ⟨.ref 165,some (π.at' dl),.plain,sl⟩ 165 (some od):=⟨y.1,rfl,rfl,z.1⟩
 have X:=c.DA G
 refine get_bind X I Cl.v.ga (findObj_fn Cl.v.dict f.1 f.2 nc z.2) Cl.v.hk (DE (fn_get X f.2 ?_))
 show Ae _ _ (handedOut _) _ _ _
 rw[handedOut_of rfl];exact An (wQ q)
theorem Qm.acc(Cl:Be c){l dl:Nat}{a:Ah}(hH:H[l]?=some (.acc dl xs))(hsh:Cw H dl m=true)(hm:(m,a)∈D6):Qm c H (.loc l) m a:=by
 refine⟨Lz _ hm,λ{A π s E cv Q} G rv q=>?_⟩
 have f:=Cl.a.ms _ (N0 _ hm)
 have nc:=wO (Lz D5 hm)
 refine Bl λGG fin=>(Jm G hsh).elim λod z=>(G.objs l _ hH).elim λvs y=>y.elim λkk y=>y.elim λsl y=>Cl.a.mro.elim λcd w=>fin ?_
 rw[rv.loc.2] at q ⊢
 have I:InstAt s.heap (π.at' l) ⟨.ref 249,some (π.at' dl),.seq vs kk,sl⟩ 249 (some od):=⟨y.1,rfl,rfl,z.1⟩
 exact lA (c.DA G) I Cl.a.ga Cl.a.hk w.1 w.2 (findObj_fn Cl.a.dict f.1 f.2 nc z.2) f.2 (wQ q)
theorem lB(Cl:Be c):Ok (OU S v m) λk=>∀a,k=.fn a->Qm c S.H v m a:=by
 induction v using AV.casesOn with
 |int i=>exact I0 (l:=mI) (λm k=>∀a,k=.fn a->Qm c S.H (.int i) m a) ⟨nofun,trivial⟩
 |str x=>exact I0 (l:=mS) (λm k=>∀a,k=.fn a->Qm c S.H (.str x) m a) ⟨nofun,nofun,nofun,nofun,trivial⟩
 |lst xs=>exact I0 (l:=mL) (λm k=>∀a,k=.fn a->Qm c S.H (.lst xs) m a) ⟨nofun,trivial⟩
 |loc l=>
  refine Ok.self.bind λo hH=>?_
  induction o using AO.casesOn with
  |inst C dl=>
   refine .guard λh=>Ok.self.bind λa ha=>.some λa' e=>?_
   obtain rfl:C=165:=Cb (Ax h)
   exact Sy.fn.inj e▸.inst Cl hH (Am h) (SP ((D8 ..).symm.trans ha))
  |acc dl xs=>
   refine .guard λh=>Ok.mono (I0 (λm k=>∀a,k=.fn a->(m,a)∈D6) ⟨λa e=>Sy.fn.inj e▸.head _,λa e=>Sy.fn.inj e▸.tail _ (.head _),λa e=>Sy.fn.inj e▸.tail _ (.tail _ (.head _)),λa e=>Sy.fn.inj e▸.tail _ (.tail _ (.tail _ (.head _))),nofun,nofun,nofun,trivial⟩) λk q a e=>.acc Cl hH h (q a e)
  |list xs=>exact I0 (l:=mO) (λm k=>∀a,k=.fn a->Qm c S.H (.loc l) m a) ⟨nofun,nofun,nofun,trivial⟩
  |_=>exact .none
 |_=>exact .none
theorem lC(ht:Ej s.heap a vs)(hz:vs.size<=BY)(h:∀s',Kp no s s'->Q vs.toList s'):StarOf c.m A E (.ref a) Q s:=by
 obtain ⟨o,ho,hc,n,hd⟩:=ht
 have y3:s.TypeIs (.ref a) "tuple" :=⟨o,ho,hc⟩
 have z:Ae c.m A (collect (.ref a)) Q E s:=wpAny_collect_seq a (.inr rfl) ho hc hd (λh' hk=>h _ (.of_keeps hk)) hz
 exact Ac (JZ y3 PySem.F.slot_tuple_iter.lookup (An ⟨rfl,z⟩))
theorem Bt.wR(Fs:Ez c)(ho:Bt c d fr lo H o ov H1)(hb:baseOk o=true)(hg:Qm c H1 ov m a)(he:Bt c d fr lo H1 e (.tup vs) H2)
  (hf:FT a=some fi)(hlen:(ov::vs).length<=9)(run:CoP c d fr.wr H2 a (ov::vs) [] v H3):Bt c (d+1) fr lo H (.Call (.Attribute o m ap) [.Starred e sp] [] p) v H3:=by
 intro A env π s E R F G L
 have R0:=R.le (Dw _)
 rw[RL,GD hb]
 refine Ac (ho.use R0 F G L λco s₁ π₁ P₁ F₁ L₁ r₁=>Ac (DM ?_))
 delta L8 calleeOf
 have Pz:Og ([Expr.Starred e sp].length+([]:List EN).length) (J4 p (G4 [.Starred e sp] env)) (Fi p (Fh [] env))=false:=rfl
 rw[Pz]
 refine Ac (BF ?_)
 rw[AD BJ]
 refine Ac (hg.2 P₁.g r₁ λs₂ b K q0 qp=>An ?_)
 have Xv:J0 false o env ap p=R9 p:=rfl
 refine Ac (Ci Xv ?_)
 have kA:=P₁.DT K
 have bM:=P₁.g.fresh q0
 refine ks_call (P:=λh=>h.get? b=some (OC (.ref a) co)/\c.K.In h) rfl (λh q=>⟨.boundFrame,.inr (.inr rfl),(D3 q.1).andThen ((Fs.fn a fi hf).elim λof z=>z.elim λfd z=>(D3 (q.2 _ _ z.1)).andThen ?_)⟩) (ks_lone ?_)
 ·rw[z.2.1];exact .now
 refine he.use R0 F₁ kA.g (L₁.DT P₁.g K) λcv s₃ π₃ P₃ F₃ L₃ r₃=>r₃.tup.elim λtb z=>z.elim λtvs z=>?_
 rw[z.1]
 have hz:tvs.size<=BY:=AA (Bn z.2.2.2.size) (AA (Wk hlen) ⋯)
 refine lC z.2.1 hz λs₄ K₄=>?_
 have b3:=P₃.kp.keep b _ (λx=>bM (x.resolve_left nofun)) (kA.g.tabs.D4 qp nofun) qp
 have b4:=K₄.keep b _ id (P₃.g.tabs.D4 b3 nofun) b3
 have P₄:=P₃.DT K₄
 exact⟨⟨b4,c.DA P₄.g⟩,DE (method_call b4 (codeAny_mono (run A π₃ s₄ E (co::tvs.toList) [] R F₃.wr P₄.g (.cons ((r₁.DT K P₁.g.tabs).pg P₄ kA.g) (z.2.2.2.DT K₄ P₃.g.tabs)) .nil) (QG λv s' q=>q.imp λπ₅ q=>⟨(kA.trans P₄).trans q.1,q.2⟩)))⟩
end
end
section
variable{c:Cx}{d:Nat}{fr:FD}{lo Bv BK:Lo}{H H' EY H1 H2 H3:List AO}
theorem XM(h:Fv i=none)(o x:Ad):Oj i false o x=operate [o,x] (Md o x):=by
 rcases i with ⟨⟩<;>first | rfl | rcases h with ⟨⟩
theorem Ef.q5(BS:CG c):Ef c (.val (.ref 165)):=λH π s cf G r=>by
 rcases r.val with ⟨⟩
 have M:=makes_of (M:=AW c.prog c.w) (c.DA G) BS.acc.mkO
 exact M.obj.elim λoc z=>z.elim λod z=>z.elim λcd z=>z.elim λsl z=>⟨.machine,.inr (.inl rfl),(D3 z.1).andThen (M.call.andThen .now)⟩
theorem Ef.q6(BS:CG c):Ef c (.val (.ref 249)):=λH π s cf G r=>by
 rcases r.val with ⟨⟩
 have M:=QV (M:=AW c.prog c.w) (c.DA G) BS.acc.mkL
 exact M.obj.elim λoc z=>z.elim λod z=>z.elim λcd z=>z.elim λsl z=>⟨.machine,.inr (.inl rfl),(D3 z.1).andThen (M.call.andThen .now)⟩
theorem Ok.all{o:Ab α}(h:P):Ok o λ_=>P:=λ_ _=>h
theorem XN(BS:CG c):Ok (A9 r wr f as ks S) λ_=>Ef c f:=by
 induction f using AV.casesOn with
 |val v=>
  induction v using R6 with
  |ref a=>exact .cond (λh=>.all (Cb h▸.q5 BS)) λ_=>.cond (λh=>.all (Cb h▸.q6 BS)) λ_=>.cond (λ_=>.guard λ_=>Ok.self.bind λfi hf=>.all (.fn BS.fns hf)) λ_=>Ok.self.bind λfi hf=>.all (.fn BS.fns hf)
  |builtin n=>exact .all .bi
  |type n=>exact .all .ty
  |_=>exact .none
 |BI k=>exact .all .BI
 |_=>exact .none
theorem XO:Ok (Nv as) λe=>∃sp,as=[.Starred e sp]:=BE.bind λa ha=>by
 rcases a with ⟨⟩<;>first | exact .none | exact .some ⟨_,ha⟩
theorem XQ(BS:CG c):Ok (IL r wr k o as S) λ_=>Ef c (.val (IZ k)):=by
 cases k with
 |fn a=>exact Ok.self.bind λfi hf=>.all (.fn BS.fns hf)
 |pop=>exact .all ((GH vU).elim λfi q=>q.elim λb q=>.fn BS.fns q.1)
 |parts=>exact .all ((GH qr).elim λfi q=>q.elim λb q=>.fn BS.fns q.1)
 |bi b=>exact .all .bi
theorem bA(h:AX S x.S (Bt c d fr lo S.H e x.v x.S.H)):jI c (d+4) fr lo S e x:=AX.imp h (·.le (BG _ 4))
theorem lD(Sd:Bk c d r):Ok (pC r fr lo S a ops bs) (jI c d fr lo S (.Compare a ops bs p)):=by
 unfold pC
 cases h1:one ops with
 |some op=>exact BE.bind λb hb=>(Sd.E fr lo S a).bind λx i=>(NB Sd).bind λy j=>.some (by rw[BE _ h1,hb];exact AX.bind i j.2 λi k=>.cmp i k.1 k.2 j.1)
 |none=>
  exact Ms.bind λo ho=>Ms.bind λb hb=>.guard λhn=>(Sd.E fr lo S a).bind λx i=>(NB Sd).bind λy j=>by
   rw[ho,hb]
   exact .cond (λht=>(NB Sd).bind λz k=>.some (AX.bind (AX.bind i j.2 Fo) k.2 λp q=>.wG p.1 p.2.1 p.2.2 (PI hn) (λ_=>⟨z.v.1,q.1,q.2⟩) λh=>nomatch h.symm.trans ht))
    λhf=>.some (AX.bind i j.2 λi k=>.wG i k.1 k.2 (PI hn) (λh=>nomatch h.symm.trans hf) λ_=>⟨rfl,rfl⟩)
theorem gd(Sd:Bk c d r):Ok (ny r fr lo S op es) (jI c d fr lo S (.BoolOp op es p)):=Ms.bind λq hq=>(Sd.E fr lo S q.1).bind λx i=>QA.bind λb hb=>by
 rw[hq]
 cases op with
 |And=>exact .cond (λh=>(Sd.E fr lo x.S q.2).mono λy j=>AX.bind i j λi j=>.YM rfl (hb▸i) (λ_=>j) λw=>AL h w) λh=>.some (AX.imp i λi=>.YM rfl (hb▸i) (λw=>nomatch w.symm.trans h) λ_=>⟨Ai AV.bool h.symm,rfl⟩)
 |Or=>exact .cond (λh=>.some (AX.imp i λi=>.YM rfl (hb▸i) (λw=>nomatch w.symm.trans h) λ_=>⟨Ai AV.bool h.symm,rfl⟩)) λh=>(Sd.E fr lo x.S q.2).mono λy j=>AX.bind i j λi j=>.YM rfl (hb▸i) (λ_=>j) λw=>AL h w
theorem Zu:Ok (pj e) λi=>∃k p,e=.Constant (.int i) k p:=by
 induction e using Hg with
 |Constant v k p=>cases v with
  |int i=>exact .some ⟨k,p,rfl⟩
  |_=>exact .none
 |_=>exact .none
theorem gf(h:DR c d fr lo H k i H')(e:Dz i=true):k=none/\H'=H:=by
 induction k using BL with
 |none=>exact⟨rfl,h.2⟩
 |some x=>exact AH h λj h=>by rw[h.1] at e;rcases e with ⟨⟩
theorem a7(BS:CG c):Ok (Xc S v l u) λy=>AX S y.S (Bt c d fr lo H e v H1->DR c d fr lo H1 lower l H2->DR c d fr lo H2 upper u S.H->Bt c d fr lo H (.Subscript e (.Slice lower upper none p) q) y.v y.S.H):=by
 induction v using AV.casesOn with
 |str x=>exact .some (AX.need λh he hl hu=>.pQ he hl hu (Bi h))
 |tup xs=>
  induction l using BL with
  |none=>exact .none
  |some i=>
   exact .guard λh=>.some (AX.mk λhe hl hu=>by
         have hi:=Bi (Am h)
         have z:=gf hu (Ax h)
         rw[z.1,z.2]
         exact .pR he hl hi.1 hi.2.1 hi.2.2)
 |lst xs=>exact .guard λh=>.some (AX.mk λhe hl hu=>.eI he hl hu (Bs _ rfl) (Bi h))
 |loc lc=>
  refine Ok.bind (P:=λxs=>Jw c S.H (.loc lc) xs\/∃dl,S.H[lc]?=some (.acc dl xs)) (Ok.self.bind λo ho=>?_) λxs hx=>.guard λh=>.some (AX.mk λhe hl hu=>hx.elim (λhv=>.eI he hl hu hv (Bi h)) λhv=>hv.elim λdl hv=>.fy BS.cls he hl hu hv (Bi h))
  induction o using AO.casesOn with
  |list xs=>exact .some (.inl (Bs _ (by show(S.H[lc]?).bind CW=_;rw[ho];rfl)))
  |acc dl xs=>exact .some (.inr ⟨dl,ho⟩)
  |_=>exact .none
 |_=>exact .none
theorem lF(BS:CG c)(Sd:Bk c d r):Ok (aj r fr lo S o i) (jI c d fr lo S (.Subscript o i p)):=(Sd.E fr lo S o).bind λx ix=>by
 cases hs:Fv i with
 |none=>exact(Sd.E fr lo x.S i).bind λk ik=>(jS (j9 BS.cls)).bind λv hv=>.some (AX.bind ix ik λa b=>.sub a b hv (XM hs))
 |some t=>
  refine(QX _ hs).elim λsp z=>?_
  rw[z]
  obtain ⟨t1,t2,t3⟩:=t
  induction t3 using BL with
  |none=>exact(Ta Sd).bind λl il=>(Ta Sd).bind λu iu=>(a7 BS).mono λy k=>AX.bind (AX.bind (AX.bind ix il Fo) iu Fo) k λp f=>f p.1.1 p.1.2 p.2
  |some st=>exact Ok.self.bind λl hl=>Zu.bind λi hi=>Zu.bind λk hk=>(Bs).bind λxs hx=>.guard λh=>.some (by
    have hh:=Bi (Ax h)
    rw[hl,CN (Am h)]
    exact hi.elim λk1 hi=>hi.elim λp1 hi=>hk.elim λk2 hk=>hk.elim λp2 hk=>by
     rw[hi,hk,hh.1]
     exact AX.bind ix (AX.need λh=>Bi h) λa b=>.qW a hx hh.2 b)
theorem JF.le(ek:JF c d fr lo H ks kv H1):JF c (d+4) fr lo H ks kv H1:=⟨ek.1,λA env π pos s E R=>ek.2 A env π pos s E (R.le (BG d 4))⟩
theorem gg(BS:CG c)(Sd:Bk c d r)(So:Zp c d r):Ok (Ub r fr lo S x as ks) (jI c (d+4) fr lo S (.Call (.Name x xp) as ks p)):=by
 unfold Ub
 cases hl:Hi fr x as ks with
 |some e=>
  exact(Sd.E fr lo S e).bind λy i=>XK.mono λz q=>(aX _ hl).elim λn w=>w.elim λyp w=>w.elim λp' w=>q.2.elim λxs q2=>q2.elim λk q2=>by
   have e1:z=⟨.int k,y.S⟩:=by rw[<-q2.1,<-q.1]
   rw[w.1,w.2.1,e1]
   exact bA (AX.imp i λi=>.Hi w.2.2.1 w.2.2.2 i q2.2.1 q2.2.2.1 q2.2.2.2)
 |none=>
  exact .guard λhn=>(IW).bind λf hf=>(Mv Sd).bind λvs i=>(jX Sd).bind λkv j=>(Ok.and (UT BS Sd So) (XN BS)).mono λz q=>
   AX.bind (AX.bind i.1 j Fo) q.1 λa b=>.Ub hf (a.1.le (BG d 4)) a.2.le (BM hn).1 q.2 b
theorem gh(h:nA k=some a):k=.fn a:=by
 cases k with
 |fn b=>exact Ai Sy.fn (AQ h)
 |_=>rcases h with ⟨⟩
theorem a8(BS:CG c)(Sd:Bk c d r)(hb:baseOk o=true)(hl:(ap.endLine==p.line)=true):Ok (SH r fr lo S o m as) (jI c (d+4) fr lo S (.Call (.Attribute o m ap) as [] p)):=
 (Sd.E fr lo S o).bind λx ix=>Ok.bind Ok.self λk hk=>by
  cases hs:Nv as with
  |some e=>
   exact(Sd.E fr lo x.S e).bind λy iy=>Fw.bind λvs hv=>Ok.bind Ok.self λa ha=>Ok.bind Ok.self λfi hf z hz=>by
    have gb:=lB BS.cls _ hk a (gh ha)
    have hlen:=(FC hz).elim λbs q=>AA (aZ _ q.1) (gc gb.1 hf)
    refine(XO _ hs).elim λsp w=>?_
    rw[w]
    exact AX.bind (AX.bind ix iy Fo) (Ph BS.fns Sd hf z hz) λp q=>(Bt.wR BS.fns p.1 hb gb (hv▸p.2) hf hlen q).le (BG _ 3)
  |none=>
   exact .guard λhn=>(Mv Sd).bind λvs i=>(Ok.and (fU BS Sd) (XQ BS)).mono λz q=>
    AX.bind (AX.bind ix i.1 Fo) q.1 λa b=>.vY (a.1.le (BG d 4)) hb hl (UE BS.cls _ hk) (a.2.le (BG d 4)) (BM hn).1 q.2 (BM hn).2 b
theorem gj(BS:CG c)(Sd:Bk c d r)(So:Zp c d r):Ok (nB r fr lo S e) (jI c (d+4) fr lo S e):=by
 induction e using Hg with
 |Name x p=>exact IW.bind λv h=>.some (AX.mk h)
 |Constant v k p=>exact GC.bind λv h=>.some (AX.mk h)
 |BinOp a op b p=>exact(Sd.E fr lo S a).bind λx i=>(Sd.E fr lo x.S b).bind λy j=>jQ.mono λz k=>bA (AX.bind (AX.bind i j Fo) k λp q=>by rw[q.1];exact .bin p.1 p.2 q.2)
 |UnaryOp op a p=>
  cases op with
  |USub=>exact(Sd.E fr lo S a).bind λx i=>Bd.bind λk hk=>.some (bA (AX.imp i λi=>.neg (hk▸i)))
  |Not=>exact(Sd.E fr lo S a).bind λx i=>(Zo BS).bind λb hb=>.some (AX.imp i λi=>(Bt.Aa4 (i.le (BG _ 2)) hb).le (BG _ 2))
  |_=>exact .none
 |Compare a ops bs p=>exact(lD Sd).mono λx i=>bA i
 |BoolOp op es p=>exact(gd Sd).mono λx i=>bA i
 |IfExp t a b p=>exact(Sd.T fr lo S t).bind λx i=>.cond (λh=>(Sd.E fr lo x.S a).mono λy j=>bA (AX.bind i j λi j=>.ite (h▸i) j)) λh=>(Sd.E fr lo x.S b).mono λy j=>bA (AX.bind i j λi j=>.ite (h▸i) j)
 |List es p=>exact .guard λhn=>(Mv Sd).bind λx i=>.some (bA (AX.imp i.1 λj=>.list j (BM hn).1 (i.2▸Zr (BM hn).2)))
 |Tuple es k p=>exact .guard λhn=>(Mv Sd).bind λx i=>.some (bA (AX.imp i.1 λj=>.tuple j (BM hn).1 (i.2▸Zr (BM hn).2)))
 |Lambda ps body sc p=>exact .guard λhd=>(Bt.qf hd).bind λfc h=>.some (AX.mk h)
 |ListComp elt gs sc p=>exact(UZ Sd).mono λx i=>bA (AX.imp i λi=>i.elim λt i=>i.elim λit i=>i.elim λifs i=>by rw[i.1];exact .comp (i.2 p))
 |Attribute o x p=>exact .guard λhb=>(Sd.E fr lo S o).bind λy i=>(fv BS.cls).bind λa ha=>.some (bA (AX.imp i λi=>.attr i hb ha))
 |Subscript o i p=>exact(lF BS Sd).mono λx i=>bA i
 |Call f as ks p=>
  induction f using Hg with
  |Name x xp=>exact gg BS Sd So
  |Attribute o m ap=>exact .guard λh=>by rw[Bj (Ax h)];exact a8 BS Sd (Ax (Am h)) (Am (Am h))
  |_=>exact .none
 |_=>exact .none
end
abbrev KI:=AV×(Int×Int)
def gk(p q:KI):Prop:=BQ p.2 q.2=true
theorem Zv:∀{acc:List KI},Ok (ai x k acc) λXa=>acc.Pairwise gk->Xa.Perm ((x,k)::acc)/\Xa.Pairwise gk
 |[]=>.some λ_=>⟨.refl _,List.pairwise_singleton _ _⟩
 |p::t=>.cond (λq=>.some λhp=>⟨.refl _,FL.mpr ⟨λz hz=>(Bc.mp hz).elim (λe=>by rw[e];exact q) λhz=>IE q ((FL.mp hp).1 z hz),hp⟩⟩)
   λ_=>.cond (λq=>Zv.bind λt' i=>.some λhp=>have w:=i (FL.mp hp).2;⟨(Rl.cons _ w.1).trans (Rl.swap _ _ _),FL.mpr ⟨λz hz=>(Bc.mp (w.1.mem_iff.mp hz)).elim (λe=>by rw[e];exact q) ((FL.mp hp).1 z),w.2⟩⟩) λ_=>.none
theorem U0:∀{ps acc:List KI},Ok (OT ps acc) λr=>acc.Pairwise gk->r.Perm (ps++acc)/\r.Pairwise gk
 |[],acc=>.some λh=>⟨.refl _,h⟩
 |p::ps,acc=>Zv.bind λXa i=>U0.mono λr j h=>have w:=i h;have z:=j w.2;⟨z.1.trans ((Rl.append_left _ w.1).trans List.perm_middle),z.2⟩
section
variable{prog:Dq}{w:DG}{A:AG}{E:EP}{s:Aj}
set_option backward.match.sparseCases true in
theorem Qn{n:Nat}(hh:A.handled=none)(hr:PySem.IsRange s.heap r a b 1 t u v)(hsmall:RY a b 1=true)(hn:E0 a b 1=n)(hlen:n<=2^24)
  (hQ:∀h' tk vs,(∀b o,s.heap.get? b=some o->h'.get? b=some o)->ItemsOf (λi v=>∃t,v=.int (a+i*1) t) vs n->Q vs.toList {s with heap:=h',toks:=tk}):Ae (AW prog w) A (collect (.ref r)) Q E s:=by
 refine Ac (wpAny_runValue (LU PySem.F.entry_proto_collect ?_))
 rw[Ka PySem.F.plain_proto_collect _]
 refine Ac (Eu ?_)
 refine An ⟨Gc dc _,LU PySem.F.entry_list_iadd ?_⟩
 rw[Ka dc _]
 have hS:(s.heap.push {cls:=.type "list",data:=.seq ([]:List Ad).toArray}).get? s.heap.objs.size=some {cls:=.type "list",data:=.seq #[] 0}:=Bp _ rfl
 have fb:∀h' tk acc c',(∀b o,b≠s.heap.objs.size->(s.heap.push {cls:=.type "list",data:=.seq ([]:List Ad).toArray}).get? b=some o->h'.get? b=some o)->h'.get? s.heap.objs.size=some {cls:=.type "list",dict:=none,data:=.seq acc c',slots := #[]}->
   ItemsOf (λi v=>∃t,v=.int (a+i*1) t) acc n->Ae (AW prog w) A (match Bq s.heap.objs.size with
   |Bq a=>do
    match (<-load a).data with
     |Sb xs _=>pure xs.toList
     |_=>RQ "internal:collect"
   |_=>RQ "internal:collect") Q E {s with heap:=h',toks:=tk}:=λh' tk acc c' hk jf hacc=>by
  refine Ac (Ol jf ?_)
  exact An (hQ h' tk acc (λb o e=>hk b o (EG (Ew e)) (B6 _ e)) hacc)
 refine AJ (wpAny_extend_range (R:=λr s'=>∃h' tk acc c',r=.ok (.ret (.ref s.heap.objs.size))/\s'={s with heap:=h',toks:=tk}/\
   (∀b o,b≠s.heap.objs.size->(s.heap.push {cls:=.type "list",data:=.seq ([]:List Ad).toArray}).get? b=some o->h'.get? b=some o)/\h'.get? s.heap.objs.size=some {cls:=.type "list",dict:=none,data:=.seq acc c',slots := #[]}/\ItemsOf (λi v=>∃t,v=.int (a+i*1) t) acc n)
  hh (B6 _ hr) hsmall hn hlen s.heap.objs.size _ 0 hS λh' tk Xa c' hk jf hacc=>⟨h',tk,Xa,c',rfl,rfl,hk,jf,hacc⟩) (λfin s' h=>?_) (λe s' h=>?_)
 ·cases fin with
  |done f=>
   obtain ⟨h',tk,acc,c',e,rfl,h1,h2,h3⟩:=h
   rcases e with ⟨⟩
   exact fb h' tk acc c' h1 h2 h3
  |again c'=>exact⟨h.1,codeAny_mono h.2 λr HM hr=>by obtain ⟨h',tk,acc,c',rfl,rfl,h1,h2,h3⟩:=hr;exact fb h' tk acc c' h1 h2 h3⟩
 ·obtain ⟨_,_,_,_,e,_⟩:=h;rcases e with ⟨⟩
theorem a9(hx:Ej s.heap x xs)(hy:Ej s.heap y ys)(ex:xs.toList=[.int a t,.int b u])(ey:ys.toList=[.int a' t',.int b' u'])
  (h:Q (BQ (a,b) (a',b')) s):Ae (AW prog w) A (keyLt' (tuples' true) (.ref x) (.ref y)) Q E s:=by
 obtain ⟨ox,hox,_,n,dx⟩:=hx
 obtain ⟨oy,hoy,_,m,dy⟩:=hy
 refine kat_lt hox dx hoy dy ?_
 have sx:xs.size=2:=by rw[<-Dt,ex];rfl
 have sy:ys.size=2:=by rw[<-Dt,ey];rfl
 rw[sx,sy,ex,ey]
 refine kat_cons (wpAny_eqBool_int ?_)
 cases q:(a==a') with
 |true=>
  have q':a=a':=by simpa using q
  refine kat_yes (kat_cons (wpAny_eqBool_int ?_))
  cases z:(b==b') with
  |true=>
   have z':b=b':=by simpa using z
   refine kat_yes (kat_nil ?_)
   rw[q',z',Mp] at h
   exact h
  |false=>
   refine kat_no (kat_one _ _ ?_)
   have:BQ (a,b) (a',b')=decide (b<b'):=by unfold BQ;simp[q']
   rw[this] at h
   exact Ry h
 |false=>
  have q':¬ a=a':=by simpa using q
  refine kat_no ?_
  have:BQ (a,b) (a',b')=decide (a<a'):=by unfold BQ;simp[q']
  rw[this] at h
  exact oneLt_int h
end
theorem getD_at{α:Type}{l:List α}(h:i<l.length)(d:α):l.getD i d=l[i]:=by rw[HG,HU h] at ⊢;rfl
theorem Ag.picks{h:Ay}(r:Ag π n h xs vs):∀{l:List Nat},(∀i∈l,i<xs.length)->Ag π n h (l.map λi=>xs.getD i AV.none) (l.map λi=>vs.getD i D1)
 |[],_=>.nil
 |i::l,h=>.cons ((r.get (HU (h i (CT ..)))).elim λv q=>by
   show As π n _ (xs.getD i AV.none) (vs.getD i D1)
   rw[getD_at (h i (CT ..)),HG,q.1] at ⊢;exact q.2) (Ag.picks r λj hj=>h j (Ed _ hj))
theorem Ag.og:∀{xs:List AV}{vs:List Ad},xs.length=vs.length->(∀(i:Nat)(x:AV)(v:Ad),xs[i]?=some x->vs[i]?=some v->As π n h x v)->Ag π n h xs vs
 |[],[],_,_=>.nil
 |[],_::_,e,_=>nomatch e
 |_::_,[],e,_=>nomatch e
 |x::xs,v::vs,e,k=>.cons (k 0 x v rfl rfl) (Ag.og (He e) λi y w h1 h2=>k (i+1) y w h1 h2)
theorem U1(hn:(b-a).toNat=n):(W9 a b).length=n:=by unfold W9;rw[AY,GV,hn]
theorem gm(hi:ItemsOf (λi v=>∃t,v=.int (a+i*1) t) vs n)(hn:(b-a).toNat=n):Ag π m h (W9 a b) vs.toList:=
 Ag.og ((U1 hn).trans (by rw[Dt,hi.1])) λi x v h1 h2=>(hi.2 i v (by rw[<-Q3] at ⊢;exact h2)).elim λt e=>by
  unfold W9 at h1
  rw[F4] at h1
  have IY:i<(b-a).toNat:=by rw[hn,<-hi.1,<-Dt];exact(NZ.mp h2).1
  rw[cj IY] at h1
  rcases h1 with ⟨⟩
  rw[e,Fc]
  exact .mkInt
theorem q7{ps:List KI}(h:i<ps.length):((ps.map (·.1)).getD i AV.none,(ps.map (·.2)).getD i (0,0))=ps[i]:=by
 rw[getD_at (by rw[AY];exact h),getD_at (by rw[AY];exact h),LF,LF]
theorem ba{qs ps:List KI}(hperm:ps.Perm qs)(hs:ps.Pairwise gk)(P:Pm qs.length p)(ha:TS (λi=>(qs.map (·.2)).getD i (0,0)) p qs.length):
  ps.map (·.1)=p.toList.map λi=>(qs.map (·.1)).getD i AV.none:=by
 have hL:(p.toList.map λi=>((qs.map (·.1)).getD i AV.none,(qs.map (·.2)).getD i (0,0))).Perm qs:=by
  refine((Q2.mp P.perm).map _).trans (.of_eq (Ri ?_ λi h1 h2=>?_))
  ·rw[AY,Rf,GV]
  ·rw[LF]
   simp only[Rf,Rh]
   exact q7 h2
 have hP:(p.toList.map λi=>((qs.map (·.1)).getD i AV.none,(qs.map (·.2)).getD i (0,0))).Pairwise gk:=by
  rw[List.pairwise_iff_getElem]
  intro i j hi hj hij
  rw[AY,Dt] at hi hj
  have hq:=ha i j hij (by rw[<-P.size];exact hj)
  unfold Lt at hq
  simp only[LF,AE.getElem_toList]
  simp only[AE.getD,hi,hj,dif_pos] at hq
  exact hq
 rw[Rl.eq_of_pairwise (λx y _ _ h1 h2=>nomatch (IE h1 h2).symm.trans Mp) hs hP (hperm.trans hL.symm),F8];rfl
theorem q8{qs ps:List KI}(hperm:ps.Perm qs)(hs:ps.Pairwise gk):Inj qs.length λi=>(qs.map (·.2)).getD i (0,0):=by
 have h1:(ps.map (·.2)).Nodup:=List.pairwise_map.mpr (hs.imp λ{x y} h e=>by unfold gk at h;rw[e,Mp] at h;rcases h with ⟨⟩)
 have h2:=(hperm.map (·.2)).nodup_iff.mp h1
 have hl:(qs.map (·.2)).length=qs.length:=AY ..
 exact λi j hi hj e=>(List.getElem_inj h2).mp ((getD_at (hl.symm▸hi) _).symm.trans (e.trans (getD_at (hl.symm▸hj) _)))
section
variable{c:Cx}{d:Nat}
def gp(c:Cx)(d:Nat)(k:Sq)(n:Nat)(S:St)(xs:List AV)(y:Rt (List KI)):Prop:=y.v.map (·.1)=xs/\AX S y.S
 (∀{q:Ad}{A:AG},A5 (d+1) A->∀{π₁:Pl}{H₁:List AO}{s₁:Aj}{E:EP}{kS:Ah}{body:Ad->EW->Sem (Em EW)},H₁.length=n+2->π₁.at' (n+1)=kS->
  (∀x (s:Aj)(Q:Em EW->Aj->Prop),Ae c.m A (call q [x]) (λkv s'=>∃vs e,s'.heap.get? kS=some (DY "list" vs e)/\vs.size<64/\Q (.yield ⟨⟩) {s' with heap:=s'.heap.update kS (C6 (·.push kv))}) (λ_ _=>Cd) s->Ae c.m A (body x ⟨⟩) Q E s)->
  ∀{kz0:List (Int×Int)}{vs:List Ad}{π:Pl}{s:Aj},PG c (n+1) none π₁ H₁ s₁ S.H π s->S.H[n+1]?=some (.list (kz0.map JE))->kz0.length+xs.length<64->As π S.H.length s.heap (.BI k) q->Ag π S.H.length s.heap xs vs->
   Ae c.m A (forIn vs EW.unit body) (λ_ s'=>∃π',PG c (n+1) none π₁ H₁ s₁ y.S.H π' s'/\y.S.H[n+1]?=some (.list ((kz0++y.v.map (·.2)).map JE))) E s)
theorem U2(Sd:Bk c d r):∀{xs:List AV}{S:St},Ok (dU r k n S xs) (gp c d k n S xs)
 |[],S=>.some ⟨rfl,AX.mk λ{q A} R {π₁ H₁ s₁ E kS body} hH hat hb {kz0 vs π s} P hS hsz rq rx=>by
   rw[rx,LJ]
   exact An ⟨π,P,by rw[List.map_nil,DW];exact hS⟩⟩
 |x::xs,S=>(Un Sd).bind λkv i=>Fw.bind λt ht=>O4.bind λp hp=>listAt.bind λks oh=>(U2 Sd).bind λy j=>.some ⟨Ai (x :: ·) j.1,AX.bind (S':=kv.S) i j.2 λcx ih {q A} R {π₁ H₁ s₁ E kS body} hH hat hb {kz0 vs π s} P hS hsz rq rx=>
   AH rx λv rx=>rx.elim λws rx=>by
  rw[rx.1,FP]
  have hl:=P.le
  refine Ac (hb v s _ (AJ (cx A π s (λ_ _=>Cd) q [v] [] R ((pw [.e .p (.A .q (.k 2)),.l .p .r] (.l (.A .q (.k 2)) .r) [] [_,_,_]) hH hl) P.g rq (.cons rx.2.1 .nil) .nil) (λcv s' w=>w.elim λπ' w=>?_) λ_ _ x=>x))
  have e1:=AO.list.inj (AQ (hS.symm.trans ((w.1.old (n+1) ((pw [] (.t (.A .p (.k 1)) (.A .p (.k 2))) [] [_]))).symm.trans oh)))
  have PA:=P.trans (w.1.Kj ((pw [] (.l (.A .p (.k 1)) (.A .p (.k 2))) [] [_])))
  have Aa8:=(PA.agree (n+1) ((pw [.e .p (.A .q (.k 2))] (.t (.A .q (.k 1)) .p) [] [_,_]) hH)).trans hat
  refine(w.1.g.objs (n+1) _ oh).elim λvg z=>z.elim λke z=>?_
  have hsk:=z.2.size.trans (e1▸AY ..)
  rw[JQ] at hsz
  rw[<-Aa8]
  refine⟨vg,ke,z.1,(pw [.t (.A .p (.A .q (.k 1))) (.k 64),.e .r .p] (.t .r (.k 64)) [] [_,_,_]) hsz hsk,?_⟩
  have rv:As π' kv.S.H.length s'.heap (JE p) cv:=by have:=w.2;rw[ht,hp] at this;exact this
  have P3:=CY (o:=.list (ks++[JE p])) (f:=C6 λx=>x.push cv) w.1.g (w.1.g.lt oh) (AP _) z.1 CZ CZ rfl s'.toks (λh' S e'=>⟨vg.push cv,_,e',(z.2.step S).snoc (rv.step S)⟩)
  have hlen:(setAt kv.S (n+1) (.list (ks++[JE p]))).H.length=kv.S.H.length:=F6
  refine AJ (ih R hH hat hb (kz0:=kz0++[p]) (PA.trans P3.1) ?_ (by rw[BP,List.length_singleton];exact(pw [.t (.A .p (.A .q (.k 1))) (.k 64)] (.t (.A (.A .p (.k 1)) .q) (.k 64)) [] [_,_]) hsz) (hlen▸(rq.pg w.1 P.g).step P3.2) (hlen▸(rx.2.2.pg w.1 P.g).step P3.2)) (λ_ HM w2=>w2.imp λπ₂ w2=>⟨w2.1,by rw[w2.2,FO];rfl⟩) λ_ _ x=>x
  show(kv.S.H.set (n+1) _)[n+1]?=_
  rw[bU (w.1.g.lt oh),<-e1,LI] at ⊢;rfl⟩
end
section
variable{c:Cx}{d:Nat}
noncomputable abbrev y4(qs:List KI)(i:Nat):Int×Int:=(qs.map (·.2)).getD i (0,0)
theorem gq(hkr:Ag π n h ((qs.map (·.2)).map JE) keys)(hi:i<qs.length):∃a t u,keys.getD i D1=.ref a/\Ej h a #[.int (y4 qs i).1 t,.int (y4 qs i).2 u]:=by
 have hl:=AY (as:=qs) (·.2)▸hi
 refine(hkr.get (by rw[F4,HU hl] at ⊢;exact Ai (λk=>some (JE k)) (getD_at hl _).symm)).elim λv q=>q.2.tup.elim λa w=>w.elim λxs w=>w.2.2.2.ints2.elim λt z=>z.elim λu z=>⟨a,t,u,?_,z▸w.2.1⟩
 rw[HG,q.1] at ⊢;exact w.1
theorem wU:∀(l:List Ad),(∀v∈l,∃a o xs m f t,v=.ref a/\h.get? a=some o/\o.cls=.type "tuple" /\o.data=.seq xs m/\xs[0]?=some (.int f t))->∃fs:List Ad,KatTups h l fs/\fs.length=l.length/\∀v∈fs,∃f t,v=.int f t
 |[],_=>⟨[],.nil,rfl,λv hv=>nomatch hv⟩
 |v::l,k=>(wU l λv hv=>k v (Ed _ hv)).elim λfs q=>(k v (CT ..)).elim λa z=>z.elim λo z=>z.elim λxs z=>z.elim λm z=>z.elim λf z=>z.elim λt z=>
   ⟨.int f t::fs,by rw[z.1];exact .cons z.2.1 z.2.2.1 z.2.2.2.1 z.2.2.2.2 q.1,Ai Gb q.2.1,λw hw=>(Bc.mp hw).elim (λe=>⟨f,t,e⟩) (q.2.2 w)⟩
theorem lG{qs ps:List KI}
  (h2: 2<=qs.length)(h60:qs.length<60)(hperm:ps.Perm qs)(hs:ps.Pairwise gk)(G1:Av c π₁ H₁ s₁)(P:PG c (N+1) none π₁ H₁ s₁ H π s)(hH:H₁.length=N+2)(hD:π₁.at' N=D)(hkS:π₁.at' (N+1)=kS)
  (hDo:s₁.heap.get? D=some (DY "list" #[] e1))(hK:H[N+1]?=some (.list ((qs.map (·.2)).map JE)))(rx:Ag π H.length s.heap (qs.map (·.1)) vl)
  (q:∀s' π' H' out e,PG c N none π₁ H₁ s₁ H' π' s'->s'.heap.get? D=some (DY "list" out e)->Ag π' H'.length s'.heap (ps.map (·.1)) out.toList->Q (.done (.ret .none)) s')
  (hko:s.heap.get? kS=some (DY "list" keys ke))(hkr:Ag π H.length s.heap ((qs.map (·.2)).map JE) keys.toList):Ae c.m A (ksk_end D false vl.toArray e1 (.ref kS) keys) Q E s:=by
 have hl:=P.le
 have lH:=rx.length.trans (AY ..)
 have oh:=hkr.size.trans ((AY ..).trans (AY ..))
 have hkl:keys.toList.length=vl.length:=by rw[Dt,oh,lH]
 have wI:¬ vl.toArray.size<2:=by rw[LD,lH];exact EI.mpr h2
 have hDs:s.heap.get? D=some (DY "list" #[] e1):=by
  have:=P.nD G1 (o:=DY "list" #[] e1) (CF _) ((pw [.e .p (.A .q (.k 2))] (.t .q .p) [] [_,_]) hH)
  rw[hD] at this
  exact this hDo
 have hDat:=(P.agree N ((pw [.e .p (.A .q (.k 2))] (.t .q .p) [] [_,_]) hH)).trans hD
 have hKat:=(P.agree (N+1) ((pw [.e .p (.A .q (.k 2))] (.t (.A .q (.k 1)) .p) [] [_,_]) hH)).trans hkS
 unfold ksk_end
 dsimp only
 rw[AD BJ,AD wI,AD wI,AD BJ]
 refine Bl λGG fin=>(wU keys.toList λv hv=>(List.getElem_of_mem hv).elim λi w=>w.elim λhi e=>(gq hkr (by rw[Dt,oh] at hi;exact hi)).elim λa z=>z.elim λt z=>z.elim λu z=>z.2.elim λo y=>y.2.2.elim λm hd=>⟨a,o,_,m,_,t,by rw[<-e,<-z.1];exact(getD_at hi _).symm,y.1,y.2.1,hd,rfl⟩).elim λfs f=>fin ?_
 rw[show keys=We keys.toList from(VR).symm]
 refine Ac (kat_kind (T:=.type "int") f.1 (by rw[f.2.1,hkl,lH];exact(pw [.l (.k 2) .p] (.t (.k 0) .p) [] [_]) h2) (λv hv=>(f.2.2 v hv).elim λi z=>z.elim λt z=>z▸AR.now) ⋯ ?_)
 rw[show(Fl "int" !=Fl "tuple")=true by decide]
 refine Ac (AJ (kat_run (G:=λp s'=>s'=s/\Pm qs.length p/\TS (y4 qs) p qs.length) (Q:=λqP s'=>s'=s/\∃p:AE Nat,Pm qs.length p/\TS (y4 qs) p qs.length/\arrOf qP=p.map (kas_item ((We keys.toList).zip vl.toArray))/\failedOf qP=none)
  hkl ((pw [.l (.k 2) .p,.e .q .p] (.l (.k 2) .q) [] [_,_]) h2 lH) ((pw [.t .p (.k 60),.e .q .p] (.t .q (.k 64)) [] [_,_]) h60 lH) (λp' qP s' a1 a2 a3 a4=>⟨a4.1,p',a4.2.1,a4.2.2,a2,a3⟩) ?_) (λr s' h=>?_) λ_ _ x=>x)
 ·rw[lH]
  refine pd (λi j C hi hj hC=>?_) (q8 hperm hs) ((pw [.l (.k 2) .p] (.l (.k 1) .p) [] [_]) h2) λp' P' a'=>⟨rfl,P',a'⟩
  refine(gq hkr hi).elim λa z=>z.elim λt z=>z.elim λu z=>(gq hkr hj).elim λb y=>y.elim λt' y=>y.elim λu' y=>?_
  unfold kas_ask
  rw[z.1,y.1]
  exact a9 z.2 y.2 rfl rfl hC
 refine Bl λGG fin=>h.2.elim λp w=>fin ?_
 obtain ⟨⟨⟩,qP⟩:=r
 obtain rfl:=h.1
 have har:=w.2.2.1
 dsimp only
 unfold ksk_tail
 refine Ac (Rz hko rfl ?_ (by rw[Ii];exact(pw [.t .p (.k 60),.e .q .p] (.l .q (.k 16777216)) [] [_,_]) h60 oh) (Co _))
 refine Ac (L4 ?_)
 have P3:=CY (o:=.list []) (f:=C6 λ_=>(#[]:AE Ad)) P.g (P.g.lt hK) (AP _) (hKat.symm▸hko) CZ CZ rfl s'.toks (λh' S e'=>⟨#[],_,e',.nil⟩)
 rw[hKat] at P3
 have lI:(s'.heap.update kS (C6 λ_=>(#[]:AE Ad))).get? D=some (DY "list" #[] e1):=by
  have:=P3.1.nD P.g (o:=DY "list" #[] e1) (CF _) (by exact(pw [.e .p (.A .q (.k 2)),.l .p .r] (.t .q .r) [] [_,_,_]) hH hl)
  rw[hDat] at this
  exact this hDs
 refine Ac (seqEpoch_at lI rfl ?_)
 rw[kat_snds (ks:=keys.toList) (vs:=vl) hkl har]
 have hpl:p.toList.length=qs.length:=by rw[Dt,w.1.size]
 refine Ac (Rz lI rfl ?_ (Co _) (by rw[AD BJ,LD,AY,hpl,Ii];exact(pw [.t .p (.k 60)] (.l .p (.k (16777216+1))) [] [_]) h60))
 rw[w.2.2.2]
 rw[bne_self_eq_false]
 have hlen3:(H.set (N+1) (.list [])).length=H.length:=F6
 have Aa9:Ag π H.length s'.heap (ps.map (·.1)) (p.toList.map λi=>vl.getD i D1):=by
  rw[ba hperm hs w.1 w.2.1]
  refine rx.picks λi hi=>?_
  have:=(Q2.mp w.1.perm).mem_iff.mp hi
  rw[AY]
  simpa using this
 have oi:=Aa9.step P3.2
 have P4:=CY (wr:=N) (l:=N) (o:=.list (ps.map (·.1))) (ob:=DY "list" #[] e1) (f:=C6 λ_=>We (p.toList.map λi=>vl.getD i D1)) P3.1.g (by rw[hlen3];exact(pw [.e .p (.A .q (.k 2)),.l .p .r] (.t .q .r) [] [_,_,_]) hH hl) (AP _) (hDat.symm▸lI) CZ CZ rfl s'.toks
  (λh' S e'=>⟨_,_,e',(hlen3.symm▸oi).step S⟩)
 rw[hDat] at P4
 exact An (q _ π _ _ _ (((P.Kj (Dw _)).trans (P3.1.Kj (Dw _))).trans P4.1) (get?_update_seq lI _) (by rw[F6];exact(hlen3.symm▸oi).step P4.2))
end
section
variable{c:Cx}{d:Nat}
theorem q9(H:List AO)(a b:AO):(H++[a,b]).length=H.length+2:=(Y9 H a b).2.2
theorem gu{S:St}{ps:List KI}
  (R:A5 (d+1) A)(ob:y.S.ob=true)(K:gp c d k S.H.length (S.on (S.H++[AO.list [],AO.list []])) xs y)(h2: 2<=y.v.length)(h60:y.v.length<60)(hperm:ps.Perm y.v)(hs:ps.Pairwise gk)(G5:Av c π5 (S.H++[AO.list [],AO.list []]) s5)
  (hD5:π5.at' S.H.length=D)(hkS5:π5.at' (S.H.length+1)=kS)(hDo:s5.heap.get? D=some (DY "list" #[] e1))(rq:As π5 (S.H++[AO.list [],AO.list []]).length s5.heap (.BI k) (.ref qa))(rx:∀{π':Pl}{n:Nat}{h:Ay},Ag π' n h xs vl)
  (q:∀s' π' H' out e,PG c S.H.length none π5 (S.H++[AO.list [],AO.list []]) s5 H' π' s'->s'.heap.get? D=some (DY "list" out e)->Ag π' H'.length s'.heap (ps.map (·.1)) out.toList->Q (.done (.ret .none)) s'):
  Ae c.m A (ksk_rest D (.ref qa) false vl.toArray e1 (.ref kS)) Q E s5:=by
 have hH5:=q9 S.H (.list []) (.list [])
 have hxl:xs.length=y.v.length:=by rw[<-K.1,AY]
 refine Ac (Gd ?_)
 first
  |rw[List.forIn_toArray]
  |(rw[<-AE.forIn_toList];simp only[Rf])
  |rw[<-AE.forIn_toList]
 refine Ac (AJ ((K.2 ob).2 R hH5 hkS5 (λx s Q h=>?_) (kz0:=[]) (PG.refl G5) ((Y9 S.H (.list []) (.list [])).2.1) (by rw[N2,hxl];exact(pw [.t .p (.k 60)] (.t (.A (.k 0) .p) (.k 64)) [] [_]) h60) rq rx) (λ_ s' h=>?_) λ_ _ x=>x)
 ·refine Ac (GZ (AJ h (λkv s' h=>h.elim λvs h=>h.elim λe h=>?_) λ_ _ f=>f.elim))
  exact Ac (Rz h.1 rfl (An h.2.2) (by rw[Ii];lia) (by rw[AE.size_push,Ii];lia))
 ·refine Bl λGG fin=>h.elim λπ' w=>(w.1.g.objs (S.H.length+1) _ w.2).elim λvg z=>z.elim λke z=>fin ?_
  have Abb:=(w.1.agree _ (by rw[hH5];exact CF _)).trans hkS5
  have hko:=Abb▸z.1
  refine Ac (listItems_at hko rfl ?_)
  exact lG h2 h60 hperm hs G5 w.1 hH5 hD5 hkS5 hDo w.2 (K.1▸rx) q hko z.2
theorem gv{S:St}{ps:List KI}
  (R:A5 (d+1) A)(ob:y.S.ob=true)(K:gp c d k S.H.length (S.on (S.H++[AO.list [],AO.list []])) xs y)(h2: 2<=y.v.length)(h60:y.v.length<60)(hperm:ps.Perm y.v)(hs:ps.Pairwise gk)(G2:Av c π2 (S.H++[AO.list xs]) s2)
  (hat2:π2.at' S.H.length=D)(hoD:s2.heap.get? D=some (DY "list" vl.toArray 0))(rq:As π2 (S.H++[AO.list xs]).length s2.heap (.BI k) (.ref qa))(rx:∀{π':Pl}{n:Nat}{h:Ay},Ag π' n h xs vl)
  (q:∀s' π' H' out e,PG c S.H.length none π2 (S.H++[AO.list xs]) s2 H' π' s'->s'.heap.get? D=some (DY "list" out e)->Ag π' H'.length s'.heap (ps.map (·.1)) out.toList->Q (.done (.ret .none)) s'):
  Ae c.m A (ksk_tree D (.ref qa) false) Q E s2:=by
 have lH:vl.length<60:=by rw[(rx (π':=π2) (n:=0) (h:=s2.heap)).length,<-K.1,AY];exact h60
 refine Ac (listItems_at hoD rfl ?_)
 refine Ac (Rz hoD rfl ?_ (by rw[LD,Ii];exact(pw [.t .p (.k 60)] (.l .p (.k 16777216)) [] [_]) lH) (Co _))
 have hl1:∀o:AO,(S.H++[o]).length=S.H.length+1:=λo=>BP
 have P3:=CY (o:=.list []) (f:=C6 λ_=>(#[]:AE Ad)) G2 (hl1 _▸CF _) (AP _) (hat2.symm▸hoD) CZ CZ rfl s2.toks (λh' S e'=>⟨#[],_,e',.nil⟩)
 have tS:∃e1,(s2.heap.update D (C6 λ_=>(#[]:AE Ad))).get? D=some (DY "list" #[] e1):=⟨_,get?_update_seq hoD λ_ => #[]⟩
 rw[hat2,show(S.H++[AO.list xs]).set S.H.length (.list [])=S.H++[.list []] by simp] at P3
 revert P3 tS
 generalize s2.heap.update D (C6 λ_=>(#[]:AE Ad))=h3
 intro P3 tS
 refine tS.elim λe1 tS=>Ac (seqEpoch_at tS rfl (Ac (LV (Ac (Oi (BF ?_) (Co _))) (by rw[Rf,Ii];exact(pw [.t .p (.k 60)] (.l .p (.k 16777216)) [] [_]) lH))))
 have P4:=P3.1.DT (Kp.BU {cls:=.type "tuple",data:=.seq vl.toArray.toList.toArray})
 have g5:((h3.push {cls:=.type "tuple",data:=.seq vl.toArray.toList.toArray}).push {cls:=.type "list",data:=.seq ([]:List Ad).toArray}).get? (h3.push {cls:=.type "tuple",data:=.seq vl.toArray.toList.toArray}).objs.size=some {cls:=.type "list",data:=.seq ([]:List Ad).toArray}:=Bp _ rfl
 have P5:=PG.add (wr:=S.H.length) (o:=.list []) P4.g (hl1 _▸Dw _) (Kp.BU {cls:=.type "list",data:=.seq ([]:List Ad).toArray}) (Bx _ (AP _)) ⟨#[],_,g5,.nil⟩ ⟨_,g5,CZ⟩
 have PA:=P4.trans P5
 rw[FO] at P5 PA
 have atN:(ext π2 (S.H++[AO.list []]).length (h3.push {cls:=.type "tuple",data:=.seq vl.toArray.toList.toArray}).objs.size).at' S.H.length=D:=(Eo (hl1 _▸CF _)).trans hat2
 exact gu R ob K h2 h60 hperm hs P5.g atN (by rw[<-hl1 (.list [])];exact D7) (B6 _ (B6 _ tS)) (rq.pg PA G2) rx λs' π' H' out e P h r=>q s' π' H' out e (PA.trans P) h r
theorem rd(h0: 0<=a)(hab:a+2<=b)(h60:b<60):E0 a b 1=(b-a).toNat/\RY a b 1=true:=by
 have hrs:E0 a b 1=(b-a).toNat:=by
  unfold E0
  rw[Bh ⋯,Bh (by exact(pw [.L (.A .p (.j 2)) .q] (.T .p .q) [_,_] []) hab),Int.ediv_one]
  exact(pw [.L (.A .p (.j 2)) .q] (.E (.A (.S (.S .q .p) (.j 1)) (.j 1)) (.n (.d (.S .q .p)))) [_,_] []) hab
 have wV:∀x:Int,x.natAbs<100->cX x=true:=λx hx=>by
  unfold cX
  simp only[HQ,Gl]
  exact(pw [.t (.b .p) (.k 100)] (.a (.L (.g (.j (2^63))) .p) (.T .p (.j (2^63)))) [_] []) hx
 refine⟨hrs,?_⟩
 unfold RY
 rw[hrs,wV a ((pw [.L (.j 0) .p,.L (.A .p (.j 2)) .q,.T .q (.j 60)] (.t (.b .p) (.k 100)) [_,_] []) h0 hab h60),wV b ((pw [.L (.j 0) .p,.L (.A .p (.j 2)) .q,.T .q (.j 60)] (.t (.b .q) (.k 100)) [_,_] []) h0 hab h60),wV 1 ⋯,wV ((b-a).toNat) ((pw [.L (.j 0) .p,.T .q (.j 60)] (.t (.b (.n (.d (.S .q .p)))) (.k 100)) [_,_] []) h0 h60)] at ⊢
 simp only[Aa.and_self,Aa.true_and,Aa.or_eq_true]
 right
 exact wV _ ((pw [.L (.j 0) .p,.L (.A .p (.j 2)) .q,.T .q (.j 60)] (.t (.b (.A .q (.S (.j 1) (.j 1)))) (.k 100)) [_,_] []) h0 hab h60)
theorem Zw:∀{xs:List AV}{vs:List Ad},(∀x∈xs,∃i,x=.int i)->Ag π n h xs vs->Ag π' n' h' xs vs
 |[],vs,_,r=>r
 |x::xs,vs,k,r=>AH r λv r=>r.elim λws r=>(k x (CT ..)).elim λi e=>by
   rw[r.1]
   exact .cons (by have:=r.2.1;rw[e] at this ⊢;exact this) (Zw (λy hy=>k y (Ed _ hy)) r.2.2)
theorem oj(Sd:Bk c d r):Zp c d r:=λ{f as ks wr S}=>BE.bind λkw hkw=>fV.bind λk hk=>BE.bind λa0 ha=>fW.bind λt ht=>.guard λhg=>(U2 Sd).bind λy K=>U0.bind λps hp=>.some λho=>⟨(K.2 ho).1,by
  obtain rfl:=Hn (BC (Ax (Ax hg)))
  obtain ⟨kn,kv⟩:=kw
  obtain rfl:kn="key" :=BC (Am (Ax hg))
  obtain rfl:kv=.BI k:=hk
  obtain ⟨a,b,st⟩:=t
  obtain ⟨rfl,h0,hab,h60⟩ :st=1/\0<=a/\a+2<=b/\b<60:=Bi (Am hg)
  subst hkw ha ht
  have hperm:ps.Perm y.v:=by have:=(hp .nil).1;rwa[DW] at this
  have wW:=(hp .nil).2
  have hn:y.v.length=(b-a).toNat:=by rw[<-U1 rfl,<-K.1,AY]
  intro A π s E cf cargs Gr R hw G rf ra rk
  rcases rf.val with ⟨⟩
  refine Bl λGG fin=>AH ra λcv ra=>ra.elim λws ra=>AH rk λq rk=>rk.elim λus rk=>ra.2.1.Gw.elim λrr hr=>hr.2.1.elim λtx wX=>wX.elim λty wX=>wX.elim λtz wX=>rk.2.1.BI.elim λqa hq=>fin ?_
  rw[ra.1,rk.1,ra.2.2,rk.2.2,hr.1,hq.1]
  have hrq:=rk.2.1
  rw[hq.1] at hrq
  refine call_function_entry_kw kind_sorted plain_sorted entry_sorted (ksk_s1 _ _) ?_
  refine Ac (An ?_)
  have sm:=rd h0 hab h60
  refine Ac (Qn R.handled wX sm.2 sm.1 ((pw [.L (.j 0) .p,.T .q (.j 60)] (.l (.d (.S .q .p)) (.k (2^24))) [_,_] []) h0 h60) λh1 tk1 vs hk1 hit=>?_)
  have P1:PG c S.H.length none π S.H s S.H π {s with heap:=h1,toks:=tk1}:=.pure G (.of_keeps hk1)
  have rx:∀{π':Pl}{n:Nat}{h:Ay},Ag π' n h (W9 a b) vs.toList:=gm hit rfl
  have hvs:vs.toList.length<=BY:=by rw[Dt,hit.1,Ii];exact(pw [.L (.j 0) .p,.T .q (.j 60)] (.l (.d (.S .q .p)) (.k 16777216)) [_,_] []) h0 h60
  refine Ac (Oi ?_ hvs)
  have g2:(h1.push {cls:=.type "list",data:=.seq vs.toList.toArray}).get? h1.objs.size=some {cls:=.type "list",data:=.seq vs.toList.toArray}:=Bp _ rfl
  have P2:=PG.add (o:=.list (W9 a b)) P1.g (AP _) (Kp.BU {cls:=.type "list",data:=.seq vs.toList.toArray}) (Bx _ (AP _)) ⟨_,_,g2,rx⟩ ⟨_,g2,CZ⟩
  have hDn:=P1.gone (Bx h1 (AP _))
  show Ae _ _ (holding [Bq h1.objs.size] (call (.builtin "list.sort") [.ref h1.objs.size] [(Gi "key",.ref qa)])>>=λ_=>ret (.ref h1.objs.size)) _ _ {s with heap:=h1.push {cls:=.type "list",data:=.seq vs.toList.toArray},toks:=tk1}
  refine Ac (BF (wpAny_call_entry_kw slot_list_sort ⟨_,g2,rfl⟩ entry_list_sort ?_ (ksk_l1 _ _)))
  rw[ksk_t1]
  refine gv (A5.le (A5.in1 (A5.in1 R)) (Dw _)) ho K ((pw [.L (.A .p (.j 2)) .q,.e .p (.d (.S .q .p))] (.l (.k 2) .p) [_,_] [_]) hab hn) ((pw [.L (.j 0) .p,.T .q (.j 60),.e .p (.d (.S .q .p))] (.t .p (.k 60)) [_,_] [_]) h0 h60 hn) hperm wW P2.g D7 g2 (hrq.pg (P1.trans P2) G) rx λHM yM EY out e PP Abd Abe=>⟨.none,rfl,An ⟨.ref h1.objs.size,rfl,π,PG.forget G ((P1.trans P2).trans PP),h1.objs.size,out,rfl,⟨_,Abd,rfl,rfl,e,rfl⟩,G.fresh hDn,?_⟩⟩
  refine Zw (λx hx=>?_) Abe
  have:=(hperm.map (·.1)).mem_iff.mp hx
  rw[K.1] at this
  exact(CD.mp this).imp' (λi:Nat=>a+i) λi z=>z.2.symm⟩
end
section
variable{c:Cx}
theorem PJ(BS:CG c):∀n,Bk c (4*n) (ev n)
 |0=>⟨λ_ _ _ _=>.none,λ_ _ _ _=>.none,λ_ _ _ _=>.none⟩
 |n+1=>
  have Sd:=PJ BS n
  ⟨λ_ _ _ _=>gj BS Sd (oj Sd),λ_ _ _ _=>(fY BS Sd).mono λ_ i=>AX.imp i (·.le (BG _ 2)),λ_ _ _ _=>(f6 BS Sd).mono λ_ i=>AX.imp i (·.le (BG _ 4))⟩
theorem XR(BS:CG c)(h:ak n xs=some x)(ho:x.S.ob=true):DQ c (4*n+4) [] 0 (.val (.ref 294)) [.lst (xs.map .int)] [] x.v x.S.H:=(UT BS (PJ BS n) (oj (PJ BS n)) x h ho).2
end
def bb(a:Ah):Aa:=TB.any (Aw a)
theorem lJ(h:a∈TB):bb a=true:=JP.mpr ⟨a,h,Ib a⟩
noncomputable def B7:AI->AI
 |[]=>[]
 |p::r=>cond (bb p.1) (B7 r) (p::B7 r)
theorem Hp:∀{K:AI},(B7 K).lookup a=some o->a∉TB
 |p::r,h=>by
  revert h
  show C2 a (cond (bb p.1) (B7 r) (p::B7 r))=_->_
  cases q:bb p.1 with
  |true=>exact Hp
  |false=>
   show C2 a ((p.1,p.2)::B7 r)=_->_
   rw[Dk]
   cases e:a==p.1 with
   |true=>exact λ_ hm=>by rw[eq_of_beq e] at hm;rw[lJ hm] at q;cases q
   |false=>exact Hp
theorem MD:∀{K:AI},(B7 K).lookup a=some o->K.lookup a=some o
 |p::r,h=>by
  have hn:=Hp h
  revert h
  show C2 a (cond (bb p.1) (B7 r) (p::B7 r))=_->C2 a ((p.1,p.2)::r)=_
  rw[Dk]
  cases q:bb p.1 with
  |true=>
   intro h
   have ne:(a==p.1)=false:=Gx.mpr λe=>hn (by
    obtain ⟨b,hb,e2⟩:=JP.mp q
    rw[eq_of_beq e,Cb e2];exact hb)
   rw[ne]
   exact MD h
  |false=>
   show C2 a ((p.1,p.2)::B7 r)=_->_
   rw[Dk]
   induction a==p.1 using Eh with
   |true=>exact id
   |false=>exact MD
noncomputable def gw(o:Obj):Ab (AE RV):=match o.data with | .dict es _=>some es | _=>none
noncomputable def Jo(o:Obj):Ab (AE Ad):=match o.data with | .fields vs=>some vs | _=>none
noncomputable def PK(o:Obj):Aa:=match o.data with | .plain=>true | _=>false
noncomputable def refOf(v:Ad):Ab Ah:=match v with | .ref a=>some a | _=>none
noncomputable def ME(v:Ad):Ab (Str×Tok):=match v with | .str x t=>some (x,t) | _=>none
noncomputable def XS(v:Ad):Ab (Int×Tok):=match v with | .int x t=>some (x,t) | _=>none
theorem gx:Ok (gw o) λes=>∃k,o.data=.dict es k:=by unfold gw;rcases o.data with ⟨⟩<;>first | exact .none | exact .some ⟨_,rfl⟩
theorem Hq:Ok (Jo o) λvs=>o.data=.fields vs:=by unfold Jo;rcases o.data with ⟨⟩<;>first | exact .none | exact .some rfl
theorem U3(h:PK o=true):o.data=.plain:=by revert h;unfold PK;rcases o.data with ⟨⟩<;>first | exact λh=>ff h | exact λ_=>rfl
theorem U4:Ok (refOf v) λa=>v=.ref a:=by rcases v with ⟨⟩<;>first | exact .none | exact .some rfl
theorem GJ:Ok (ME v) λx=>v=.str x.1 x.2:=by rcases v with ⟨⟩<;>first | exact .none | exact .some rfl
theorem QZ:Ok (XS v) λx=>v=.int x.1 x.2:=by rcases v with ⟨⟩<;>first | exact .none | exact .some rfl
theorem KW{P:α->Prop}(k:Ok o P)(h:Bz o p=true):∃a,P a/\p a=true:=(A0 h).imp λa q=>⟨k a q.1,q.2⟩
def bc(K:AI)(a:Ah):Ab (AE RV):=(K.lookup a).bind gw
def KX(es:AE RV):Aa:=es.toList.all λe => !Dz (ME e.key)
theorem U5{o:Ab α}(h:(!Dz o)=true):∃a,o=some a:=by
 induction o using BL with
 |none=>exact ff h
 |some a=>exact⟨a,rfl⟩
theorem U6{K:AI}(X:K.In h)(e:bc K a=some es)(hs:KX es=true):h.Ns a (ER es):=
 (FC e).elim λo q=>(gx _ q.2).elim λk hd=>⟨o,es,k,X _ _ q.1,hd,λx hx=>(U5 (BW.mp hs x (AE.mem_toList_iff.mpr hx))).elim λt ht=>⟨t.1,t.2,GJ _ ht⟩,λ_=>rfl⟩
def Abf(o:Obj):Aa:=o.cls==.type "module" &&(o.dict==some C4&&PK o)
def gy(K:AI):Aa:=Bz (bc K DN) λeg=>Bz (bc K C4) λeb=>KX eg&&(KX eb&&Bz ((ER eg "__builtins__").bind refOf) λbm => !Nat.beq bm C4&&Bz (K.lookup bm) Abf)
def PL(K:AI)(x:Str)(p:Ad->Aa):Aa:=Bz (bc K DN) λeg=>Bz (bc K C4) λeb=>Bz (orO (ER eg x) (ER eb x)) p
theorem NC{K:AI}(X:K.In h)(hn:gy K=true)(hg:PL K x p=true):∃v,p v=true/\Glob h x v:=
 (A0 hn).elim λeg g=>(A0 g.2).elim λeb b=>(A0 hg).elim λeg' g'=>(A0 g'.2).elim λeb' b'=>(A0 b'.2).elim λv w=>⟨v,w.2,ER eg,ER eb,U6 X g.1 (Ax b.2),U6 X b.1 (Ax (Am b.2)),by
  have h:=w.1
  rw[<-AQ (g.1.symm.trans g'.1),<-AQ (b.1.symm.trans b'.1)] at h
  cases q:ER eg x with
  |none=>rw[q] at h;exact .inr ⟨rfl,h⟩
  |some u=>rw[q] at h;exact .inl h⟩
def gtB(K:AI):Aa:=GT.all λp=>PL K p.1 (p.2 == ·)
def Zx(t:Ah×Ah×Str)(o:Obj):Aa:=o.cls==.type "code" &&Bz (Jo o) λvs=>(vs[11]? :Ab Ad)==some (.ref t.2.1)&&(vs.getD 11 .none==.ref t.2.1&&(!Dz (ME (vs.getD 18 .none))&&(!Dz (XS (vs.getD 7 .none))&&(!Dz (Yy (vs.getD 9 .none)) && !Dz (XS (vs.getD 10 .none))))))
def om(o:Obj):Aa:=o.cls==.none&&(Dz o.dict&&(o.slots.isEmpty&&Bz (Jo o) λvs=>vs.isEmpty))
def wY(K:AI)(t:Ah×Ah×Str):Aa := !Nat.beq t.1 t.2.1&&(Bz (K.lookup t.1) (Zx t)&&Bz (K.lookup t.2.1) om)
theorem XT(ho:h.get? t.1=some o)(hne:Aw t.1 t.2.1=false)(hb:Zx t o=true):CodeHd h t.1 t.2.1:=
 (KW Hq (Am hb)).elim λvs q=>
  have q1:=Am q.2;have q2:=Am q1;have q3:=Am q2;have q4:=Am q3
  (U5 (Ax q2)).elim λf hf=>(U5 (Ax q3)).elim λfl hfl=>(U5 (Ax q4)).elim λb qp=>(U5 (Am q4)).elim λtx htx=>
   ⟨o,vs,f.1,f.2,fl.1,fl.2,b,tx.1,tx.2,ho,Ds (Ax hb),q.1,Ds (Ax q.2),Ds (Ax q1),GJ _ hf,QZ _ hfl,O0 _ qp,QZ _ htx,λe=>by rw[e,Ib] at hne;rcases hne with ⟨⟩⟩
theorem gz(hb:om o=true):o=D2 #[]:=(KW Hq (Am (Am (Am hb)))).elim λvs q=>by
 obtain ⟨cls,dd,data,sl⟩:=o
 obtain rfl:cls=.none:=Ds (Ax hb)
 obtain rfl:dd=none:=CN (Ax (Am hb))
 obtain rfl:sl = #[]:=AE.isEmpty_iff.mp (Ax (Am (Am hb)))
 obtain rfl:data=.fields vs:=q.1
 obtain rfl:vs = #[]:=AE.isEmpty_iff.mp q.2
 rfl
theorem tab_of{K:AI}(X:K.In h)(hb:wY K t=true):IF h t:=
 (A0 (Ax (Am hb))).elim λo q=>(A0 (Am (Am hb))).elim λo' q'=>⟨XT (X _ _ q.1) (HN (Ax hb)) q.2,#[],gz q'.2▸X _ _ q'.1,trivial,λpos c' e=>nomatch e⟩
def wZ(K:AI):Aa:=Bz (bc K Ot) λes=>KX es&&Dz (ER es "sys.recursionlimit")
theorem rg{K:AI}(X:K.In h)(hb:wZ K=true):h.NoLimit:=(A0 hb).elim λes q=>⟨_,U6 X q.1 (Ax q.2),CN (Am q.2)⟩
def rh(K:AI):Aa:=gy K&&(gtB K&&(TL.all (wY K)&&wZ K))
def w0(prog:Dq)(w:DG)(B:Aj)(K:AI)(X:K.In B.heap)(hb:rh K=true):Cx where
 prog:=prog
 w:=w
 B:=B
 K:=B7 K
 yL:=λa o e=>X a o (MD e)
 knt:=λa o e=>Hp e
 tabs:=λt ht=>tab_of X (BW.mp (Ax (Am (Am hb))) t ht)
 nolimit:=rg X (Am (Am (Am hb)))
 names:=(A0 (Ax hb)).elim λeg g=>(A0 g.2).elim λeb b=>(A0 (Am (Am b.2))).elim λbm m=>(A0 (Am m.2)).elim λo q=>
  ⟨ER eg,ER eb,bm,o,U6 X g.1 (Ax b.2),U6 X b.1 (Ax (Am b.2)),(FC m.1).elim λv z=>z.1.trans (Ai some (U4 _ z.2)),(λe=>by have:=HN (Ax m.2);rw[e,Ib] at this;rcases this with ⟨⟩),X _ _ q.1,Ds (Ax q.2),Ds (Ax (Am q.2)),U3 (Am (Am q.2))⟩
 gt:=λx v hv=>(NC X (Ax hb) (BW.mp (Ax (Am hb)) (x,v) (SP ((D8 ..).symm.trans hv)))).elim λv' q=>by rw[show v=v' from Ds q.1];exact q.2
def gA:List Ah:=FTl.map (·.1)
theorem Zy:∀{l:List (Nat×Ab α)},yK a l=some v->a∈l.map (·.1)
 |(b,w)::r,h=>by
  revert h
  show(match Aw a b with | true=>w | false=>yK a r)=some v->_
  cases e:Aw a b with
  |true=>exact λ_=>by rw[Cb e];exact .head _
  |false=>exact λh=>.tail _ (Zy h)
theorem gD(h:FT a=some fi):a∈gA:=Zy h
noncomputable def gE(o:Obj):Ab Io:=match o.data with | .func fd=>some fd | _=>none
theorem gF:Ok (gE o) λfd=>o.data=.func fd:=by unfold gE;rcases o.data with ⟨⟩<;>first | exact .none | exact .some rfl
def fdOf(K:AI)(a:Ah):Ab Io:=(K.lookup a).bind gE
theorem lK{K:AI}:Ok (fdOf K a) λfd=>∃o,K.lookup a=some o/\o.data=.func fd:=Ok.self.bind λo ho=>gF.mono λfd h=>⟨o,ho,h⟩
abbrev w1:=Ge×EL×BR×Ah×Ah×Str
def U7(K:AI)(a:Ah):Ab w1:=(fdOf K a).bind λfd=>some (fd.params,fd.body,fd.scope,fd.globals,fd.builtins,fd.qualname)
def U8(a:Ah):Ab w1:=(FT a).bind λfi=>some (fi.params,fi.body,fi.scope,DN,C4,fi.qual)
def codeB(K:AI)(cd:Ad)(q:Str):Aa:=Bz (refOf cd) λc=>Bz (K.lookup c) λo=>o.cls==.type "code" &&Bz (Jo o) λvs=>Bz ((vs[1]? :Ab Ad).bind ME) λx=>sEq x.1 q
theorem gG{K:AI}(X:K.In h)(hb:codeB K cd q=true):BZ h cd q:=
 (KW U4 hb).elim λa w=>(A0 w.2).elim λo z=>(KW Hq (Am z.2)).elim λvs y=>(A0 y.2).elim λx u=>(FC u.1).elim λv t=>by
  rw[w.1]
  exact .mk (X _ _ z.1) (Ds (Ax z.2)) y.1 (t.1.trans (Ai some ((GJ _ t.2).trans (Ai (ET · x.2) (BC u.2)))))
noncomputable def w3{α:Type}(o:Ab α)(p:α->Aa):Aa:=match o with | none=>true | some a=>p a
def w6(cl:List (Str×Ah))(cls:Ab Ah):Aa:=match cl with
 |[]=>Dz cls
 |p::r=>nil r&&(sEq p.1 "__class__" &&Aw p.2 173)
theorem lL(h:w6 cl cls=true):(∀x,(x==("__class__" :Str))=false->cl.lookup x=none)/\(cls.isSome=true->cl.lookup ("__class__" :Str)=some 173):=by
 induction cl using B9 with
 |nil=>exact⟨λ_ _=>rfl,λq=>by rw[CN h] at q;rcases q with ⟨⟩⟩
 |cons p r=>
  have h:(nil r&&(sEq p.1 "__class__" &&Aw p.2 173))=true:=h
  obtain rfl:=Bj (Ax h)
  have h:=Am h
  obtain ⟨n,y⟩:=p
  have h1:n="__class__" :=BC (Ax h)
  have h2:y=173:=Cb (Am h)
  subst h1 h2
  exact⟨λx hx=>by rw[Dk,hx];rfl,λ_=>rfl⟩
def pl(fi:FI):Aa:=nil fi.dflt&&nil fi.kwd
def fnB(K:AI)(a:Ah):Aa:=Bz (FT a) λfi=>Bz (fdOf K a) λfd=>codeB K fd.code fd.qualname&&(w3 fi.code (λa'=>fd.code==.ref a')&&(nil fi.cells&&(w6 fd.closure fi.cls&&(Sx fi.scope&&cond (pl fi) (Nu fd.defaults) true))))
def peekA(K:AI)(S:Setting)(a:Ah)(pos:List Ad)(kw:List (Str×Ad)):Ab (List (Str×Ad)):=(fdOf K a).bind λfd=>peek K S (bindArgs fd ⟨pos,kw⟩)
noncomputable def l5{α:Type}(a b c d e:α):List (Str×α):=[("a",a),("x",b),("lo",c),("hi",d),("key",e)]
def k1{α:Type}(k:α):List (Str×α):=[("key",k)]
noncomputable def l2{α:Type}(n:Str)(a b:α):List (Str×α):=[("self",a),(n,b)]
def B4(K:AI)(a:Ah)(t:Tok):Prop:=∀(S:Setting)(v1 v2 v3 v4 k:Ad),
 (peekA K S a [v1,v2] []=some (l5 v1 v2 (.int 0 t) .none .none)/\peekA K S a [v1,v2] (k1 k)=some (l5 v1 v2 (.int 0 t) .none k))/\
 (peekA K S a [v1,v2,v3,v4] []=some (l5 v1 v2 v3 v4 .none)/\peekA K S a [v1,v2,v3,v4] (k1 k)=some (l5 v1 v2 v3 v4 k))
def B2(K:AI)(a:Ah)(n:Str)(D:Ad):Prop:=∀(S:Setting)(v1 v2:Ad),peekA K S a [v1] []=some (l2 n v1 D)/\peekA K S a [v1,v2] []=some (l2 n v1 v2)
def JJ(a:Ah)(as:List AV)(ks:List (Str×AV)):Ab Lo:=(FT a).bind λfi=>Cv fi as ks
def gH(a:Ah):Aa:=Bz (FT a) λfi=>Aw fi.dflt.length 2&&(Aw fi.params.args.length 4&&Bz (one fi.params.kwonlyargs) λp=>sEq p.arg "key")
def lM(a:Ah):Aa:=Bz (FT a) λfi=>Aw fi.dflt.length 1&&(Aw fi.params.args.length 2&&nil fi.params.kwonlyargs)
theorem PM(hd:fi.dflt.length=n+1)(hp:fi.params.args.length=m):Ok (Cv fi as ks) λ_=>pn fi.params.kwonlyargs ks=true/\(as.length=m\/as.length+(n+1)=m):=
 .cond (λh=>by rw[Bj (Ax h)] at hd;rcases hd with ⟨⟩) λ_=>.guard λq _ _=>⟨Ax q,hd▸hp▸(VS.mp (Am q)).imp Cb Cb⟩
section
variable{c:Cx}
theorem GK(hd:fdOf c.K a=some fd)
  (k:∀(π:Pl)(n:Nat)(s:Aj)(cargs Gr:List Ad),Ag π n s.heap as cargs->Ag π n s.heap (ks.map (·.2)) Gr->∃cbs,(∀S,peekA c.K S a cargs ((ks.map (·.1)).zip Gr)=some cbs)/\cbs.map (·.1)=bs.map (·.1)/\Ag π n s.heap (bs.map (·.2)) (cbs.map (·.2))):Pd c fi fd as ks bs:=
 λπ n s cargs Gr X ra rk=>(k π n s cargs Gr ra rk).imp λcbs q=>⟨kp_binds X λS=>by have:=q.1 S;unfold peekA at this;rw[hd] at this;exact this,q.2⟩
def A4(a:Ah):Prop:=∀x y z w k:AV,(JJ a [x,y] []=some (l5 x y (.int 0) .none .none)/\JJ a [x,y] (k1 k)=some (l5 x y (.int 0) .none k))/\
 (JJ a [x,y,z,w] []=some (l5 x y z w .none)/\JJ a [x,y,z,w] (k1 k)=some (l5 x y z w k))
def A2(a:Ah)(n:Str)(D:AV):Prop:=∀x y:AV,JJ a [x] []=some (l2 n x D)/\JJ a [x,y] []=some (l2 n x y)
theorem Zz(h:pn ps ks=true):(ps=[]->ks=[])/\(∀p,ps=[p]->ks=[]\/∃k,ks=[(p.arg,k)]):=by
 induction ps using B9 with
 |nil=>exact⟨λ_=>Bj h,λ_ q=>nomatch q⟩
 |cons p r=>
  refine⟨λq=>(nomatch q),λp' e=>?_⟩
  obtain rfl:=(Gk e).1
  induction ks using B9 with
  |nil=>exact .inl rfl
  |cons k t=>exact .inr ⟨k.2,by rw[Bj (Ax (Am h)),<-BC (Am (Am h))]⟩
theorem oo{as:List AV}(h:as.length=2):∃x y,as=[x,y]:=fq h
theorem rj{as:List AV}(h:as.length=4):∃x y z w,as=[x,y,z,w]:=match as,h with
 |[x,y,z,w],_=>⟨x,y,z,w,rfl⟩
theorem w7{as:List AV}(h:as.length=1):∃x,as=[x]:=match as,h with
 |[x],_=>⟨x,rfl⟩
theorem Ag.e2(r:Ag π n h [x,y] vs):∃v w,vs=[v,w]/\As π n h x v/\As π n h y w:=AH r λv r=>r.elim λws r=>AH r.2.2 λw q=>q.elim λus q=>⟨v,w,by rw[r.1,q.1,show us=[] from q.2.2],r.2.1,q.2.1⟩
theorem Ag.e4(r:Ag π n h [x,y,z,w] vs):∃a b c d,vs=[a,b,c,d]/\Ag π n h [x,y,z,w] [a,b,c,d]:=AH r λa r1=>r1.elim λws r1=>AH r1.2.2 λb r2=>r2.elim λus r2=>r2.2.2.e2.elim λc q=>q.elim λd q=>⟨a,b,c,d,by rw[r1.1,r2.1,q.1],.cons r1.2.1 (.cons r2.2.1 (.cons q.2.1 (.cons q.2.2 .nil)))⟩
theorem Ag.e1(r:Ag π n h [x] vs):∃v,vs=[v]/\As π n h x v:=AH r λv r=>r.elim λws r=>⟨v,by rw[r.1,show ws=[] from r.2.2],r.2.1⟩
theorem Tb(hf:FT a=some fi)(hd:fdOf c.K a=some fd)(hs:gH a=true)(ha:A4 a)(hb:B4 c.K a t)(h:Cv fi as ks=some bs):Pd c fi fd as ks bs:=by
 have hA:JJ a as ks=some bs:=by unfold JJ;rw[hf];exact h
 refine Bl λGG fin=>(A0 hs).elim λfi' q=>(KW BE (Am (Am q.2))).elim λp hp=>fin ?_
 clear fin GG
 have e:=AQ (q.1.symm.trans hf)
 rw[e] at q hp
 have ln:=PM (Cb (Ax q.2)) (Cb (Ax (Am q.2))) bs h
 have hk:=(Zz ln.1).2 p hp.1
 rw[BC hp.2] at hk
 clear e h
 have nn:∀{π:Pl}{n:Nat}{hp:Ay},As π n hp .none .none:=.FW
 refine ln.2.elim (λhl=>(rj hl).elim λx h=>h.elim λy h=>h.elim λz h=>h.elim λw h=>hk.elim (λhk=>?_) λhk=>hk.elim λk hk=>?_) λhl=>(oo (cI hl)).elim λx h=>h.elim λy h=>hk.elim (λhk=>?_) λhk=>hk.elim λk hk=>?_
 ·subst h hk
  obtain rfl:=AQ ((ha x y z w x).2.1.symm.trans hA)
  exact GK hd λπ n s cargs Gr ra rk=>ra.e4.elim λa1 u=>u.elim λa2 u=>u.elim λa3 u=>u.elim λa4 u=>⟨l5 a1 a2 a3 a4 .none,λS=>by rw[u.1,show Gr=[] from rk];exact(hb S a1 a2 a3 a4 a1).2.1,rfl,u.2.append (.cons nn .nil)⟩
 ·subst h hk
  obtain rfl:=AQ ((ha x y z w k).2.2.symm.trans hA)
  exact GK hd λπ n s cargs Gr ra rk=>ra.e4.elim λa1 u=>u.elim λa2 u=>u.elim λa3 u=>u.elim λa4 u=>(Ag.e1 rk).elim λk' r=>⟨l5 a1 a2 a3 a4 k',λS=>by rw[u.1,r.1];exact(hb S a1 a2 a3 a4 k').2.2,rfl,u.2.append (.cons r.2 .nil)⟩
 ·subst h hk
  obtain rfl:=AQ ((ha x y x y x).1.1.symm.trans hA)
  exact GK hd λπ n s cargs Gr ra rk=>ra.e2.elim λa1 u=>u.elim λa2 u=>⟨l5 a1 a2 (.int 0 t) .none .none,λS=>by rw[u.1,show Gr=[] from rk];exact(hb S a1 a2 a1 a1 a1).1.1,rfl,.cons u.2.1 (.cons u.2.2 (.cons .mkInt (.cons nn (.cons nn .nil))))⟩
 ·subst h hk
  obtain rfl:=AQ ((ha x y x y k).1.2.symm.trans hA)
  exact GK hd λπ n s cargs Gr ra rk=>ra.e2.elim λa1 u=>u.elim λa2 u=>(Ag.e1 rk).elim λk' r=>⟨l5 a1 a2 (.int 0 t) .none k',λS=>by rw[u.1,r.1];exact(hb S a1 a2 a1 a1 k').1.2,rfl,.cons u.2.1 (.cons u.2.2 (.cons .mkInt (.cons nn (.cons r.2 .nil))))⟩
theorem XU(hD:∀π n h,As π n h D DV)(hf:FT a=some fi)(hd:fdOf c.K a=some fd)(hs:lM a=true)(ha:A2 a nm D)(hb:B2 c.K a nm DV)(h:Cv fi as ks=some bs):Pd c fi fd as ks bs:=by
 have hA:JJ a as ks=some bs:=by unfold JJ;rw[hf];exact h
 refine Bl λGG fin=>(A0 hs).elim λfi' q=>fin ?_
 clear fin GG
 have e:=AQ (q.1.symm.trans hf)
 rw[e] at q
 have ln:=PM (Cb (Ax q.2)) (Cb (Ax (Am q.2))) bs h
 obtain rfl:=(Zz ln.1).1 (Bj (Am (Am q.2)))
 clear e h
 refine ln.2.elim (λhl=>(oo hl).elim λx h=>h.elim λy h=>?_) λhl=>(w7 (cI hl)).elim λx h=>?_
 ·subst h
  obtain rfl:=AQ ((ha x y).2.symm.trans hA)
  exact GK hd λπ n s cargs Gr ra rk=>ra.e2.elim λa1 u=>u.elim λa2 u=>⟨l2 nm a1 a2,λS=>by rw[u.1,show Gr=[] from rk];exact(hb S a1 a2).2,rfl,.cons u.2.1 (.cons u.2.2 .nil)⟩
 ·subst h
  obtain rfl:=AQ ((ha x x).1.symm.trans hA)
  exact GK hd λπ n s cargs Gr ra rk=>ra.e1.elim λa1 u=>⟨l2 nm a1 DV,λS=>by rw[u.1,show Gr=[] from rk];exact(hb S a1 a1).1,rfl,.cons u.2 (.cons (hD _ _ _) .nil)⟩
end
theorem w8:A4 30:=λx y z w k=>⟨⟨by kernel_rfl!,by kernel_rfl!⟩,by kernel_rfl!,by kernel_rfl!⟩
theorem w9:A4 39:=λx y z w k=>⟨⟨by kernel_rfl!,by kernel_rfl!⟩,by kernel_rfl!,by kernel_rfl!⟩
theorem xc:A4 48:=λx y z w k=>⟨⟨by kernel_rfl!,by kernel_rfl!⟩,by kernel_rfl!,by kernel_rfl!⟩
theorem xd:A4 57:=λx y z w k=>⟨⟨by kernel_rfl!,by kernel_rfl!⟩,by kernel_rfl!,by kernel_rfl!⟩
theorem rm:A2 186 "initial_size" (.int 0):=λx y=>⟨by kernel_rfl!,by kernel_rfl!⟩
theorem rp:A2 201 "i" (.int 0):=λx y=>⟨by kernel_rfl!,by kernel_rfl!⟩
theorem ru:A2 231 "startval" (.none):=λx y=>⟨by kernel_rfl!,by kernel_rfl!⟩
theorem Abh:(gH 30&&(gH 39&&(gH 48&&(gH 57&&(lM 186&&(lM 201&&lM 231))))))=true:=by kernel_rfl!
theorem Abi:gA.all (λa=>w3 (FT a) λfi=>pl fi||[30,39,48,57,186,201,231].any (Aw a))=true:=by kernel_rfl!
structure ND(K:AI):Prop where
 b30:∃t,B4 K 30 t
 b39:∃t,B4 K 39 t
 b48:∃t,B4 K 48 t
 b57:∃t,B4 K 57 t
 qt:∃t,B2 K 186 "initial_size" (.int 0 t)
 Abl:∃t,B2 K 201 "i" (.int 0 t)
 Abm:B2 K 231 "startval" .none
theorem lN(hb:ND c.K)(hf:FT a=some fi)(hd:fdOf c.K a=some fd)(hn:pl fi=false)(h:Cv fi as ks=some bs):Pd c fi fd as ks bs:=by
 have dz:=BW.mp Abi a (gD hf)
 rw[hf] at dz
 have dz:(pl fi||[30,39,48,57,186,201,231].any (Aw a))=true:=dz
 rw[hn,Aa.false_or] at dz
 have s:=Abh
 refine(JP.mp dz).elim λb q=>?_
 obtain rfl:=Cb q.2
 have m:=q.1
 rcases Bc.mp m with rfl | m
 ·exact Tb hf hd (Ax s) w8 hb.b30.choose_spec h
 rcases Bc.mp m with rfl | m
 ·exact Tb hf hd (Ax (Am s)) w9 hb.b39.choose_spec h
 rcases Bc.mp m with rfl | m
 ·exact Tb hf hd (Ax (Am (Am s))) xc hb.b48.choose_spec h
 rcases Bc.mp m with rfl | m
 ·exact Tb hf hd (Ax (Am (Am (Am s)))) xd hb.b57.choose_spec h
 rcases Bc.mp m with rfl | m
 ·exact XU (λ_ _ _=>.mkInt) hf hd (Ax (Am (Am (Am (Am s))))) rm hb.qt.choose_spec h
 rcases Bc.mp m with rfl | m
 ·exact XU (λ_ _ _=>.mkInt) hf hd (Ax (Am (Am (Am (Am (Am s)))))) rp hb.Abl.choose_spec h
 rcases Bc.mp m with rfl | m
 ·exact XU (λ_ _ _=>.FW) hf hd (Am (Am (Am (Am (Am (Am s)))))) ru hb.Abm h
 ·rcases m with ⟨⟩
theorem ry{c:Cx}(hT:gA.map (U7 c.K)=gA.map U8)(hB:gA.all (fnB c.K)=true)(hb:ND c.K):Ez c:=⟨λa fi hf=>by
 have hm:=gD hf
 refine(A0 (BW.mp hB a hm)).elim λfi' q=>(A0 q.2).elim λfd w=>(lK _ w.1).elim λo z=>⟨o,fd,z.1,z.2,?_⟩
 have e:=AQ (q.1.symm.trans hf)
 have w2:=w.2
 rw[e] at w2
 have e:U7 c.K a=U8 a:=LC.mp hT a hm
 unfold U7 U8 at e
 rw[hf,w.1] at e
 have e:=Hf (AQ e)
 have e2:=Hf e.2
 have e3:=Hf e2.2
 have e4:=Hf e3.2
 have e5:=Hf e4.2
 have h2:=Am w2
 have h3:=Am h2
 have h4:=Am h3
 have h5:=Am h4
 have cl:=lL (Ax h4)
 refine⟨e.1,e2.1,e3.1,e4.1,e5.1,e5.2,gG c.yL (Ax w2),λa' h=>?_,Bj (Ax h3),cl.1,cl.2,Ax h5,λh=>?_,λh as ks bs yR=>lN hb hf w.1 h yR⟩
 ·have:=Ax h2
  rw[h] at this
  exact Ds this
 ·have:=Am h5
  rw[show pl fi=true from h] at this
  exact O5 this⟩
def xe(K:AI):Aa:=Xm K 165 "object.__getattribute__" KC D5 [.ref 165,.type "object"]&&(Xm K 249 "list.__getattribute__" KD (D6++OR) [.ref 249,.type "list",.type "object"]&&noSeq K 249)
noncomputable def oq(K:AI):Aa:=A7 K (.ref 249) "__getitem__" ==some (some (.builtin "list.__getitem__"))&&(A7 K (.ref 249) "__setitem__" ==some (some (.builtin "list.__setitem__"))&&(A7 K (.ref 249) "append" ==some (some (.builtin "list.append"))&&
 (A7 K (.ref 249) "__bool__" ==some none&&(A7 K (.ref 249) "__iter__" ==some (some (.builtin "list.__iter__"))&&(A7 K (.ref 249) "__len__" ==some (some (.ref 216))&&A7 K (.ref 249) "__str__" ==some (some (.ref 223)))))))
noncomputable def gJ(o:Obj):Ab Ad:=match o.data with | .cell v=>v | _=>none
theorem gK:Ok (gJ o) λv=>o.data=.cell (some v):=by
 unfold gJ
 cases o.data with
 |cell v=>exact λx e=>Ai Data.cell e
 |_=>exact .none
noncomputable def rz(o:Obj):Ab ClassData:=match o.data with | .cls c=>some c | _=>none
theorem lO:Ok (rz o) λv=>o.data=.cls v:=by unfold rz;cases o.data<;>first | exact .none | exact .some rfl
def lP(prog:Dq)(K:AI)(a:Ah):Aa:=Bz (K.lookup a) λo=>Bz (Jo o) λvs=>Bz ((vs[2]? :Ab Ad).bind ME) λx=>(prog.main.file:Str)==x.1
def xf(K:AI)(prog:Dq):Aa:=nsIn K Ot "thirdparty.any" ==some none&&(!(prog.main.scope.names.lookup ("super" :Str)).isSome&&(Bz (K.lookup 173) (λo=>Bz (gJ o) (· ==.ref 249))&&
 (Bz (K.lookup 249) (λo=>o.cls==.type "type" &&Bz (rz o) λcd=>cd.qualname=="_Accumulator")&&[185,208,245].all (lP prog K))))
def xg(K:AI):Aa:=PD K&&(makesIn K 165&&(A7 K (.ref 165) "__init__" ==some (some (.ref 106))&&(EU K (.ref 106)==some (.type "function")&&(EU K (.ref 216)==some (.type "function")&&EU K (.ref 223)==some (.type "function")))))
def xh(x:Str)(v:Ad):Aa:=Bz (ME v) λy=>sEq y.1 x
theorem rD{K:AI}(X:K.In B.heap)(hb:rh K=true)(hT:gA.map (U7 (B7 K))=gA.map U8)(hB:gA.all (fnB (B7 K))=true)(hp:ND (B7 K))
  (h1:xe (B7 K)=true)(h2:oq (B7 K)=true)(h3:xf (B7 K) prog=true)(h4:xg (B7 K)=true)(h5:PL K "super" (· ==.type "super")=true)(h6:PL K "EMPTYSTRING" (xh "")=true):CG (w0 prog w B K X hb):=by
 have hn:=Ax hb
 refine⟨ry hT hB hp,?_,?_,?_⟩
 ·have b2:=Am h2;have b3:=Am b2;have b4:=Am b3;have b5:=Am b4;have b6:=Am b5
  exact⟨QM (Ax h1),QM (Ax (Am h1)),Ds (Ax h2),Ds (Ax b2),Ds (Ax b3),Ds (Ax b4),Ds (Ax b5),Ds (Ax b6),Ds (Am b6),Am (Am h1)⟩
 ·have a2:=Am h3;have a3:=Am a2;have a4:=Am a3
  refine⟨Ds (Ax h3),HN (Ax a2),(NC X hn h5).elim λv q=>Ds q.1▸q.2,(A0 (Ax a3)).imp λo q=>⟨q.1,(KW gK q.2).elim λv z=>by rw[z.1,Ds z.2]⟩,
   (A0 (Ax a4)).elim λo q=>(KW lO (Am q.2)).elim λcd z=>⟨o,cd,q.1,z.1,Ds (Ax q.2),Ds z.2⟩,
   λa ha=>(A0 (BW.mp (Am a4) a ha)).elim λo q=>(KW Hq q.2).elim λvs z=>(A0 z.2).elim λx u=>(FC u.1).elim λv t=>⟨o,vs,x.1,x.2,q.1,z.1,t.1.trans (Ai some (GJ _ t.2)),u.2⟩⟩
 ·have a2:=Am h4;have a3:=Am a2;have a4:=Am a3;have a5:=Am a4
  refine⟨Ax h4,Ax a2,Ds (Ax a3),Ds (Ax a4),Ds (Ax a5),Ds (Am a5),(NC X hn h6).elim λv q=>(KW GJ q.1).elim λy z=>⟨y.2,?_⟩⟩
  rw[<-BC z.2,<-z.1]
  exact q.2
noncomputable def rr:OpenRow:=WM.row
noncomputable def qq:Dq:=view cY [0,7,8,10,11,12,14,15,16,17,19,20,21,22,23,24,25]
noncomputable def lse:List Str:=["insort_right","bisect_right","insort_left","bisect_left","_Accumulator"]
noncomputable def PN(h:Ay):List Ah->AI
 |[]=>[]
 |a::r=>match h.get? a with | some o=>(a,o)::PN h r | none=>PN h r
theorem PO(h:Ay):∀l,AI.In (PN h l) h
 |[]=>λa o e=>nomatch e
 |b::r=>λa o=>by
  show C2 a (match h.get? b with | some o=>(b,o)::PN h r | none=>PN h r)=_->_
  cases hb:h.get? b with
  |none=>exact PO h r a o
  |some ob=>
   show C2 a ((b,ob)::PN h r)=_->_
   rw[Dk]
   cases q:a==b with
   |true=>exact λe=>by rw[eq_of_beq q,hb];exact e
   |false=>exact PO h r a o
noncomputable def need:List Ah:=[0,2,3,4,59,66,211,218,291,164,165,248,249,173,22,23,31,32,40,41,49,50,178,194,224,29,30,38,39,47,48,56,57,63,64,70,71,77,78,84,85,91,92,105,106,112,113,126,127,133,134,161,162,185,186,192,193,200,201,208,209,215,216,222,223,230,231,237,238,245,246,259,260,264,265,271,272,278,279,283,284,288,289,293,294]
def M5(h:Ay):AI:=PN h need
def Abn(K:AI):Aa:=PL K "law" (· ==.ref 294)
def ckA(K:AI)(prog:Dq):Aa:=xe K&&(oq K&&(xf K prog&&(xg K&&gA.all (fnB K))))
def ckB(K:AI):Aa:=rh K&&(PL K "super" (· ==.type "super")&&(PL K "EMPTYSTRING" (xh "")&&Abn K))
def ZA(K:AI)(S:Setting)(v1 v2 v3 v4 k:Ad):List (Ab (List (Str×Ad))):=
 ([30,39,48,57].flatMap λa=>[peekA K S a [v1,v2] [],peekA K S a [v1,v2] (k1 k),peekA K S a [v1,v2,v3,v4] [],peekA K S a [v1,v2,v3,v4] (k1 k)])++[186,201,231].flatMap λa=>[peekA K S a [v1] [],peekA K S a [v1,v2] []]
def Tc(v1 v2 v3 v4 k:Ad):List (Ab (List (Str×Ad))):=
 (([196,209,223,236]:List Tok).flatMap λt=>[some (l5 v1 v2 (.int 0 t) .none .none),some (l5 v1 v2 (.int 0 t) .none k),some (l5 v1 v2 v3 v4 .none),some (l5 v1 v2 v3 v4 k)])++
  [some (l2 "initial_size" v1 (.int 0 445)),some (l2 "initial_size" v1 v2),some (l2 "i" v1 (.int 0 464)),some (l2 "i" v1 v2),some (l2 "startval" v1 .none),some (l2 "startval" v1 v2)]
abbrev Ft:Type:=List (Ab (Ge×EL×BR×Ah×Ah×Str))
abbrev Pk:Type:=Setting->Ad->Ad->Ad->Ad->Ad->List (Ab (List (Str×Ad)))
def yA(s:Aj):Aa×Ft×Pk:=(ckA (B7 (M5 s.heap)) rr.prog,gA.map (U7 (B7 (M5 s.heap))),ZA (B7 (M5 s.heap)))
def zA(_:DG):Aa×Ft×Pk:=(true,gA.map U8,λ_=>Tc)
def yB(s:Aj):Aa:=ckB (M5 s.heap)
noncomputable def zB(_:DG):Aa:=true
def xt(s:Aj):Aa:=xlAt qq [] s&&recOk (RowW.records rr.toRowW) s
theorem Abo:WM.wellSaid=true:=⋯
theorem ok1:(chainsOk qq&&opensWell rr.prog&&(frees rr.toRowW&&rr.within.isEmpty))=true:=⋯
theorem bare:rr.prog.bare:=⟨by kernel_rfl,by kernel_rfl,by kernel_rfl,by kernel_rfl,by kernel_rfl,by kernel_rfl⟩
theorem xi:LeftO rr.prog qq lse xt (λs=>(yA s,yB s)) (λw=>(zA w,zB w)) 3388:=λw=>⋯
section
open PySem.W.X
theorem atI{α:Type}{l l':List α}(h:l=l')(i:Nat):l[i]?=l'[i]?:=h▸rfl
theorem gL{K:AI}(h:ZA K=λ_=>Tc):ND K:=by
 have e:∀S v1 v2 v3 v4 k,ZA K S v1 v2 v3 v4 k=Tc v1 v2 v3 v4 k:=λS v1 v2 v3 v4 k=>by rw[h]
 have g:∀S v1 v2 v3 v4 k (i:Nat),(ZA K S v1 v2 v3 v4 k)[i]?=(Tc v1 v2 v3 v4 k)[i]?:=λS v1 v2 v3 v4 k i=>atI (e S v1 v2 v3 v4 k) i
 exact⟨⟨196,λS v1 v2 v3 v4 k=>⟨⟨AQ (g S v1 v2 v3 v4 k 0),AQ (g S v1 v2 v3 v4 k 1)⟩,AQ (g S v1 v2 v3 v4 k 2),AQ (g S v1 v2 v3 v4 k 3)⟩⟩,
  ⟨209,λS v1 v2 v3 v4 k=>⟨⟨AQ (g S v1 v2 v3 v4 k 4),AQ (g S v1 v2 v3 v4 k 5)⟩,AQ (g S v1 v2 v3 v4 k 6),AQ (g S v1 v2 v3 v4 k 7)⟩⟩,
  ⟨223,λS v1 v2 v3 v4 k=>⟨⟨AQ (g S v1 v2 v3 v4 k 8),AQ (g S v1 v2 v3 v4 k 9)⟩,AQ (g S v1 v2 v3 v4 k 10),AQ (g S v1 v2 v3 v4 k 11)⟩⟩,
  ⟨236,λS v1 v2 v3 v4 k=>⟨⟨AQ (g S v1 v2 v3 v4 k 12),AQ (g S v1 v2 v3 v4 k 13)⟩,AQ (g S v1 v2 v3 v4 k 14),AQ (g S v1 v2 v3 v4 k 15)⟩⟩,
  ⟨445,λS v1 v2=>⟨AQ (g S v1 v2 v1 v1 v1 16),AQ (g S v1 v2 v1 v1 v1 17)⟩⟩,⟨464,λS v1 v2=>⟨AQ (g S v1 v2 v1 v1 v1 18),AQ (g S v1 v2 v1 v1 v1 19)⟩⟩,λS v1 v2=>⟨AQ (g S v1 v2 v1 v1 v1 20),AQ (g S v1 v2 v1 v1 v1 21)⟩⟩
theorem xj(hM:∀b,¬ π.M b)(T:TabsOk s.heap)(P:PG c wr none π [] s H' π' s'):OldK s.heap s'.heap:=by
 refine⟨λb o e=>(DH (b∈TB)).elim (λhb=>?_) λhb=>.inl (P.kp.keep b o (λx=>x.elim nofun (hM b)) hb e),P.there⟩
 obtain ⟨t,ht,rfl⟩:=TV _ hb
 obtain ⟨⟨oc,vs,_,_,_,_,_,_,_,q1,q2,q3,q4,_⟩,ps,hp,_⟩:=T t ht
 rw[e] at hp
 cases hp
 obtain ⟨more,hm⟩:=P.kp.tabs _ hb ps e
 exact .inr (.inl ⟨⟨t.1,oc,vs,q1,q2,q3,q4⟩,rfl,ps,more,rfl,hm⟩)
end
section
open PySem.W.X
theorem rF(L:Laid R w s₀ s₁ [ofPy (.list xs)] [.ref l] as)(h:s₁.heap.IsList l QK):Yw s₁.heap l QK:=by
 refine L.laid.elim λord e=>?_
 have e:=e.2
 cases q:layW R (classAt s₀.heap) w.params ord (ofPy (.list xs)) s₀ with
 |none=>rw[layAllW,q] at e;cases e
 |some a=>
  rw[layAllW,q] at e
  have e:some ([a.1],a.2)=some ([Bq l],s₁):=e
  have e:=Hf (AQ e)
  refine(layW_list (xs:=ofPys xs) q).elim λp z=>?_
  have z:=z.2
  have e1:=(Gk e.1).1
  rw[z] at e1 e
  have g:s₁.heap.get? l=some {cls:=.type "list",data:=.seq p.1.toArray}:=by
   rw[<-CV e1,<-e.2]
   exact Bp _ rfl
  refine h.elim λo y=>?_
  obtain rfl:=AQ (y.1.symm.trans g)
  exact⟨_,y.1,y.2.1,rfl,y.2.2⟩
theorem xk(hi:IntsAre QK xs):Ag π n h (xs.map .int) QK:=by
 induction hi with
 |nil=>exact .nil
 |cons i t _ ih=>exact .cons .mkInt ih
abbrev yf(s:Aj):=(yA s,yB s)
abbrev ya(w:DG):=(zA w,zB w)
theorem dfS:(defOf qq rr.name).isSome=true:=⋯
def dp:=(defOf qq rr.name).get dfS
set_option tactic.hygienic true in
theorem gM(plain:∀xs:List Int,xs.length<=63->∃S,ak 118 xs=some ⟨.bool true,S⟩/\S.ob=true):WM.Holds:=by
 refine holds_law Abo λxl=>?_
 refine holds_openX (q:=qq) (loose:=lse) (Xt:=xt) (XP:=XL qq []) (Yf:=yf) (Ya:=ya) (d:=dp.1) (kwd:=dp.2) (N:=3388) xi (λs e=>xl_of s (Lu.mp e).1) XL.keeps (Ab.some_get dfS).symm ⋯ ⋯ (λs e=>recFacts_of (Lu.mp e).2) (by rfl) xl ok1 bare ?hw ?hc
 case hw=>w_witness2
 case hc=>
  intro w s₀ s₁ mg mb G y fa o pm cd doc dV kV ho hd yZ hD hmg hg args vals as L Abp Abq hrd hwl hlo
  clear hd hD
  refine Ground.open G ?_
  intro T B D TE TW
  wrow_args Abp Abq hrd hwl hlo
  rename_i xs _ _ _ _ _ _ _ l QK _ hL _ _ _ hI _ hc1 _
  have X:AI.In (M5 s₀.heap) s₁.heap:=(PO s₀.heap need).keeps L.keeps
  have hy:=Hf y
  have hyA:=Hf hy.1
  have hyB:=Hf hyA.2
  have ka:ckA (B7 (M5 s₀.heap)) rr.prog=true:=hyA.1
  have kb:ckB (M5 s₀.heap)=true:=hy.2
  have a2:=Am ka;have a3:=Am a2;have a4:=Am a3;have b2:=Am kb;have b3:=Am b2
  have BS:=rD (prog:=rr.prog) (w:=w) X (Ax kb) hyB.1 (Am a4) (gL hyB.2) (Ax ka) (Ax a2) (Ax a3) (Ax a4) (Ax b2) (Ax b3)
  have hfa:fa=294:=(NC X (Ax (Ax kb)) (Am b3)).elim λv z=>AH z.2 λy5 g=>g.elim λmb' g=>by
   have hm:mg ("law" :Str)=some (.ref fa):=hmg
   rw[T.g.eq_nsMap,<-g.1.eq_nsMap] at hm
   have hv:v=.ref 294:=Ds z.1
   refine g.2.2.elim (λe=>?_) λe=>nomatch e.1.symm.trans hm
   exact CV (AQ (hm.symm.trans (e.trans (Ai some hv))))
  subst hfa
  refine(plain xs (by exact(pw [.n (.T (.n (.k 63)) (.n .p))] (.l .p (.k 63)) [] [_]) hc1)).elim λS hS=>?_
  have cx:=XR BS hS.1 hS.2
  have G0:Av (w0 rr.prog w s₁ (M5 s₀.heap) X (Ax kb)) ⟨λ_=>0,λ_=>Cd⟩ [] s₁:=⟨.refl _,nofun,nofun,nofun,nofun,nofun⟩
  refine AJ (cx callerA _ s₁ _ (.ref 294) [.ref l] [] ⟨rfl,by decide,by decide,[],rfl⟩ (AP _) G0 .FW (.cons ⟨l,QK.toArray,rfl,rF L hL,id,?_⟩ .nil) .nil) (λv s' q=>q.elim λπ' q=>?_) λ_ _ x=>x
  ·exact xk hI
  ·cases q.2.val
   refine⟨.inl ⟨.bool true,.bool true,[],rfl,λ_=>rfl,.bool _,by wrow_post,λ_=>⟨.nil,nofun⟩⟩,xj (λ_=>id) G0.tabs q.1,q.1.kp.os,?_⟩
   exact q.1.kp.gens (hg▸.empty)
end
end
noncomputable def jg(o:Ab FI):FI:=o.getD ⟨⟨[],[],none,[],[],none,[]⟩,.stmts [],default,[],[],[],none,none,"",false⟩
noncomputable def E8(b:EL):List Az:=match b with | .stmts b=>b | _=>[]
def y6:FI:=jg (FT 294)
def Ck:List Az:=E8 y6.body
def A6:FD:=Au y6 0 0
def seg(i n:Nat):List Az:=(Ck.drop i).take n
noncomputable def sL(x:List Nat):AV:=.str ⟨x.toArray⟩
abbrev bB:=List (List Nat)
noncomputable def xm(parts:List bB)(p:Nat):List bB:=match parts[p]? with
 |some [w,r,g,b]=>parts.take p++([[w++[114],w,g,b],[w++[103],r,w,b],[w++[98],r,g,w]]++parts.drop (p+1))
 |_=>parts
noncomputable def xn:List bB:=[[[],[82],[71],[66]]]
def Abr(ps:List Nat):List bB:=ps.foldl xm xn
noncomputable def xo:List bB->List Nat->List bB
 |_,[]=>[]
 |ts,p::ps=>(ts[p]?).getD []::xo (xm ts p) ps
noncomputable def hd0(t:bB):List Nat:=t.headD []
structure Pc where
 a:Nat
 b:Nat
 c:Nat
def Pc.l(p:Pc):List Nat:=[0,p.a,p.b,p.c]
def Pc.left(p:Pc):List (List Nat):=(Abr p.l).map hd0
def Pc.cut(p:Pc):List bB:=xo xn p.l
def Pc.words(p:Pc):List (List Nat):=p.cut.map hd0
def Pc.text(p:Pc):List Nat:=p.left.flatMap λw=>32::w
def I6(t:bB):AV:=.tup (t.map sL)
def Pc.names(p:Pc):List (List Nat):=[[82],[71],[66]]++p.words
def y7(sc nu gr qu:AV)(p:Pc)(f:Int):Lo:=[("script",sc),("number",nu),("places",.lst (p.l.map λ(i:Nat)=>AV.int i)),("grains",gr),("quarter",qu),("first",.int f)]
noncomputable def H3(ot:AV):List AO:=.cell (some ot)::FQ 10 (.cell none)
def lQ(sc nu gr qu:AV)(p:Pc)(f:Int)(wh:Aa):Lo:=A8 (y7 sc nu gr qu p f) [("row",.loc 12),("is_white",.bool wh),("words",.loc 13),("left",.lst (p.left.map sL)),("cut",.lst (p.cut.map I6)),("text",sL p.text),("leaves",.lst (p.left.map sL))]
def H13(ot gr:AV)(p:Pc)(f:Int):List AO:=[.cell (some ot),.cell none,.cell none,.cell (some (.lst (p.names.map sL)))]++FQ 7 (.cell none)++
 [.dict [("_initial_size",.int f)],.acc 11 (p.left.map λw=>.tup [.str " ",sL w]),.list (p.words.map sL)]
noncomputable def e0:Expr:=default
noncomputable def xq:Az->Expr×List Az×List Az×Expr×Pos
 |.If t a b p=>(t,a,b,e0,p)
 |.While t b o p=>(t,b,o,e0,p)
 |.For t i b o p=>(t,b,o,i,p)
 |.Assign ts e p=>(ts.headD e0,[],[],e,p)
 |.Expr e p=>(e0,[],[],e,p)
 |.Return (some e) p=>(e0,[],[],e,p)
 |_=>(e0,[],[],e0,default)
def BV(s:Az):Expr:=(xq s).1
def B3(s:Az):List Az:=(xq s).2.1
def lR(s:Az):List Az:=(xq s).2.2.1
def Cm(s:Az):Expr:=(xq s).2.2.2.1
def bC(s:Az):Pos:=(xq s).2.2.2.2
noncomputable def xr:Expr->Expr×Expr×List Expr×List EN×Pos
 |.Compare a _ b p=>(a,b.headD e0,[],[],p)
 |.BinOp a _ b p=>(a,b,[],[],p)
 |.Subscript a b p=>(a,b,[],[],p)
 |.Attribute a _ p=>(a,e0,[],[],p)
 |.Call f as ks p=>(f,e0,as,ks,p)
 |.ListComp e _ _ p=>(e,e0,[],[],p)
 |.UnaryOp _ a p=>(a,e0,[],[],p)
 |.List es p=>(e0,e0,es,[],p)
 |.Tuple es _ p=>(e0,e0,es,[],p)
 |.BoolOp _ es p=>(e0,e0,es,[],p)
 |.Name _ p=>(e0,e0,[],[],p)
 |_=>(e0,e0,[],[],default)
def E4(e:Expr):Expr:=(xr e).1
def Eb(e:Expr):Expr:=(xr e).2.1
def C0(e:Expr):List Expr:=(xr e).2.2.1
def U9(e:Expr):List EN:=(xr e).2.2.2.1
def Jx(e:Expr):Pos:=(xr e).2.2.2.2
noncomputable def gN:Expr->G9 | .Compare _ os _ _=>os.headD .Eq | _=>.Eq
noncomputable def y8:Expr->Str | .Attribute _ m _=>m | _=>""
noncomputable def NF(l:List Az):Az:=l.headD (.Pass default)
noncomputable abbrev Bb:List Az->Nat->Az
 |l,0=>NF l
 |l,i+1=>Bb l.tail i
noncomputable abbrev CA:List Expr->Nat->Expr
 |l,0=>l.headD e0
 |l,i+1=>CA l.tail i
def fnX(e:Expr):Str:=Bw (E4 e)
section
variable{r:Ev}{fr:FD}{lo lo1:Lo}{S S1 S2:St}
theorem Ak{l:List Az}(h:l=NF l::l.tail)(hX:r.X fr lo S (NF l)=some ⟨.next,lo1,S1⟩):Xs r fr lo S l=Xs r fr lo1 S1 l.tail:=
 (Ai (Xs r fr lo S) h).trans (Ai (λo:Ab Rx=>o.bind λx=>cond x.fl.C8 (Xs r fr x.lo x.S l.tail) (some x)) hX)
theorem Kr{l:List Az}{x:Rx}(h:l=NF l::l.tail)(hX:r.X fr lo S (NF l)=some x)(hx:x.fl.C8=false):Xs r fr lo S l=some x:=
 (Ai (Xs r fr lo S) h).trans ((Ai (λo:Ab Rx=>o.bind λx=>cond x.fl.C8 (Xs r fr x.lo x.S l.tail) (some x)) hX).trans (Ai (λb=>cond b (Xs r fr x.lo x.S l.tail) (some x)) hx))
theorem CB{l:List Expr}{v:AV}{vs:List AV}(h:l=CA l 0::l.tail)(h1:r.E fr lo S (CA l 0)=some ⟨v,S1⟩)(h2:Jh r fr lo S1 l.tail=some ⟨vs,S2⟩):Jh r fr lo S l=some ⟨v::vs,S2⟩:=
 (Ai (Jh r fr lo S) h).trans ((Ai (λo:Ab (Rt AV)=>o.bind λx=>(Jh r fr lo x.S l.tail).bind λy=>some (⟨x.v::y.v,y.S⟩ :Rt (List AV))) h1).trans (Ai (λo:Ab (Rt (List AV))=>o.bind λy=>some (⟨v::y.v,y.S⟩ :Rt (List AV))) h2))
theorem Dg{l:List Expr}{v:AV}(h:l=[CA l 0])(hE:r.E fr lo S (CA l 0)=some ⟨v,S1⟩):Jh r fr lo S l=some ⟨[v],S1⟩:=
 (Ai (Jh r fr lo S) h).trans (Ai (λo:Ab (Rt AV)=>o.bind λx=>some (⟨[x.v],x.S⟩ :Rt (List AV))) hE)
theorem Jp{fi:FI}{as:List AV}{ks:List (Str×AV)}{wr:Nat}{binds lo Bv:Lo}{b:Aa}{H:List AO}{fl:AF}{v v':AV}{b':Aa}
  (hc:AK fi.scope.names=[])(hb:Cv fi as ks=some binds)(hp:IJ (Au fi H.length wr) [] ⟨H,b⟩ binds=some ⟨lo,⟨H,b⟩⟩)(he:fi.Ss=false)(hB:fi.body=.stmts (E8 fi.body))
  (hX:Xs r (Au fi H.length wr) lo ⟨H,b⟩ (E8 fi.body)=some ⟨fl,Bv,⟨H,b'⟩⟩)(hv:fl.Nb=some v)(hz:fz 6 H.length H v=some v'):CM r fi as ks wr ⟨H,b⟩=some ⟨v',⟨H,b'⟩⟩:=by
 unfold CM
 rw[hc,hb]
 show((IJ (Au fi H.length wr) [] ⟨H++[],b⟩ binds).bind λp=>(KJ r (Au fi H.length wr) fi.body p.v p.S).bind λx=>cond fi.Ss (some x) (letGo ⟨H,b⟩ x))=_
 rw[DW,hp,hB,he]
 show(((Xs r (Au fi H.length wr) lo ⟨H,b⟩ (E8 fi.body)).bind λx=>x.fl.Nb.bind λv=>some (⟨v,x.S⟩ :Rt AV)).bind λx=>letGo ⟨H,b⟩ x)=_
 rw[hX]
 show((fl.Nb.bind λv=>some (⟨v,⟨H,b'⟩⟩ :Rt AV)).bind λx=>letGo ⟨H,b⟩ x)=_
 rw[hv]
 show(fz 6 H.length H v).bind (λv=>some (⟨v,⟨H,b'⟩⟩ :Rt AV))=_
 rw[hz]
 rfl
end
section
variable{n:Nat}{fr:FD}{lo lo1:Lo}{S S1 S2:St}
theorem KY{s:Az}{b:Aa}(h:s=.If (BV s) (B3 s) (lR s) (bC s))(hT:(ev n).T fr lo S (BV s)=some ⟨b,S1⟩):(ev (n+1)).X fr lo S s=cond b (Xs (ev n) fr lo S1 (B3 s)) (Xs (ev n) fr lo S1 (lR s)):=
 (Ai ((ev (n+1)).X fr lo S) h).trans (Ai (λo:Ab (Rt Aa)=>o.bind λx=>cond x.v (Xs (ev n) fr lo x.S (B3 s)) (Xs (ev n) fr lo x.S (lR s))) hT)
theorem y9{s:Az}{x:Rx}(h:s=.While (BV s) (B3 s) [] (bC s))(hw:Hk (ev n) fr (BV s) (B3 s) 60 lo S=some x):(ev (n+1)).X fr lo S s=some (IM x):=
 (Ai ((ev (n+1)).X fr lo S) h).trans (Ai (λo:Ab Rx=>o.bind λx=>some (IM x)) hw)
theorem KZ{e:Expr}{v1 v2:AV}{b:Aa}(h:e=.Compare (E4 e) [gN e] [Eb e] (Jx e))(hn:Gp (Eb e)=true)(h1:(ev n).E fr lo S (E4 e)=some ⟨v1,S1⟩)(h2:(ev n).E fr lo S1 (Eb e)=some ⟨v2,S2⟩)(o:G9)(ho:gN e=o)(h3:Gz o v1 v2 S2=some b):(ev (n+1)).T fr lo S e=some ⟨b,S2⟩:=
 (Ai ((ev (n+1)).T fr lo S) h).trans ((Ai (λz:Ab (Rt AV)=>z.bind λx=>(Ua (ev n) fr lo x (gN e) (Eb e)).bind λy=>some (⟨y.v.2,y.S⟩ :Rt Aa)) h1).trans ((Ai (λz:Aa=>(Af z (((ev n).E fr lo S1 (Eb e)).bind λy=>(Gz (gN e) v1 y.v y.S).bind λt=>some (⟨(y.v,t),y.S⟩ :Rt (AV×Aa)))).bind λy=>some (⟨y.v.2,y.S⟩ :Rt Aa)) hn).trans
  ((Ai (λz:Ab (Rt AV)=>(z.bind λy=>(Gz (gN e) v1 y.v y.S).bind λt=>some (⟨(y.v,t),y.S⟩ :Rt (AV×Aa))).bind λy=>some (⟨y.v.2,y.S⟩ :Rt Aa)) h2).trans (Ai (λz:Ab Aa=>(z.bind λt=>some (⟨(v2,t),S2⟩ :Rt (AV×Aa))).bind λy=>some (⟨y.v.2,y.S⟩ :Rt Aa)) (ho▸h3)))))
theorem CH{e:Expr}{f:AV}{vs:List AV}{kv:List (Str×AV)}(h:e=.Call (.Name (fnX e) (Jx (E4 e))) (C0 e) (U9 e) (Jx e))(hn:Hi fr (fnX e) (C0 e) (U9 e)=none)(hs:noStar 200 (C0 e)=true)(hf:nameA fr lo S (fnX e)=some f)
  (ha:Jh (ev n) fr lo S (C0 e)=some ⟨vs,S1⟩)(hk:Sw (ev n) fr lo S1 (U9 e)=some ⟨kv,S2⟩):(ev (n+1)).E fr lo S e=A9 (ev n) fr.wr f vs kv S2:=
 (Ai ((ev (n+1)).E fr lo S) h).trans ((Ai (λz:Ab Expr=>(match z with
  |some e=>((ev n).E fr lo S e).bind KL
  |none=>Af (noStar 200 (C0 e)) ((nameA fr lo S (fnX e)).bind λf=>(Jh (ev n) fr lo S (C0 e)).bind λvs=>(Sw (ev n) fr lo vs.S (U9 e)).bind λkv=>A9 (ev n) fr.wr f vs.v kv.v kv.S):Ab (Rt AV))) hn).trans
  ((Ai (λz=>Af z ((nameA fr lo S (fnX e)).bind λf=>(Jh (ev n) fr lo S (C0 e)).bind λvs=>(Sw (ev n) fr lo vs.S (U9 e)).bind λkv=>A9 (ev n) fr.wr f vs.v kv.v kv.S)) hs).trans
  ((Ai (λz:Ab AV=>z.bind λf=>(Jh (ev n) fr lo S (C0 e)).bind λvs=>(Sw (ev n) fr lo vs.S (U9 e)).bind λkv=>A9 (ev n) fr.wr f vs.v kv.v kv.S) hf).trans
  ((Ai (λz:Ab (Rt (List AV))=>z.bind λvs=>(Sw (ev n) fr lo vs.S (U9 e)).bind λkv=>A9 (ev n) fr.wr f vs.v kv.v kv.S) ha).trans (Ai (λz:Ab (Rt (List (Str×AV)))=>z.bind λkv=>A9 (ev n) fr.wr f vs kv.v kv.S) hk)))))
theorem Td{e:Expr}{v k w:AV}(h:e=.Subscript (E4 e) (Eb e) (Jx e))(hs:Fv (Eb e)=none)(h1:(ev n).E fr lo S (E4 e)=some ⟨v,S1⟩)(h2:(ev n).E fr lo S1 (Eb e)=some ⟨k,S2⟩)(h3:IH S2 v k=some w):(ev (n+1)).E fr lo S e=some ⟨w,S2⟩:=by
 refine(Ai ((ev (n+1)).E fr lo S) h).trans ?_
 show aj (ev n) fr lo S (E4 e) (Eb e)=_
 unfold aj
 rw[h1,hs]
 show((ev n).E fr lo S1 (Eb e)).bind (λk=>(IH k.S v k.v).bind λv=>some (⟨v,k.S⟩ :Rt AV))=_
 rw[h2]
 show(IH S2 v k).bind (λv=>some (⟨v,S2⟩ :Rt AV))=_
 rw[h3]
 rfl
theorem Ni{s:Az}{v:AV}(h:s=.Assign [.Name (Bw (BV s)) (Jx (BV s))] (Cm s) (bC s))(hc:(match MP (Cm s) with | some _=>false | none=>Hh (Cm s) && !Ke (Bw (BV s)) MO)=true)(hE:(ev n).E fr lo S (Cm s)=some ⟨v,S1⟩):(ev (n+1)).X fr lo S s=Hl (putN fr lo S1 (Bw (BV s)) v):=by
 refine(Ai ((ev (n+1)).X fr lo S) h).trans ?_
 show OZ (ev n) fr lo S (Bw (BV s)) (Cm s)=_
 unfold OZ
 cases hz:MP (Cm s) with
 |some _=>rw[hz] at hc;exact VV hc
 |none=>
  rw[hz] at hc
  have h2:=Lu.mp hc
  rw[h2.1]
  show(cond (Ke (Bw (BV s)) MO) _ ((ev n).E fr lo S (Cm s))).bind (λv=>Hl (putN fr lo v.S (Bw (BV s)) v.v))=_
  rw[show Ke (Bw (BV s)) MO=false from VU _▸h2.2]
  rw[hE]
  rfl
theorem Qo{s:Az}{v:AV}(h:s=.Expr (Cm s) (bC s))(hc:Hh (Cm s)=true)(hE:(ev n).E fr lo S (Cm s)=some ⟨v,S1⟩):(ev (n+1)).X fr lo S s=some ⟨.next,lo,S1⟩:=
 (Ai ((ev (n+1)).X fr lo S) h).trans ((Ai (λb=>Af b (((ev n).E fr lo S (Cm s)).bind λx=>nx lo x.S)) hc).trans (Ai (λo:Ab (Rt AV)=>o.bind λx=>nx lo x.S) hE))
theorem I8{e:Expr}{v:AV}{k:Sy}{vs:List AV}(h:e=.Call (.Attribute (E4 (E4 e)) (y8 (E4 e)) (Jx (E4 e))) (C0 e) [] (Jx e))(hb:(baseOk (E4 (E4 e))&&((Jx (E4 e)).endLine==(Jx e).line))=true)(hs:Nv (C0 e)=none)(hn:noStar 20 (C0 e)=true)
  (h1:(ev n).E fr lo S (E4 (E4 e))=some ⟨v,S1⟩)(m:Str)(hm:y8 (E4 e)=m)(hg:OU S1 v m=some k)(ha:Jh (ev n) fr lo S1 (C0 e)=some ⟨vs,S2⟩):(ev (n+1)).E fr lo S e=IL (ev n) fr.wr k v vs S2:=by
 refine(Ai ((ev (n+1)).E fr lo S) h).trans ((Ai (λz=>Af z (SH (ev n) fr lo S (E4 (E4 e)) (y8 (E4 e)) (C0 e))) hb).trans ?_)
 unfold SH
 rw[h1,hs]
 show(OU S1 v (y8 (E4 e))).bind (λk=>Af (noStar 20 (C0 e)) ((Jh (ev n) fr lo S1 (C0 e)).bind λvs=>IL (ev n) fr.wr k v vs.v vs.S))=_
 rw[hm,hg,hn]
 rw[ha]
 rfl
theorem Te{r:Ev}{fi:FI}{as:List AV}{ks:List (Str×AV)}{wr:Nat}{binds lo Bv:Lo}{b:Aa}{H:List AO}{fl:AF}{v:AV}{S':St}
  (hc:AK fi.scope.names=[])(hb:Cv fi as ks=some binds)(hp:IJ (Au fi H.length wr) [] ⟨H,b⟩ binds=some ⟨lo,⟨H,b⟩⟩)(he:fi.Ss=true)(hB:fi.body=.stmts (E8 fi.body))
  (hX:Xs r (Au fi H.length wr) lo ⟨H,b⟩ (E8 fi.body)=some ⟨fl,Bv,S'⟩)(hv:fl.Nb=some v):CM r fi as ks wr ⟨H,b⟩=some ⟨v,S'⟩:=by
 unfold CM
 rw[hc,hb]
 show((IJ (Au fi H.length wr) [] ⟨H++[],b⟩ binds).bind λp=>(KJ r (Au fi H.length wr) fi.body p.v p.S).bind λx=>cond fi.Ss (some x) (letGo ⟨H,b⟩ x))=_
 rw[DW,hp,hB,he]
 show(((Xs r (Au fi H.length wr) lo ⟨H,b⟩ (E8 fi.body)).bind λx=>x.fl.Nb.bind λv=>some (⟨v,x.S⟩ :Rt AV)).bind λx=>some x)=_
 rw[hX]
 show((fl.Nb.bind λv=>some (⟨v,S'⟩ :Rt AV)).bind λx=>some x)=_
 rw[hv]
 rfl
theorem MF{i:Nat}{xs:List AV}{v:AV}(hV:xs[i]?=some v)(hn:xs.length<1000):(Af (decide (xs.length<100000)) ((Cp (i:Int) xs.length).bind (xs[·]?)))=some v:=by
 have hi:=Nat.lt_of_not_le λh=>by rw[H4 h] at hV;nomatch hV
 rw[AU (show xs.length<100000 by exact(pw [.t .p (.k 1000)] (.t .p (.k 100000)) [] [_]) hn),show Cp (i:Int) xs.length=some i from by
  unfold Cp
  dsimp only
  rw[AD (show ¬ ((i:Int)<0) by exact(pw [] (.n (.T (.n .p) (.j 0))) [] [_])),Bh (Lu.mpr ⟨AU (HF i),AU (DB.mpr hi)⟩)]
  rfl]
 exact hV
theorem Jq{i A:Nat}{xs:List AV}{v:AV}{b:Aa}{H:List AO}(hA:H[A]?=some (.list xs))(hV:xs[i]?=some v)(hn:xs.length<1000):IH ⟨H,b⟩ (.loc A) (.int i)=some v:=
 (Ai (λo:Ab AO=>(o.bind uh).bind λxs:List AV=>Af (decide (xs.length<100000)) ((Cp (i:Int) xs.length).bind (xs[·]?))) hA).trans (MF hV hn)
end
def CJ:FI:=jg (FT 57)
def CK:FI:=jg (FT 39)
noncomputable def bl(a x:AV)(l h:Int)(key:AV)(m:Ab AV):Lo:=A8 [("a",a),("x",x),("lo",.int l),("hi",.int h),("key",key)] (m.elim [] λv=>[("mid",v)])
def JK(a x key:AV):Lo:=[("a",a),("x",x),("lo",.int 0),("hi",.none),("key",key)]
theorem MG{n:Nat}(hl:TZ S.H a=some (n:Int))(hn:n<1000):A9 r wr (.val (.builtin "len")) [a] [] S=some ⟨.int n,S⟩:=by
 have e:A9 r wr (.val (.builtin "len")) [a] [] S=(TZ S.H a).bind λn=>some ⟨.int n,S.need (decide (0<=n/\n<2^60))⟩:=⋯
 rw[e,hl]
 show some (⟨.int n,S.need (decide ((0:Int)<=n/\(n:Int)<2^60))⟩ :Rt AV)=_
 rw[AU ⟨HF n,(pw [.t .p (.k 1000)] (.T (.n .p) (.j (2^60))) [] [_]) hn⟩]
 rfl
theorem za{P:Nat->Aa}(h1:B3 wS=NF (B3 wS)::(B3 wS).tail)(h2:(B3 wS).tail=NF (B3 wS).tail::(B3 wS).tail.tail)(h3:(B3 wS).tail.tail=[])
  (hT:∀l h m,(ev N).T fr (bl a x l h key m) S (BV wS)=some ⟨decide (l<h),S⟩)
  (hA:∀l h m,(ev N).X fr (bl a x l h key m) S (NF (B3 wS))=some ⟨.next,bl a x l h key (some (.int ((l+h).fdiv 2))),S⟩)
  (hC:∀(l h:Int)(i:Nat),i<n->(ev N).X fr (bl a x l h key (some (.int i))) S (NF (B3 wS).tail)=some ⟨.next,cond (P i) (bl a x (i+1) h key (some (.int i))) (bl a x l i key (some (.int i))),S⟩)
  (p1:∀i,i<c->P i=true)(p2:∀i,c<=i->i<n->P i=false):
  ∀(j l h:Nat)(m:Ab AV),l<=c->c<=h->h<=n->h-l<j->∃m',Hk (ev N) fr (BV wS) (B3 wS) j (bl a x l h key m) S=some ⟨.next,bl a x c c key m',S⟩:=by
 intro j
 induction j with
 |zero=>intro l h m _ _ _ q;exact AL q (Ff _)
 |succ j ih=>
  intro l h m hl hh hn hj
  show ∃m',(((ev N).T fr (bl a x l h key m) S (BV wS)).bind λb=>cond b.v ((Xs (ev N) fr (bl a x l h key m) b.S (B3 wS)).bind λx=>cond x.fl.GB (Hk (ev N) fr (BV wS) (B3 wS) j x.lo x.S) (some x)) (some (⟨.next,bl a x l h key m,b.S⟩ :Rx)))=_
  rw[hT]
  show ∃m',cond (decide ((l:Int)<h)) ((Xs (ev N) fr (bl a x l h key m) S (B3 wS)).bind λx=>cond x.fl.GB (Hk (ev N) fr (BV wS) (B3 wS) j x.lo x.S) (some x)) (some (⟨.next,bl a x l h key m,S⟩ :Rx))=_
  by_cases q:l<h
  ·rw[AU (DB.mpr q),Ak h1 (hA l h m),show((l:Int)+h).fdiv 2=((l+h)/2:Nat) from(NT _ ⋯).trans ((pw [.E (.A (.l 2 .p) .q) (.A (.n .q) (.n .r)),.T .q (.j 2),.L (.j 0) .q,.e (.A (.m 2 .p) .s) (.A .q .r),.t .s (.k 2)] (.E .p (.n .p)) [_,_] [_,_,_,_]) (VY _ _) (Lv _ ⋯) (Lx _ ⋯) (Du _ _) (Dx _ ⋯)),Ak h2 (hC l h ((l+h)/2) ((pw [.l .p .q,.t .r .p,.e (.A (.m 2 .s) .t) (.A .r .p),.t .t (.k 2)] (.t .s .q) [] [_,_,_,_,_]) hn q (Du _ _) (Dx _ ⋯))),h3]
   cases e:P ((l+h)/2) with
   |true=>exact ih ((l+h)/2+1) h _ (Nat.lt_of_not_le λz=>by rw[p2 _ z ((pw [.l .p .q,.t .r .p,.e (.A (.m 2 .s) .t) (.A .r .p),.t .t (.k 2)] (.t .s .q) [] [_,_,_,_,_]) hn q (Du _ _) (Dx _ ⋯))] at e;nomatch e) hh hn ((pw [.t (.S .p .q) (.A .r (.k 1)),.t .q .p,.e (.A (.m 2 .s) .t) (.A .q .p),.t .t (.k 2)] (.t (.S .p (.A .s (.k 1))) .r) [] [_,_,_,_,_]) hj q (Du _ _) (Dx _ ⋯))
   |false=>exact ih l ((l+h)/2) _ hl (N8 λz=>by rw[p1 _ z] at e;nomatch e) ((pw [.l .p .q,.t .r .p,.e (.A (.m 2 .s) .t) (.A .r .p),.t .t (.k 2)] (.l .s .q) [] [_,_,_,_,_]) hn q (Du _ _) (Dx _ ⋯)) ((pw [.t (.S .p .q) (.A .r (.k 1)),.t .q .p,.e (.A (.m 2 .s) .t) (.A .q .p),.t .t (.k 2)] (.t (.S .s .q) .r) [] [_,_,_,_,_]) hj q (Du _ _) (Dx _ ⋯))
  ·rw[Ct (λz=>q (DB.mp z)),show l=c from(pw [.l .p .q,.l .q .r,.n (.t .p .r)] (.e .p .q) [] [_,_,_]) hl hh q,show h=c from(pw [.l .p .q,.l .q .r,.n (.t .p .r)] (.e .r .q) [] [_,_,_]) hl hh q]
   exact⟨m,rfl⟩
def ws(fi:FI)(k:Aa):Az:=NF (cond k (lR (Bb (E8 fi.body) 2)) (B3 (Bb (E8 fi.body) 2)))
def wi(fi:FI)(k:Aa):Az:=NF (B3 (ws fi k)).tail
section
variable{k n wr:Nat}{a x key v:AV}{S:St}{l h:Int}{b:Aa}{i K:Int}
theorem t57:(ev (k+5)).T (Au CJ n wr) (bl a x l h key m) S (BV (ws CJ true))=some ⟨decide (l<h),S⟩:=by rcases m with ⟨⟩<;>kernel_rfl
theorem a57:(ev (k+5)).X (Au CJ n wr) (bl a x l h key m) S (NF (B3 (ws CJ true)))=some ⟨.next,bl a x l h key (some (.int ((l+h).fdiv 2))),S⟩:=by rcases m with ⟨⟩<;>kernel_rfl
theorem u57:(ev (k+5)).T (Au CJ n wr) (bl a x l h key m) S (BV (ws CJ false))=some ⟨decide (l<h),S⟩:=by rcases m with ⟨⟩<;>kernel_rfl
theorem b57:(ev (k+5)).X (Au CJ n wr) (bl a x l h key m) S (NF (B3 (ws CJ false)))=some ⟨.next,bl a x l h key (some (.int ((l+h).fdiv 2))),S⟩:=by rcases m with ⟨⟩<;>kernel_rfl
theorem t39:(ev (k+5)).T (Au CK n wr) (bl a x l h key m) S (BV (ws CK true))=some ⟨decide (l<h),S⟩:=by rcases m with ⟨⟩<;>kernel_rfl
theorem a39:(ev (k+5)).X (Au CK n wr) (bl a x l h key m) S (NF (B3 (ws CK true)))=some ⟨.next,bl a x l h key (some (.int ((l+h).fdiv 2))),S⟩:=by rcases m with ⟨⟩<;>kernel_rfl
theorem u39:(ev (k+5)).T (Au CK n wr) (bl a x l h key m) S (BV (ws CK false))=some ⟨decide (l<h),S⟩:=by rcases m with ⟨⟩<;>kernel_rfl
theorem b39:(ev (k+5)).X (Au CK n wr) (bl a x l h key m) S (NF (B3 (ws CK false)))=some ⟨.next,bl a x l h key (some (.int ((l+h).fdiv 2))),S⟩:=by rcases m with ⟨⟩<;>kernel_rfl
theorem Abu(hs:IH S a (.int i)=some v)(hk:A9 (ev (k+2)) (Au CJ n wr).wr key [v] [] S=some ⟨.int K,S⟩)(hc:Gz .Lt (.int K) x S=some b):
  (ev (k+5)).X (Au CJ n wr) (bl a x l h key (some (.int i))) S (wi CJ true)=some ⟨.next,cond b (bl a x (i+1) h key (some (.int i))) (bl a x l i key (some (.int i))),S⟩:=by
 have E1:(ev (k+2)).E (Au CJ n wr) (bl a x l h key (some (.int i))) S (CA (C0 (E4 (BV (wi CJ true)))) 0)=some ⟨v,S⟩:=Td ⋯ ⋯ (S1:=S) ⋯ ⋯ hs
 have E2:=(CH ⋯ ⋯ ⋯ ⋯ (Dg ⋯ E1) ⋯).trans hk
 have T1:=KZ ⋯ ⋯ E2 ⋯ .Lt ⋯ hc
 refine(KY ⋯ T1).trans ?_
 rcases b with ⟨⟩<;>kernel_rfl
theorem Abv(hs:IH S a (.int i)=some v)(hc:Gz .Lt v x S=some b):
  (ev (k+5)).X (Au CJ n wr) (bl a x l h key (some (.int i))) S (wi CJ false)=some ⟨.next,cond b (bl a x (i+1) h key (some (.int i))) (bl a x l i key (some (.int i))),S⟩:=by
 have E1:(ev (k+3)).E (Au CJ n wr) (bl a x l h key (some (.int i))) S (E4 (BV (wi CJ false)))=some ⟨v,S⟩:=Td ⋯ ⋯ (S1:=S) ⋯ ⋯ hs
 have T1:=KZ ⋯ ⋯ E1 ⋯ .Lt ⋯ hc
 refine(KY ⋯ T1).trans ?_
 rcases b with ⟨⟩<;>kernel_rfl
theorem Abw(hs:IH S a (.int i)=some v)(hk:A9 (ev (k+2)) (Au CK n wr).wr key [v] [] S=some ⟨.int K,S⟩)(hc:Gz .Lt x (.int K) S=some b):
  (ev (k+5)).X (Au CK n wr) (bl a x l h key (some (.int i))) S (wi CK true)=some ⟨.next,cond b (bl a x l i key (some (.int i))) (bl a x (i+1) h key (some (.int i))),S⟩:=by
 have E1:(ev (k+2)).E (Au CK n wr) (bl a x l h key (some (.int i))) S (CA (C0 (Eb (BV (wi CK true)))) 0)=some ⟨v,S⟩:=Td ⋯ ⋯ (S1:=S) ⋯ ⋯ hs
 have E2:=(CH ⋯ ⋯ ⋯ ⋯ (Dg ⋯ E1) ⋯).trans hk
 have T1:=KZ (S:=S) ⋯ ⋯ ⋯ E2 .Lt ⋯ hc
 refine(KY ⋯ T1).trans ?_
 rcases b with ⟨⟩<;>kernel_rfl
theorem Abx(hs:IH S a (.int i)=some v)(hc:Gz .Lt x v S=some b):
  (ev (k+5)).X (Au CK n wr) (bl a x l h key (some (.int i))) S (wi CK false)=some ⟨.next,cond b (bl a x l i key (some (.int i))) (bl a x (i+1) h key (some (.int i))),S⟩:=by
 have E1:(ev (k+3)).E (Au CK n wr) (bl a x l h key (some (.int i))) S (Eb (BV (wi CK false)))=some ⟨v,S⟩:=Td ⋯ ⋯ (S1:=S) ⋯ ⋯ hs
 have T1:=KZ (S:=S) ⋯ ⋯ ⋯ E1 .Lt ⋯ hc
 refine(KY ⋯ T1).trans ?_
 rcases b with ⟨⟩<;>kernel_rfl
end
theorem Aby{k wr c' n:Nat}{c:Sq}{V:Nat->AV}{K:Nat->Int}{P:Nat->Aa}
  (hb:Cv CJ as ks=some (JK a x (.BI c)))(hn:n<60)(hl:TZ H a=some (n:Int))(hs:∀i:Nat,i<n->IH ⟨H,b⟩ a (.int i)=some (V i))
  (hk:∀i,i<n->A9 (ev (k+2)) H.length (.BI c) [V i] [] ⟨H,b⟩=some ⟨.int (K i),⟨H,b⟩⟩)(hc:∀i,i<n->Gz .Lt (.int (K i)) x ⟨H,b⟩=some (P i))(p1:∀i,i<c'->P i=true)(p2:∀i,c'<=i->i<n->P i=false)(hcn:c'<=n):A9 (ev (k+7)) wr (.val (.ref 57)) as ks ⟨H,b⟩=some ⟨.int c',⟨H,b⟩⟩:=by
 have El:(ev (k+5)).E (Au CJ H.length wr) (JK a x (.BI c)) ⟨H,b⟩ (Cm (NF (B3 (Bb (E8 CJ.body) 1))))=some ⟨.int n,⟨H,b⟩⟩:=
  (CH (S1:=⟨H,b⟩) ⋯ ⋯ ⋯ ⋯ ⋯ ⋯).trans (MG hl ((pw [.t .p (.k 60)] (.t .p (.k 1000)) [] [_]) hn))
 have X1:(ev (k+7)).X (Au CJ H.length wr) (JK a x (.BI c)) ⟨H,b⟩ (Bb (E8 CJ.body) 1)=some ⟨.next,bl a x 0 n (.BI c) none,⟨H,b⟩⟩:=
  (KY (b:=true) ⋯ ⋯).trans ((Ak (lo1:=bl a x 0 n (.BI c) none) (S1:=⟨H,b⟩) ⋯ ((Ni ⋯ ⋯ El).trans ⋯)).trans ⋯)
 refine(za (fr:=Au CJ H.length wr) (a:=a) (x:=x) (key:=(.BI c)) (S:=⟨H,b⟩) (wS:=ws CJ true) ⋯ ⋯ ⋯ (λ_ _ _=>t57) (λ_ _ _=>a57) (λl h i hi=>Abu (hs i hi) (hk i hi) (hc i hi)) p1 p2 60 0 n none (Co _) hcn (AP _) hn).elim λm hw=>?_
 have X2:(ev (k+7)).X (Au CJ H.length wr) (bl a x 0 n (.BI c) none) ⟨H,b⟩ (Bb (E8 CJ.body) 2)=some ⟨.next,bl a x c' c' (.BI c) m,⟨H,b⟩⟩:=
  (KY (n:=k+6) (b:=false) (S1:=⟨H,b⟩) ⋯ ⋯).trans ((Ak (lo1:=bl a x c' c' (.BI c) m) (S1:=⟨H,b⟩) ⋯ (y9 (n:=k+5) (s:=ws CJ true) ⋯ hw)).trans ⋯)
 refine Jp (fi:=CJ) ⋯ hb ⋯ ⋯ ⋯ (lo:=JK a x (.BI c)) (Bv:=bl a x c' c' (.BI c) m) (fl:=.ret (.int c')) ?_ rfl rfl
 refine(Ak (lo1:=(JK a x (.BI c))) (S1:=⟨H,b⟩) ⋯ ⋯).trans ((Ak ⋯ X1).trans ((Ak ⋯ X2).trans (Kr ⋯ (x:=⟨.ret (.int c'),bl a x c' c' (.BI c) m,⟨H,b⟩⟩) ?_ rfl)))
 rcases m with ⟨⟩<;>kernel_rfl
theorem xu{k wr c' n:Nat}{b:Aa}{V:Nat->AV}{P:Nat->Aa}
  (hb:Cv CJ as ks=some (JK a x .none))(hn:n<60)(hl:TZ H a=some (n:Int))(hs:∀i:Nat,i<n->IH ⟨H,b⟩ a (.int i)=some (V i))
  (hc:∀i,i<n->Gz .Lt (V i) x ⟨H,b⟩=some (P i))(p1:∀i,i<c'->P i=true)(p2:∀i,c'<=i->i<n->P i=false)(hcn:c'<=n):A9 (ev (k+7)) wr (.val (.ref 57)) as ks ⟨H,b⟩=some ⟨.int c',⟨H,b⟩⟩:=by
 have El:(ev (k+5)).E (Au CJ H.length wr) (JK a x .none) ⟨H,b⟩ (Cm (NF (B3 (Bb (E8 CJ.body) 1))))=some ⟨.int n,⟨H,b⟩⟩:=
  (CH (S1:=⟨H,b⟩) ⋯ ⋯ ⋯ ⋯ ⋯ ⋯).trans (MG hl ((pw [.t .p (.k 60)] (.t .p (.k 1000)) [] [_]) hn))
 have X1:(ev (k+7)).X (Au CJ H.length wr) (JK a x .none) ⟨H,b⟩ (Bb (E8 CJ.body) 1)=some ⟨.next,bl a x 0 n .none none,⟨H,b⟩⟩:=
  (KY (b:=true) ⋯ ⋯).trans ((Ak (lo1:=bl a x 0 n .none none) (S1:=⟨H,b⟩) ⋯ ((Ni ⋯ ⋯ El).trans ⋯)).trans ⋯)
 refine(za (N:=k+5) (fr:=Au CJ H.length wr) (a:=a) (x:=x) (key:=.none) (S:=⟨H,b⟩) (wS:=ws CJ false) ⋯ ⋯ ⋯ (λ_ _ _=>u57) (λ_ _ _=>b57) (λl h i hi=>Abv (hs i hi) (hc i hi)) p1 p2 60 0 n none (Co _) hcn (AP _) hn).elim λm hw=>?_
 have X2:(ev (k+7)).X (Au CJ H.length wr) (bl a x 0 n .none none) ⟨H,b⟩ (Bb (E8 CJ.body) 2)=some ⟨.next,bl a x c' c' .none m,⟨H,b⟩⟩:=
  (KY (n:=k+6) (b:=true) (S1:=⟨H,b⟩) ⋯ ⋯).trans ((Ak (lo1:=bl a x c' c' .none m) (S1:=⟨H,b⟩) ⋯ (y9 (n:=k+5) (s:=ws CJ false) ⋯ hw)).trans ⋯)
 refine Jp (fi:=CJ) ⋯ hb ⋯ ⋯ ⋯ (lo:=JK a x .none) (Bv:=bl a x c' c' .none m) (fl:=.ret (.int c')) ?_ rfl rfl
 refine(Ak (lo1:=(JK a x .none)) (S1:=⟨H,b⟩) ⋯ ⋯).trans ((Ak ⋯ X1).trans ((Ak ⋯ X2).trans (Kr ⋯ (x:=⟨.ret (.int c'),bl a x c' c' .none m,⟨H,b⟩⟩) ?_ rfl)))
 rcases m with ⟨⟩<;>kernel_rfl
theorem xv{k wr c' n:Nat}{c:Sq}{V:Nat->AV}{K:Nat->Int}{P:Nat->Aa}
  (hb:Cv CK as ks=some (JK a x (.BI c)))(hn:n<60)(hl:TZ H a=some (n:Int))(hs:∀i:Nat,i<n->IH ⟨H,b⟩ a (.int i)=some (V i))
  (hk:∀i,i<n->A9 (ev (k+2)) H.length (.BI c) [V i] [] ⟨H,b⟩=some ⟨.int (K i),⟨H,b⟩⟩)(hc:∀i,i<n->Gz .Lt x (.int (K i)) ⟨H,b⟩=some (!P i))(p1:∀i,i<c'->P i=true)(p2:∀i,c'<=i->i<n->P i=false)(hcn:c'<=n):A9 (ev (k+7)) wr (.val (.ref 39)) as ks ⟨H,b⟩=some ⟨.int c',⟨H,b⟩⟩:=by
 have El:(ev (k+5)).E (Au CK H.length wr) (JK a x (.BI c)) ⟨H,b⟩ (Cm (NF (B3 (Bb (E8 CK.body) 1))))=some ⟨.int n,⟨H,b⟩⟩:=
  (CH (S1:=⟨H,b⟩) ⋯ ⋯ ⋯ ⋯ ⋯ ⋯).trans (MG hl ((pw [.t .p (.k 60)] (.t .p (.k 1000)) [] [_]) hn))
 have X1:(ev (k+7)).X (Au CK H.length wr) (JK a x (.BI c)) ⟨H,b⟩ (Bb (E8 CK.body) 1)=some ⟨.next,bl a x 0 n (.BI c) none,⟨H,b⟩⟩:=
  (KY (b:=true) ⋯ ⋯).trans ((Ak (lo1:=bl a x 0 n (.BI c) none) (S1:=⟨H,b⟩) ⋯ ((Ni ⋯ ⋯ El).trans ⋯)).trans ⋯)
 refine(za (fr:=Au CK H.length wr) (a:=a) (x:=x) (key:=(.BI c)) (S:=⟨H,b⟩) (wS:=ws CK true) ⋯ ⋯ ⋯ (λ_ _ _=>t39) (λ_ _ _=>a39) (λl h i hi=>(Abw (hs i hi) (hk i hi) (hc i hi)).trans (by rcases P i with ⟨⟩<;>rfl)) p1 p2 60 0 n none (Co _) hcn (AP _) hn).elim λm hw=>?_
 have X2:(ev (k+7)).X (Au CK H.length wr) (bl a x 0 n (.BI c) none) ⟨H,b⟩ (Bb (E8 CK.body) 2)=some ⟨.next,bl a x c' c' (.BI c) m,⟨H,b⟩⟩:=
  (KY (n:=k+6) (b:=false) (S1:=⟨H,b⟩) ⋯ ⋯).trans ((Ak (lo1:=bl a x c' c' (.BI c) m) (S1:=⟨H,b⟩) ⋯ (y9 (n:=k+5) (s:=ws CK true) ⋯ hw)).trans ⋯)
 refine Jp (fi:=CK) ⋯ hb ⋯ ⋯ ⋯ (lo:=JK a x (.BI c)) (Bv:=bl a x c' c' (.BI c) m) (fl:=.ret (.int c')) ?_ rfl rfl
 refine(Ak (lo1:=(JK a x (.BI c))) (S1:=⟨H,b⟩) ⋯ ⋯).trans ((Ak ⋯ X1).trans ((Ak ⋯ X2).trans (Kr ⋯ (x:=⟨.ret (.int c'),bl a x c' c' (.BI c) m,⟨H,b⟩⟩) ?_ rfl)))
 rcases m with ⟨⟩<;>kernel_rfl
theorem Abz{k wr c' n:Nat}{b:Aa}{V:Nat->AV}{P:Nat->Aa}
  (hb:Cv CK as ks=some (JK a x .none))(hn:n<60)(hl:TZ H a=some (n:Int))(hs:∀i:Nat,i<n->IH ⟨H,b⟩ a (.int i)=some (V i))
  (hc:∀i,i<n->Gz .Lt x (V i) ⟨H,b⟩=some (!P i))(p1:∀i,i<c'->P i=true)(p2:∀i,c'<=i->i<n->P i=false)(hcn:c'<=n):A9 (ev (k+7)) wr (.val (.ref 39)) as ks ⟨H,b⟩=some ⟨.int c',⟨H,b⟩⟩:=by
 have El:(ev (k+5)).E (Au CK H.length wr) (JK a x .none) ⟨H,b⟩ (Cm (NF (B3 (Bb (E8 CK.body) 1))))=some ⟨.int n,⟨H,b⟩⟩:=
  (CH (S1:=⟨H,b⟩) ⋯ ⋯ ⋯ ⋯ ⋯ ⋯).trans (MG hl ((pw [.t .p (.k 60)] (.t .p (.k 1000)) [] [_]) hn))
 have X1:(ev (k+7)).X (Au CK H.length wr) (JK a x .none) ⟨H,b⟩ (Bb (E8 CK.body) 1)=some ⟨.next,bl a x 0 n .none none,⟨H,b⟩⟩:=
  (KY (b:=true) ⋯ ⋯).trans ((Ak (lo1:=bl a x 0 n .none none) (S1:=⟨H,b⟩) ⋯ ((Ni ⋯ ⋯ El).trans ⋯)).trans ⋯)
 refine(za (N:=k+5) (fr:=Au CK H.length wr) (a:=a) (x:=x) (key:=.none) (S:=⟨H,b⟩) (wS:=ws CK false) ⋯ ⋯ ⋯ (λ_ _ _=>u39) (λ_ _ _=>b39) (λl h i hi=>(Abx (hs i hi) (hc i hi)).trans (by rcases P i with ⟨⟩<;>rfl)) p1 p2 60 0 n none (Co _) hcn (AP _) hn).elim λm hw=>?_
 have X2:(ev (k+7)).X (Au CK H.length wr) (bl a x 0 n .none none) ⟨H,b⟩ (Bb (E8 CK.body) 2)=some ⟨.next,bl a x c' c' .none m,⟨H,b⟩⟩:=
  (KY (n:=k+6) (b:=true) (S1:=⟨H,b⟩) ⋯ ⋯).trans ((Ak (lo1:=bl a x c' c' .none m) (S1:=⟨H,b⟩) ⋯ (y9 (n:=k+5) (s:=ws CK false) ⋯ hw)).trans ⋯)
 refine Jp (fi:=CK) ⋯ hb ⋯ ⋯ ⋯ (lo:=JK a x .none) (Bv:=bl a x c' c' .none m) (fl:=.ret (.int c')) ?_ rfl rfl
 refine(Ak (lo1:=(JK a x .none)) (S1:=⟨H,b⟩) ⋯ ⋯).trans ((Ak ⋯ X1).trans ((Ak ⋯ X2).trans (Kr ⋯ (x:=⟨.ret (.int c'),bl a x c' c' .none m,⟨H,b⟩⟩) ?_ rfl)))
 rcases m with ⟨⟩<;>kernel_rfl
noncomputable def FE(P:Nat->Aa)(x:Nat):List Nat->List Nat
 |[]=>[x]
 |q::t=>cond (P q) (q::FE P x t) (x::q::t)
noncomputable def cnt(P:Nat->Aa):List Nat->Nat
 |[]=>0
 |q::t=>cond (P q) (cnt P t+1) (cnt P t)
def PQ(P:Nat->Aa)(l:List Nat):Prop:=l.Pairwise λa b=>P b=true->P a=true
theorem cnt_none:∀{l:List Nat},(∀q,q∈l->P q=false)->cnt P l=0
 |[],_=>rfl
 |q::t,h=>(Ai (λb=>cond b (cnt P t+1) (cnt P t)) (h q (.head _))).trans (cnt_none λx hx=>h x (.tail _ hx))
theorem Hr:∀l:List Nat,cnt P l<=l.length
 |[]=>AP _
 |q::t=>by
  show cond (P q) (cnt P t+1) (cnt P t)<=t.length+1
  induction P q using Eh with
  |true=>exact Wl (Hr t)
  |false=>exact JT (Hr t)
theorem XW:∀{l:List Nat},PQ P l->∀i,i<cnt P l->P (l.getD i 0)=true
 |[],_,i,h=>AL h (Ff _)
 |q::t,m,i,h=>by
  have m:=FL.mp m
  change i<cond (P q) (cnt P t+1) (cnt P t) at h
  cases e:P q with
  |true=>
   rw[e] at h
   induction i using LO with
   |zero=>exact e
   |succ i=>exact XW m.2 i (LL h)
  |false=>
   rw[e,cnt_none λx hx=>by
    cases e':P x with
    |false=>rfl
    |true=>rw[m.1 x hx e'] at e;nomatch e] at h
   exact AL h (Ff _)
theorem XY:∀{l:List Nat},PQ P l->∀i,cnt P l<=i->i<l.length->P (l.getD i 0)=false
 |[],_,i,_,h=>AL h (Ff _)
 |q::t,m,i,h,hl=>by
  have m:=FL.mp m
  change cond (P q) (cnt P t+1) (cnt P t)<=i at h
  cases e:P q with
  |true=>
   rw[e] at h
   induction i using LO with
   |zero=>exact AL h (Nat.not_succ_le_zero _)
   |succ i=>exact XY m.2 i (Nat.le_of_succ_le_succ h) (LL hl)
  |false=>
   have all:∀x,x∈q::t->P x=false:=λx hx=>by
    cases hx with
    |head=>exact e
    |tail _ hx=>
     cases e':P x with
     |false=>rfl
     |true=>rw[m.1 x hx e'] at e;nomatch e
   refine all _ ?_
   rw[HG,HU hl] at ⊢
   exact List.getElem_mem hl
theorem gO:∀{l:List Nat},PQ P l->l.take (cnt P l)++x::l.drop (cnt P l)=FE P x l
 |[],_=>rfl
 |q::t,m=>by
  have m:=FL.mp m
  show(q::t).take (cond (P q) (cnt P t+1) (cnt P t))++x::(q::t).drop (cond (P q) (cnt P t+1) (cnt P t))=cond (P q) (q::FE P x t) (x::q::t)
  cases e:P q with
  |true=>exact Ai (q :: ·) (gO m.2)
  |false=>
   rw[cnt_none λy hy=>by
    cases e':P y with
    |false=>rfl
    |true=>rw[m.1 y hy e'] at e;nomatch e]
   rfl
theorem PR:∀{l:List Nat},y∈FE P x l↔y=x\/y∈l
 |[]=>Bc
 |q::t=>by
  show y∈cond (P q) (q::FE P x t) (x::q::t)↔_
  induction P q using Eh with
  |true=>exact Bc.trans ((or_congr Iff.rfl (PR)).trans ⟨λh=>h.elim (λe=>.inr (e▸.head _)) λh=>h.elim .inl λh=>.inr (.tail _ h),λh=>h.elim (λe=>.inr (.inl e)) λh=>(Bc.mp h).elim .inl λh=>.inr (.inr h)⟩)
  |false=>exact Bc
theorem Va:∀l:List Nat,(FE P x l).length=l.length+1
 |[]=>rfl
 |q::t=>by
  show(cond (P q) (q::FE P x t) (x::q::t)).length=_
  induction P q using Eh with
  |true=>exact Ai (· +1) (Va t)
  |false=>rfl
theorem FX(ht:∀a b c,Q a b->Q b c->Q a c):∀{l:List Nat},(∀q,q∈l->P q=true->Q q x)->(∀q,q∈l->P q=false->Q x q)->l.Pairwise Q->(FE P x l).Pairwise Q
 |[],_,_,_=>FL.mpr ⟨nofun,.nil⟩
 |q::t,h1,h2,m=>by
  have m':=FL.mp m
  show(cond (P q) (q::FE P x t) (x::q::t)).Pairwise Q
  cases e:P q with
  |true=>exact FL.mpr ⟨λy hy=>(PR.mp hy).elim (λz=>z▸h1 q (.head _) e) (m'.1 y),FX ht (λy hy=>h1 y (.tail _ hy)) (λy hy=>h2 y (.tail _ hy)) m'.2⟩
  |false=>
   have hx:=h2 q (.head _) e
   exact FL.mpr ⟨λy hy=>(Bc.mp hy).elim (λz=>z▸hx) λhy=>ht _ _ _ hx (m'.1 y hy),m⟩
noncomputable def row(P:Nat->Nat->Aa):Nat->List Nat
 |0=>[]
 |m+1=>FE (P m) m (row P m)
theorem Dh:∀{m q:Nat},q∈row P m↔q<m
 |0,q=>⟨nofun,λh=>AL h (Ff _)⟩
 |m+1,q=>PR.trans ((or_congr Iff.rfl Dh).trans ((or_comm).trans (Nat.lt_succ_iff_lt_or_eq).symm))
theorem B1:∀m:Nat,(row P m).length=m
 |0=>rfl
 |m+1=>(Va _).trans (Ai (· +1) (B1 m))
def Jy:FI:=jg (FT 48)
def Vb:FI:=jg (FT 30)
def XZ(a x:AV)(l:Nat)(key:AV):Lo:=[("a",a),("x",x),("lo",.int l),("hi",.none),("key",key)]
theorem rG{xs:List AV}(hA:H[A]?=some (.list xs))(hc:c'<=xs.length)(hn:xs.length<1000):IL r 0 (.bi .insert) (.loc A) [.int c',p] ⟨H,b⟩=some ⟨.none,⟨H.set A (.list (xs.take c'++p::xs.drop c')),b⟩⟩:=
 (Ai (λo:Ab AO=>(o.bind CW).bind λxs:List AV=>Af (decide ((0:Int)<=c'/\(c':Int)<=xs.length/\xs.length<1000)) (HH 0 ⟨H,b⟩ A (.list (xs.take (c':Int).toNat++p::xs.drop (c':Int).toNat)))) hA).trans
  (Ai (λz=>Af z (HH 0 ⟨H,b⟩ A (.list (xs.take (c':Int).toNat++p::xs.drop (c':Int).toNat)))) (AU ⟨HF _,DL.mpr hc,hn⟩))
theorem AbA{V:Nat->AV}{P:Nat->Aa}{K:Nat->Int}(hA:H[A]?=some (.list xs))(hn:xs.length=n)(h60:n<60)(hV:∀i,i<n->xs[i]?=some (V i))
  (hk:∀m wr i,i<n->A9 (ev (m+4)) wr (.BI c) [V i] [] ⟨H,b⟩=some ⟨.int (K i),⟨H,b⟩⟩)(hkx:∀m wr,A9 (ev (m+4)) wr (.BI c) [p] [] ⟨H,b⟩=some ⟨.int Kx,⟨H,b⟩⟩)(hc:∀i,i<n->Gz .Lt (.int (K i)) (.int Kx) ⟨H,b⟩=some (P i))(p1:∀i,i<c'->P i=true)(p2:∀i,c'<=i->i<n->P i=false)(hcn:c'<=n):A9 (ev (k+12)) 0 (.val (.ref 48)) [.loc A,p] [("key",.BI c)] ⟨H,b⟩=some ⟨.none,⟨H.set A (.list (xs.take c'++p::xs.drop c')),b⟩⟩:=by
 have hl:=(Ai (λo:Ab AO=>o.bind (aa H)) hA).trans (Ai (λn:Nat=>some (n:Int)) hn)
 have hs:∀i:Nat,i<n->IH ⟨H,b⟩ (.loc A) (.int i)=some (V i):=λi hi=>Jq hA (hV i hi) ((pw [.e .p .q,.t .q (.k 60)] (.t .p (.k 1000)) [] [_,_]) hn h60)
 have E1:(ev (k+10)).E (Au Jy H.length 0) (JK (.loc A) p (.BI c)) ⟨H,b⟩ (Cm (NF (lR (Bb (E8 Jy.body) 0))))=some ⟨.int c',⟨H,b⟩⟩:=
  (CH (S1:=⟨H,b⟩) (kv:=[("key",.BI c)]) ⋯ ⋯ ⋯ ⋯ (CB (S1:=⟨H,b⟩) (v:=.loc A) ⋯ ⋯ (CB ⋯ ((CH (S1:=⟨H,b⟩) ⋯ ⋯ ⋯ ⋯ ⋯ ⋯).trans (hkx (k+4) _)) (vs:=[.int 0,.none]) ⋯)) ⋯).trans (Aby (a:=.loc A) (x:=.int Kx) ⋯ h60 hl hs (λi hi=>hk k _ i hi) hc p1 p2 hcn)
 have X1:(ev (k+12)).X (Au Jy H.length 0) (JK (.loc A) p (.BI c)) ⟨H,b⟩ (Bb (E8 Jy.body) 0)=some ⟨.next,XZ (.loc A) p c' (.BI c),⟨H,b⟩⟩:=
  (KY (n:=k+11) (b:=false) (S1:=⟨H,b⟩) ⋯ ⋯).trans ((Ak (lo1:=XZ (.loc A) p c' (.BI c)) (S1:=⟨H,b⟩) ⋯ ((Ni (n:=k+10) ⋯ ⋯ E1).trans ⋯)).trans ⋯)
 have X2:(ev (k+12)).X (Au Jy H.length 0) (XZ (.loc A) p c' (.BI c)) ⟨H,b⟩ (Bb (E8 Jy.body) 1)=some ⟨.next,XZ (.loc A) p c' (.BI c),⟨H.set A (.list (xs.take c'++p::xs.drop c')),b⟩⟩:=
  Qo (n:=k+11) (v:=.none) ⋯ ⋯ ((I8 (n:=k+10) (S1:=⟨H,b⟩) (S2:=⟨H,b⟩) (v:=.loc A) (k:=.bi .insert) (vs:=[.int c',p]) ⋯ ⋯ ⋯ ⋯ ⋯ "insert" ⋯ ((Ai (λo:Ab AO=>o.bind (Qx ⟨H,b⟩ "insert")) hA).trans ⋯) ⋯).trans (rG hA (by exact(pw [.e .p .q,.l .r .q] (.l .r .p) [] [_,_,_]) hn hcn) (by exact(pw [.e .p .q,.t .q (.k 60)] (.t .p (.k 1000)) [] [_,_]) hn h60)))
 refine(show A9 (ev (k+12)) 0 (.val (.ref 48)) [.loc A,p] [("key",.BI c)] ⟨H,b⟩=CM (ev (k+12)) Jy [.loc A,p] [("key",.BI c)] 0 ⟨H,b⟩ from ⋯).trans ?_
 exact Te (fi:=Jy) (binds:=JK (.loc A) p (.BI c)) (lo:=JK (.loc A) p (.BI c)) (Bv:=XZ (.loc A) p c' (.BI c)) (fl:=.next) ⋯ ⋯ ⋯ ⋯ ⋯ ((Ak ⋯ X1).trans ((Ak ⋯ X2).trans ⋯)) rfl
theorem AbB{V:Nat->AV}{P:Nat->Aa}{K:Nat->Int}(hA:H[A]?=some (.list xs))(hn:xs.length=n)(h60:n<60)(hV:∀i,i<n->xs[i]?=some (V i))
  (hk:∀m wr i,i<n->A9 (ev (m+4)) wr (.BI c) [V i] [] ⟨H,b⟩=some ⟨.int (K i),⟨H,b⟩⟩)(hkx:∀m wr,A9 (ev (m+4)) wr (.BI c) [p] [] ⟨H,b⟩=some ⟨.int Kx,⟨H,b⟩⟩)(hc:∀i,i<n->Gz .Lt (.int Kx) (.int (K i)) ⟨H,b⟩=some (!P i))(p1:∀i,i<c'->P i=true)(p2:∀i,c'<=i->i<n->P i=false)(hcn:c'<=n):A9 (ev (k+12)) 0 (.val (.ref 30)) [.loc A,p] [("key",.BI c)] ⟨H,b⟩=some ⟨.none,⟨H.set A (.list (xs.take c'++p::xs.drop c')),b⟩⟩:=by
 have hl:=(Ai (λo:Ab AO=>o.bind (aa H)) hA).trans (Ai (λn:Nat=>some (n:Int)) hn)
 have hs:∀i:Nat,i<n->IH ⟨H,b⟩ (.loc A) (.int i)=some (V i):=λi hi=>Jq hA (hV i hi) ((pw [.e .p .q,.t .q (.k 60)] (.t .p (.k 1000)) [] [_,_]) hn h60)
 have E1:(ev (k+10)).E (Au Vb H.length 0) (JK (.loc A) p (.BI c)) ⟨H,b⟩ (Cm (NF (lR (Bb (E8 Vb.body) 0))))=some ⟨.int c',⟨H,b⟩⟩:=
  (CH (S1:=⟨H,b⟩) (kv:=[("key",.BI c)]) ⋯ ⋯ ⋯ ⋯ (CB (S1:=⟨H,b⟩) (v:=.loc A) ⋯ ⋯ (CB ⋯ ((CH (S1:=⟨H,b⟩) ⋯ ⋯ ⋯ ⋯ ⋯ ⋯).trans (hkx (k+4) _)) (vs:=[.int 0,.none]) ⋯)) ⋯).trans (xv (a:=.loc A) (x:=.int Kx) ⋯ h60 hl hs (λi hi=>hk k _ i hi) hc p1 p2 hcn)
 have X1:(ev (k+12)).X (Au Vb H.length 0) (JK (.loc A) p (.BI c)) ⟨H,b⟩ (Bb (E8 Vb.body) 0)=some ⟨.next,XZ (.loc A) p c' (.BI c),⟨H,b⟩⟩:=
  (KY (n:=k+11) (b:=false) (S1:=⟨H,b⟩) ⋯ ⋯).trans ((Ak (lo1:=XZ (.loc A) p c' (.BI c)) (S1:=⟨H,b⟩) ⋯ ((Ni (n:=k+10) ⋯ ⋯ E1).trans ⋯)).trans ⋯)
 have X2:(ev (k+12)).X (Au Vb H.length 0) (XZ (.loc A) p c' (.BI c)) ⟨H,b⟩ (Bb (E8 Vb.body) 1)=some ⟨.next,XZ (.loc A) p c' (.BI c),⟨H.set A (.list (xs.take c'++p::xs.drop c')),b⟩⟩:=
  Qo (n:=k+11) (v:=.none) ⋯ ⋯ ((I8 (n:=k+10) (S1:=⟨H,b⟩) (S2:=⟨H,b⟩) (v:=.loc A) (k:=.bi .insert) (vs:=[.int c',p]) ⋯ ⋯ ⋯ ⋯ ⋯ "insert" ⋯ ((Ai (λo:Ab AO=>o.bind (Qx ⟨H,b⟩ "insert")) hA).trans ⋯) ⋯).trans (rG hA (by exact(pw [.e .p .q,.l .r .q] (.l .r .p) [] [_,_,_]) hn hcn) (by exact(pw [.e .p .q,.t .q (.k 60)] (.t .p (.k 1000)) [] [_,_]) hn h60)))
 refine(show A9 (ev (k+12)) 0 (.val (.ref 30)) [.loc A,p] [("key",.BI c)] ⟨H,b⟩=CM (ev (k+12)) Vb [.loc A,p] [("key",.BI c)] 0 ⟨H,b⟩ from ⋯).trans ?_
 exact Te (fi:=Vb) (binds:=JK (.loc A) p (.BI c)) (lo:=JK (.loc A) p (.BI c)) (Bv:=XZ (.loc A) p c' (.BI c)) (fl:=.next) ⋯ ⋯ ⋯ ⋯ ⋯ ((Ak ⋯ X1).trans ((Ak ⋯ X2).trans ⋯)) rfl
theorem AbC{V:Nat->AV}{P:Nat->Aa}(hA:H[A]?=some (.list xs))(hn:xs.length=n)(h60:n<60)(hV:∀i,i<n->xs[i]?=some (V i))
  (hc:∀i,i<n->Gz .Lt (V i) (p) ⟨H,b⟩=some (P i))(p1:∀i,i<c'->P i=true)(p2:∀i,c'<=i->i<n->P i=false)(hcn:c'<=n):A9 (ev (k+12)) 0 (.val (.ref 48)) [.loc A,p] [] ⟨H,b⟩=some ⟨.none,⟨H.set A (.list (xs.take c'++p::xs.drop c')),b⟩⟩:=by
 have hl:=(Ai (λo:Ab AO=>o.bind (aa H)) hA).trans (Ai (λn:Nat=>some (n:Int)) hn)
 have hs:∀i:Nat,i<n->IH ⟨H,b⟩ (.loc A) (.int i)=some (V i):=λi hi=>Jq hA (hV i hi) ((pw [.e .p .q,.t .q (.k 60)] (.t .p (.k 1000)) [] [_,_]) hn h60)
 have E1:(ev (k+10)).E (Au Jy H.length 0) (JK (.loc A) p .none) ⟨H,b⟩ (Cm (NF (B3 (Bb (E8 Jy.body) 0))))=some ⟨.int c',⟨H,b⟩⟩:=
  (CH (S1:=⟨H,b⟩) (vs:=[.loc A,p,.int 0,.none]) (kv:=[]) ⋯ ⋯ ⋯ ⋯ ⋯ ⋯).trans (xu (a:=.loc A) ⋯ h60 hl hs hc p1 p2 hcn)
 have X1:(ev (k+12)).X (Au Jy H.length 0) (JK (.loc A) p .none) ⟨H,b⟩ (Bb (E8 Jy.body) 0)=some ⟨.next,XZ (.loc A) p c' .none,⟨H,b⟩⟩:=
  (KY (b:=true) ⋯ ⋯).trans ((Ak (lo1:=XZ (.loc A) p c' .none) (S1:=⟨H,b⟩) ⋯ ((Ni ⋯ ⋯ E1).trans ⋯)).trans ⋯)
 have X2:(ev (k+12)).X (Au Jy H.length 0) (XZ (.loc A) p c' .none) ⟨H,b⟩ (Bb (E8 Jy.body) 1)=some ⟨.next,XZ (.loc A) p c' .none,⟨H.set A (.list (xs.take c'++p::xs.drop c')),b⟩⟩:=
  Qo (n:=k+11) (v:=.none) ⋯ ⋯ ((I8 (n:=k+10) (S1:=⟨H,b⟩) (S2:=⟨H,b⟩) (v:=.loc A) (k:=.bi .insert) (vs:=[.int c',p]) ⋯ ⋯ ⋯ ⋯ ⋯ "insert" ⋯ ((Ai (λo:Ab AO=>o.bind (Qx ⟨H,b⟩ "insert")) hA).trans ⋯) ⋯).trans (rG hA (by exact(pw [.e .p .q,.l .r .q] (.l .r .p) [] [_,_,_]) hn hcn) (by exact(pw [.e .p .q,.t .q (.k 60)] (.t .p (.k 1000)) [] [_,_]) hn h60)))
 refine(show A9 (ev (k+12)) 0 (.val (.ref 48)) [.loc A,p] [] ⟨H,b⟩=CM (ev (k+12)) Jy [.loc A,p] [] 0 ⟨H,b⟩ from ⋯).trans ?_
 exact Te (fi:=Jy) (binds:=JK (.loc A) p .none) (lo:=JK (.loc A) p .none) (Bv:=XZ (.loc A) p c' .none) (fl:=.next) ⋯ ⋯ ⋯ ⋯ ⋯ ((Ak ⋯ X1).trans ((Ak ⋯ X2).trans ⋯)) rfl
abbrev Ks:=Nat->Nat->Int
noncomputable def jh(L:Ks):List AV:=[0,1,2,3,4,5,6].map λp=>.lst [.int (L p 0),.int (L p 1),.int (L p 2)]
noncomputable def PS:Nat->AO | 0=>.cell none | m+1=>.cell (some (.int m))
noncomputable def CP(l:List Nat):List AV:=l.map λ(q:Nat)=>.int q
noncomputable def bg(L:Ks)(l:List Nat):List AV:=l.map λ(q:Nat)=>.tup [.int (L q 2),.int q]
def HB(o:Nat->AO)(pt:AO)(L:Ks)(R G B:List Nat):List AO:=
 [o 0,o 1,o 2,o 3,pt,o 5,o 6,o 7,o 8,o 9,.cell (some (.loc 14)),o 11,o 12,o 13,.list (jh L),o 15,o 16,o 17,o 18,o 19,.list (CP R),.list (CP G),.list (bg L B)]
noncomputable def loB(v:Nat->AV):Lo:=[("script",v 0),("number",v 1),("places",v 2),("grains",v 3),("quarter",v 4),("first",v 5),("row",v 6),("is_white",v 7),("words",v 8),("left",v 9),("cut",v 10),("text",v 11),("leaves",v 12),("tied",.loc 19)]
def FF(v:Nat->AV):Lo:=A8 (loB v) [("blues",.loc 22),("greens",.loc 21),("reds",.loc 20)]
def gP(e:Expr):Ge×EL×BR:=match e with | .Lambda ps body sc _=>(ps,.expr body,sc) | _=>(⟨[],[],none,[],[],none,[]⟩,.expr e0,default)
def rH(e:Expr):Sq:=⟨"<lambda>",A6.qual++"<lambda>",(gP e).1,(gP e).2.1,(gP e).2.2,[("lights",10)]⟩
def kwE(e:Expr):Expr:=((U9 e).map (·.value)).headD e0
def MH:Az:=Bb Ck 19
def kR:Sq:=rH (kwE (Cm (Bb (B3 MH) 0)))
def kG:Sq:=rH (kwE (Cm (Bb (B3 MH) 1)))
section
variable{o:Nat->AO}{pt:AO}{L:Ks}{R G B:List Nat}{v:Nat->AV}{b:Aa}
theorem VG{P:Nat->Prop}(h0:P 0)(h1:P 1)(h2:P 2)(h3:P 3)(h4:P 4)(h5:P 5)(h6:P 6):∀p,p<7->P p
 |0,_=>h0 | 1,_=>h1 | 2,_=>h2 | 3,_=>h3 | 4,_=>h4 | 5,_=>h5 | 6,_=>h6
 |_+7,h=>AL (H7 7 _) (N7 h)
theorem xw:∀p:Nat,p<7->∀m wr,A9 (ev (m+4)) wr (.BI kR) [.int p] [] ⟨HB o pt L R G B,b⟩=some ⟨.int (L p 0),⟨HB o pt L R G B,b⟩⟩:=
 VG (λm wr=>⋯) (λm wr=>⋯) (λm wr=>⋯) (λm wr=>⋯) (λm wr=>⋯) (λm wr=>⋯) (λm wr=>⋯)
theorem xx:∀p:Nat,p<7->∀m wr,A9 (ev (m+4)) wr (.BI kG) [.int p] [] ⟨HB o pt L R G B,b⟩=some ⟨.int (L p 1),⟨HB o pt L R G B,b⟩⟩:=
 VG (λm wr=>⋯) (λm wr=>⋯) (λm wr=>⋯) (λm wr=>⋯) (λm wr=>⋯) (λm wr=>⋯) (λm wr=>⋯)
noncomputable def Pr(L:Ks)(m q:Nat):Aa:=decide (L q 0<L m 0)
noncomputable def Pg(L:Ks)(m q:Nat):Aa:=decide (L q 1<=L m 1)
noncomputable def Pb(L:Ks)(m q:Nat):Aa:=decide (L q 2<=L m 2)
theorem gQ:∀m,(row (Pr L) m).Pairwise λa b=>L a 0<=L b 0
 |0=>.nil
 |m+1=>FX (Q:=λa b=>L a 0<=L b 0) (λ_ _ _=>BA) (λq _ e=>Ec (Bi e)) (λq _ e=>DD.mp (Mn e)) (gQ m)
theorem gR:∀m,(row (Pg L) m).Pairwise λa b=>L a 1<=L b 1
 |0=>.nil
 |m+1=>FX (Q:=λa b=>L a 1<=L b 1) (λ_ _ _=>BA) (λq _ e=>Bi e) (λq _ e=>Ec (Fd.mp (Mn e))) (gR m)
theorem gS:∀m,(row (Pb L) m).Pairwise λa b=>L a 2<=L b 2
 |0=>.nil
 |m+1=>FX (Q:=λa b=>L a 2<=L b 2) (λ_ _ _=>BA) (λq _ e=>Bi e) (λq _ e=>Ec (Fd.mp (Mn e))) (gS m)
theorem Vc{m:Nat}(x:Int):PQ (λq=>decide (L q 0<x)) (row (Pr L) m):=(gQ m).imp λh e=>AU (V1 h (Bi e))
theorem Vd{m:Nat}(x:Int):PQ (λq=>decide (L q 1<=x)) (row (Pg L) m):=(gR m).imp λh e=>AU (BA h (Bi e))
theorem Ve{m:Nat}(x:Int):PQ (λq=>decide (L q 2<=x)) (row (Pb L) m):=(gS m).imp λh e=>AU (BA h (Bi e))
theorem MI{f:Nat->AV}{l:List Nat}{i:Nat}(h:i<l.length):(l.map f)[i]?=some (f (l.getD i 0)):=by
 rw[F4,HU h,HG,HU h] at ⊢
 rfl
theorem getD_mem{P:Nat->Nat->Aa}{m i:Nat}(h:i<m):(row P m).getD i 0<m:=by
 have h':i<(row P m).length:=by rw[B1];exact h
 rw[HG,HU h'] at ⊢
 exact Dh.mp (List.getElem_mem h')
theorem Tf{f:Nat->AV}{P:Nat->Aa}{x:Nat}{l:List Nat}(h:PQ P l):(l.map f).take (cnt P l)++f x::(l.map f).drop (cnt P l)=(FE P x l).map f:=by
 rw[<-gO h,LI,List.map_take,ED,N3]
theorem Tg(a c:Int):decide (a<c) = !decide (c<=a):=by
 by_cases h:c<=a
 ·rw[AU h,Ct (DD.mpr h)];rfl
 ·rw[Ct h,AU (Fd.mp h)];rfl
theorem x0{m:Nat}(hm:m<7):(ev 117).X A6 (FF v) ⟨HB o (PS (m+1)) L (row (Pr L) m) G B,b⟩ (Bb (B3 MH) 0)=some ⟨.next,FF v,⟨HB o (PS (m+1)) L (row (Pr L) (m+1)) G B,b⟩⟩:=by
 have c:=AbA (k:=103) (A:=20) (c':=cnt (Pr L m) (row (Pr L) m)) (H:=HB o (PS (m+1)) L (row (Pr L) m) G B) (b:=b)
  rfl ((AY ..).trans (B1 m)) ((pw [.t .p (.k 7)] (.t .p (.k 60)) [] [_]) hm) (λi hi=>MI (by rw[B1];exact hi)) (λn wr i hi=>xw _ (EH (getD_mem hi) hm) n wr) (xw m hm) (λi hi=>rfl) (λi hi=>XW (Vc _) i hi) (λi hi h2=>XY (Vc _) i hi (by rw[B1];exact h2)) (AA (Hr _) (Bn (B1 m)))
 rw[show(CP (row (Pr L) m)).take (cnt (Pr L m) (row (Pr L) m))++.int m::(CP (row (Pr L) m)).drop (cnt (Pr L m) (row (Pr L) m))=CP (row (Pr L) (m+1)) from Tf (Vc _)] at c
 exact Qo ⋯ ⋯ ((CH (S1:=⟨HB o (PS (m+1)) L (row (Pr L) m) G B,b⟩) ⋯ ⋯ ⋯ ⋯ ⋯ ⋯).trans c)
theorem x1{m:Nat}(hm:m<7):(ev 117).X A6 (FF v) ⟨HB o (PS (m+1)) L R (row (Pg L) m) B,b⟩ (Bb (B3 MH) 1)=some ⟨.next,FF v,⟨HB o (PS (m+1)) L R (row (Pg L) (m+1)) B,b⟩⟩:=by
 have c:=AbB (k:=103) (A:=21) (c':=cnt (Pg L m) (row (Pg L) m)) (H:=HB o (PS (m+1)) L R (row (Pg L) m) B) (b:=b)
  rfl ((AY ..).trans (B1 m)) ((pw [.t .p (.k 7)] (.t .p (.k 60)) [] [_]) hm) (λi hi=>MI (by rw[B1];exact hi)) (λn wr i hi=>xx _ (EH (getD_mem hi) hm) n wr) (xx m hm) (λi hi=>Ai some (Tg _ _)) (λi hi=>XW (Vd _) i hi) (λi hi h2=>XY (Vd _) i hi (by rw[B1];exact h2)) (AA (Hr _) (Bn (B1 m)))
 rw[show(CP (row (Pg L) m)).take (cnt (Pg L m) (row (Pg L) m))++.int m::(CP (row (Pg L) m)).drop (cnt (Pg L m) (row (Pg L) m))=CP (row (Pg L) (m+1)) from Tf (Vd _)] at c
 exact Qo ⋯ ⋯ ((CH (S1:=⟨HB o (PS (m+1)) L R (row (Pg L) m) B,b⟩) ⋯ ⋯ ⋯ ⋯ ⋯ ⋯).trans c)
theorem a2:∀m:Nat,m<7->Jh (ev 115) A6 (FF v) ⟨HB o (PS (m+1)) L R G B,b⟩ (C0 (Cm (Bb (B3 MH) 2)))=some ⟨[.loc 22,.tup [.int (L m 2),.int m]],⟨HB o (PS (m+1)) L R G B,b⟩⟩:=
 VG ⋯ ⋯ ⋯ ⋯ ⋯ ⋯ ⋯
theorem rI{x y:Int}{q m:Nat}(h:q<m):(decide (x<y)||(decide (x=y)&&decide ((q:Int)<m)))=decide (x<=y):=by
 rw[AU (DB.mpr h),NR,<-Aa.decide_or]
 exact OG.mpr Int.le_iff_lt_or_eq.symm
theorem x2{m:Nat}(hm:m<7):(ev 117).X A6 (FF v) ⟨HB o (PS (m+1)) L R G (row (Pb L) m),b⟩ (Bb (B3 MH) 2)=some ⟨.next,FF v,⟨HB o (PS (m+1)) L R G (row (Pb L) (m+1)),b⟩⟩:=by
 have c:=AbC (k:=103) (A:=22) (c':=cnt (Pb L m) (row (Pb L) m)) (H:=HB o (PS (m+1)) L R G (row (Pb L) m)) (b:=b) (p:=.tup [.int (L m 2),.int m])
  rfl ((AY ..).trans (B1 m)) ((pw [.t .p (.k 7)] (.t .p (.k 60)) [] [_]) hm) (λi hi=>MI (by rw[B1];exact hi)) (λi hi=>Ai some (rI (getD_mem hi))) (λi hi=>XW (Ve _) i hi) (λi hi h2=>XY (Ve _) i hi (by rw[B1];exact h2)) (AA (Hr _) (Bn (B1 m)))
 rw[show(bg L (row (Pb L) m)).take (cnt (Pb L m) (row (Pb L) m))++.tup [.int (L m 2),.int m]::(bg L (row (Pb L) m)).drop (cnt (Pb L m) (row (Pb L) m))=bg L (row (Pb L) (m+1)) from Tf (Ve _)] at c
 exact Qo ⋯ ⋯ ((CH ⋯ ⋯ ⋯ ⋯ (a2 m hm) ⋯).trans c)
theorem B0{r:Ev}{fr:FD}{src:Src}{t:Expr}{body:List Az}{k i:Nat}{lo lo1 u9:Lo}{S S1 S2:St}{w:AV}(h1:src.at S.H i=some (some w))(h2:Ju fr lo S t w=some ⟨lo1,S1⟩)(h3:Xs r fr lo1 S1 body=some ⟨.next,u9,S2⟩):forL r fr src t body (k+1) i lo S=forL r fr src t body k (i+1) u9 S2:=
 (Ai (λo:Ab (Ab AV)=>o.bind λo=>(match o with
  |none=>some ⟨.next,lo,S⟩
  |some v=>(Ju fr lo S t v).bind λp=>(Xs r fr p.v p.S body).bind λx=>cond x.fl.GB (forL r fr src t body k (i+1) x.lo x.S) (some x):Ab Rx)) h1).trans
  ((Ai (λo:Ab (Rt Lo)=>o.bind λp=>(Xs r fr p.v p.S body).bind λx=>cond x.fl.GB (forL r fr src t body k (i+1) x.lo x.S) (some x)) h2).trans (Ai (λo:Ab Rx=>o.bind λx=>cond x.fl.GB (forL r fr src t body k (i+1) x.lo x.S) (some x)) h3))
abbrev bD(o:Nat->AO)(L:Ks)(m n:Nat):List AO:=HB o (PS m) L (row (Pr L) n) (row (Pg L) n) (row (Pb L) n)
theorem rJ{m:Nat}(hm:m<7):Xs (ev 117) A6 (FF v) ⟨bD o L (m+1) m,b⟩ (B3 MH)=some ⟨.next,FF v,⟨bD o L (m+1) (m+1),b⟩⟩:=
 (Ak ⋯ (x0 hm)).trans ((Ak ⋯ (x1 hm)).trans ((Ak ⋯ (x2 hm)).trans ⋯))
theorem Hs{m k:Nat}(hm:m<7)(h1:Src.at (bD o L m m) m (.Gw 0 7 1)=some (some (.int m)))(h2:Ju A6 (FF v) ⟨bD o L m m,b⟩ (BV MH) (.int m)=some ⟨FF v,⟨bD o L (m+1) m,b⟩⟩):
  forL (ev 117) A6 (.Gw 0 7 1) (BV MH) (B3 MH) (k+1) m (FF v) ⟨bD o L m m,b⟩=forL (ev 117) A6 (.Gw 0 7 1) (BV MH) (B3 MH) k (m+1) (FF v) ⟨bD o L (m+1) (m+1),b⟩:=B0 h1 h2 (rJ hm)
theorem Qp{n:Nat}{fr:FD}{lo lo1:Lo}{S S1 S2:St}{s:Az}{src:Src}(h:s=.For (BV s) (Cm s) (B3 s) [] (bC s))(hi:FU (ev n) fr lo S (Cm s)=some ⟨src,S1⟩)(hz:SD src (BV s)=true)(hl:forL (ev n) fr src (BV s) (B3 s) 80 0 lo S1=some ⟨.next,lo1,S2⟩):(ev (n+1)).X fr lo S s=some ⟨.next,lo1,S2⟩:=
 (Ai ((ev (n+1)).X fr lo S) h).trans ((Ai (λo:Ab (Rt Src)=>o.bind λs'=>Af (SD s'.v (BV s)) ((forL (ev n) fr s'.v (BV s) (B3 s) 80 0 lo s'.S).bind λx=>cond x.fl.C8 (Xs (ev n) fr x.lo x.S []) (some (IM x)))) hi).trans
  ((Ai (λz=>Af z ((forL (ev n) fr src (BV s) (B3 s) 80 0 lo S1).bind λx=>cond x.fl.C8 (Xs (ev n) fr x.lo x.S []) (some (IM x)))) hz).trans (Ai (λo:Ab Rx=>o.bind λx=>cond x.fl.C8 (Xs (ev n) fr x.lo x.S []) (some (IM x))) hl)))
theorem X19:(ev 118).X A6 (FF v) ⟨bD o L 0 0,b⟩ MH=some ⟨.next,FF v,⟨bD o L 7 7,b⟩⟩:=
 Qp (S1:=⟨bD o L 0 0,b⟩) ⋯ ⋯ ⋯ ((Hs ⋯ ⋯ ⋯).trans ((Hs ⋯ ⋯ ⋯).trans ((Hs ⋯ ⋯ ⋯).trans ((Hs ⋯ ⋯ ⋯).trans
  ((Hs ⋯ ⋯ ⋯).trans ((Hs ⋯ ⋯ ⋯).trans ((Hs ⋯ ⋯ ⋯).trans ⋯)))))))
end
noncomputable def tT(e:Expr):Expr×RM×BR×Pos:=match e with | .ListComp e gs sc p=>(e,gs.headD ⟨e0,e0,[],0⟩,sc,p) | _=>(e0,⟨e0,e0,[],0⟩,default,default)
def X3(e:Expr):Expr:=(tT e).1
def VH(e:Expr):Expr:=(tT e).2.1.target
def bj(e:Expr):Expr:=(tT e).2.1.iter
def TM(e:Expr):List Expr:=(tT e).2.1.ifs
def FH(e:Expr):BR:=(tT e).2.2.1
def zb(e:Expr):Pos:=(tT e).2.2.2
theorem K1(H:List AO)(x:AO):(H++[x])[H.length]?=some x:=by rw[List.getElem?_append_right (AP _),Wq] at ⊢;rfl
theorem Vf(H:List AO)(x y:AO):(H++[x]).set H.length y=H++[y]:=by rw[List.set_append_right _ _ (AP _),Wq];rfl
theorem gT(h:acc.length<1000):Kh ⟨H++[.list acc],b⟩ H.length w=some ⟨H++[.list (acc++[w])],b⟩:=
 (Ai (λo:Ab AO=>(o.bind CW).bind λxs:List AV=>Af (decide (xs.length<1000)) (some (⟨(H++[AO.list acc]).set H.length (AO.list (xs++[w])),b⟩ :St))) (K1 H _)).trans
  ((Ai (λz=>Af z (some (⟨(H++[AO.list acc]).set H.length (AO.list (acc++[w])),b⟩ :St))) (AU h)).trans (Ai (λH=>some (⟨H,b⟩ :St)) (Vf H _ _)))
section
variable{r:Ev}{fr:FD}{src:Src}{t elt:Expr}{ifs:List Expr}{H:List AO}{b:Aa}{v w:Nat->AV}{g:Nat->Aa}{lof:Nat->Lo}
theorem PU{Q:List Nat}
  (h1:∀i acc,src.at (H++[.list acc]) i=some (Q.map v)[i]?)
  (h2:∀q,q∈Q->∀lo acc,(lo=[]\/∃q',lo=lof q')->Ju fr lo ⟨H++[.list acc],b⟩ t (v q)=some ⟨lof q,⟨H++[.list acc],b⟩⟩)
  (h3:∀q,q∈Q->∀acc,SE r fr (lof q) ⟨H++[.list acc],b⟩ ifs=some ⟨g q,⟨H++[.list acc],b⟩⟩)
  (h4:∀q,q∈Q->g q=true->∀acc,r.E fr (lof q) ⟨H++[.list acc],b⟩ elt=some ⟨w q,⟨H++[.list acc],b⟩⟩):
  ∀(P:List Nat)(i k:Nat)(lo:Lo)(acc:List AV),Q.drop i=P->P.length<k->acc.length+P.length<1000->(lo=[]\/∃q',lo=lof q')->Ex r fr H.length src t ifs elt k i lo ⟨H++[.list acc],b⟩=some ⟨H++[.list (acc++(P.filter g).map w)],b⟩
 |P,i,0,lo,acc,_,hk,_,_=>AL hk (Ff _)
 |[],i,k+1,lo,acc,hd,_,_,_=>by
  have e:(Q.map v)[i]?=none:=H4 (by rw[AY];exact List.drop_eq_nil_iff.mp hd)
  show(src.at (H++[.list acc]) i).bind _=_
  rw[h1,e]
  show some (⟨H++[.list acc],b⟩ :St)=some ⟨H++[.list (acc++[])],b⟩
  rw[DW]
 |q::P,i,k+1,lo,acc,hd,hk,hn,hlo=>by
  have hq:Q[i]?=some q:=by rw[<-List.head?_drop,hd] at ⊢;rfl
  have hm:=b7 hq
  have hd':Q.drop (i+1)=P:=by rw[<-List.tail_drop,hd];rfl
  have SN:=hn
  refine(Ai (λo:Ab (Ab AV)=>o.bind λo=>(match o with
   |none=>some ⟨H++[.list acc],b⟩
   |some v=>(Ju fr lo ⟨H++[.list acc],b⟩ t v).bind λp=>(SE r fr p.v p.S ifs).bind λz=>cond z.v ((r.E fr p.v z.S elt).bind λx=>(Kh x.S H.length x.v).bind λS'=>Ex r fr H.length src t ifs elt k (i+1) p.v S') (Ex r fr H.length src t ifs elt k (i+1) p.v z.S):Ab St))
   ((h1 i acc).trans (Ai some ((F4 ..).trans (Ai (Ab.map v) hq))))).trans ?_
  refine(Ai (λo:Ab (Rt Lo)=>o.bind λp=>(SE r fr p.v p.S ifs).bind λz=>cond z.v ((r.E fr p.v z.S elt).bind λx=>(Kh x.S H.length x.v).bind λS'=>Ex r fr H.length src t ifs elt k (i+1) p.v S') (Ex r fr H.length src t ifs elt k (i+1) p.v z.S)) (h2 q hm lo acc hlo)).trans ?_
  refine(Ai (λo:Ab (Rt Aa)=>o.bind λz=>cond z.v ((r.E fr (lof q) z.S elt).bind λx=>(Kh x.S H.length x.v).bind λS'=>Ex r fr H.length src t ifs elt k (i+1) (lof q) S') (Ex r fr H.length src t ifs elt k (i+1) (lof q) z.S)) (h3 q hm acc)).trans ?_
  cases hg:g q with
  |true=>
   refine(Ai (λo:Ab (Rt AV)=>o.bind λx=>(Kh x.S H.length x.v).bind λS'=>Ex r fr H.length src t ifs elt k (i+1) (lof q) S') (h4 q hm hg acc)).trans ?_
   refine(Ai (λo:Ab St=>o.bind λS'=>Ex r fr H.length src t ifs elt k (i+1) (lof q) S') (gT ((pw [.t (.A (.A .p .q) (.k 1)) (.k 1000)] (.t .p (.k 1000)) [] [_,_]) SN))).trans ?_
   refine(PU h1 h2 h3 h4 P (i+1) k (lof q) (acc++[w q]) hd' (LL hk) (by rw[BP];exact(pw [.t (.A (.A .p .q) (.k 1)) (.k 1000)] (.t (.A (.A .p (.k 1)) .q) (.k 1000)) [] [_,_]) SN) (.inr ⟨q,rfl⟩)).trans ?_
   rw[List.filter_cons_of_pos hg,FO]
   rfl
  |false=>
   refine(PU h1 h2 h3 h4 P (i+1) k (lof q) acc hd' (LL hk) ((pw [.t (.A (.A .p .q) (.k 1)) (.k 1000)] (.t (.A .p .q) (.k 1000)) [] [_,_]) SN) (.inr ⟨q,rfl⟩)).trans ?_
   rw[List.filter_cons_of_neg (by rw[hg];exact BJ)]
end
theorem Th:∀{l:List AV},(∀x,x∈l->f x=some x)->Gn f l=some l
 |[],_=>rfl
 |x::l,h=>(Ai (λo:Ab AV=>o.bind λb=>(Gn f l).bind λbs=>some (b::bs)) (h x (.head _))).trans (Ai (λo:Ab (List AV)=>o.bind λbs=>some (x::bs)) (Th λy hy=>h y (.tail _ hy)))
theorem Ht{lo:Lo}{Q:List Nat}{lof:Nat->Lo}
  (h:e=.ListComp (X3 e) [⟨VH e,bj e,TM e,0⟩] (FH e) (zb e))(hi:FU (ev n) fr lo S0 (bj e)=some ⟨src,⟨H,b⟩⟩)(hg:(SD src (VH e)&&(Sx (FH e)&&Qy (FH e).names (FH e).names))=true)(hf:Cy fr (FH e).names []=some fc)(hc:AK (FH e).names=[])
  (hQ:Q.length<80)
  (h1:∀i acc,src.at (H++[.list acc]) i=some (Q.map v)[i]?)
  (h2:∀q,q∈Q->∀lo acc,(lo=[]\/∃q',lo=lof q')->Ju (DJ fr H.length (FH e) fc) lo ⟨H++[.list acc],b⟩ (VH e) (v q)=some ⟨lof q,⟨H++[.list acc],b⟩⟩)
  (h3:∀q,q∈Q->∀acc,SE (ev n) (DJ fr H.length (FH e) fc) (lof q) ⟨H++[.list acc],b⟩ (TM e)=some ⟨g q,⟨H++[.list acc],b⟩⟩)
  (h4:∀q,q∈Q->g q=true->∀acc,(ev n).E (DJ fr H.length (FH e) fc) (lof q) ⟨H++[.list acc],b⟩ (X3 e)=some ⟨w q,⟨H++[.list acc],b⟩⟩)
  (hz:∀q,q∈Q->∀H',fz 5 H.length H' (w q)=some (w q)):MQ (ev n) fr lo S0 (X3 e) [⟨VH e,bj e,TM e,0⟩] (FH e)=some ⟨.lst ((Q.filter g).map w),⟨H,b⟩⟩:=by
 show(FU (ev n) fr lo S0 (bj e)).bind (λs=>SG (ev n) fr s.S s.v (VH e) (TM e) (X3 e) (FH e))=_
 rw[hi]
 show Af (SD src (VH e)&&(Sx (FH e)&&Qy (FH e).names (FH e).names)) ((Cy fr (FH e).names []).bind λfc=>(Ex (ev n) (DJ fr H.length (FH e) fc) H.length src (VH e) (TM e) (X3 e) 80 0 [] ⟨(H++[.list []])++AK (FH e).names,b⟩).bind λS'=>letGo ⟨H,b⟩ ⟨.loc H.length,S'⟩)=_
 rw[hg,hf,hc,DW]
 show(Ex (ev n) (DJ fr H.length (FH e) fc) H.length src (VH e) (TM e) (X3 e) 80 0 [] ⟨H++[.list []],b⟩).bind (λS'=>letGo ⟨H,b⟩ ⟨.loc H.length,S'⟩)=_
 rw[PU h1 h2 h3 h4 Q 0 80 [] [] rfl hQ (by show 0+Q.length<1000;exact(pw [.t .p (.k 80)] (.t (.A (.k 0) .p) (.k 1000)) [] [_]) hQ) (.inl rfl)]
 show((cond (Ob H.length H.length) (some (AV.loc H.length)) ((((H++[.list ((Q.filter g).map w)])[H.length]?).bind CW).bind λxs=>(Gn (fz 5 H.length (H++[.list ((Q.filter g).map w)])) xs).bind λys=>some (.lst ys))).bind λv=>some (⟨v,⟨H,b⟩⟩ :Rt AV))=_
 rw[show Ob H.length H.length=false from Gx.mpr λz=>F9 _ (Bm z),K1]
 show(((Gn (fz 5 H.length (H++[.list ((Q.filter g).map w)])) ((Q.filter g).map w)).bind λys=>some (AV.lst ys)).bind λv=>some (⟨v,⟨H,b⟩⟩ :Rt AV))=_
 rw[Th λx hx=>(CD.mp hx).elim λq hq=>hq.2▸hz q (JR.mp hq.1).1 _]
 rfl
theorem rK{lo:Lo}:(ev (n+1)).E fr lo S0 (.ListComp a gs sc p)=MQ (ev n) fr lo S0 a gs sc:=⋯
theorem ZC{lo:Lo}(h:e=.ListComp (X3 e) [⟨VH e,bj e,TM e,0⟩] (FH e) (zb e))(hc:MQ (ev n) fr lo S0 (X3 e) [⟨VH e,bj e,TM e,0⟩] (FH e)=some ⟨x,S1⟩):(ev (n+1)).E fr lo S0 e=some ⟨x,S1⟩:=(Ai ((ev (n+1)).E fr lo S0) h).trans (rK.trans hc)
noncomputable def zc:Expr->Nat | .Tuple _ k _=>k | .List .. =>0 | _=>0
theorem Vg{lo:Lo}(h:e=.List (C0 e) (Jx e))(hn:noStar 200 (C0 e)=true)(ha:Jh (ev n) fr lo S (C0 e)=some ⟨vs,S1⟩):(ev (n+1)).E fr lo S e=some ⟨.lst vs,S1⟩:=
 (Ai ((ev (n+1)).E fr lo S) h).trans ((Ai (λz=>Af z ((Jh (ev n) fr lo S (C0 e)).bind λx=>some (⟨.lst x.v,x.S⟩ :Rt AV))) hn).trans (Ai (λo:Ab (Rt (List AV))=>o.bind λx=>some (⟨.lst x.v,x.S⟩ :Rt AV)) ha))
def Nj(s:Az)(i:Nat):Expr:=CA (C0 (BV s)) i
def NG(s:Az)(i:Nat):Expr:=CA (C0 (Cm s)) i
def gU(fr:FD)(lo:Lo)(S:St)(ts:List Expr)(vs:List AV)(o:Ab (List Str)):Ab Rx:=match o with | none=>Hl (KE fr lo S ts vs) | some xs=>Hl (T6 fr lo S xs.reverse vs.reverse)
theorem ou{lo:Lo}(h:s=.Assign [.Tuple [Nj s 0,Nj s 1] (zc (BV s)) (Jx (BV s))] (.Tuple [NG s 0,NG s 1] (zc (Cm s)) (Jx (Cm s))) (bC s))(hn:noStar 200 [NG s 0,NG s 1]=true)
  (hw:YG fr [Nj s 0,Nj s 1] [NG s 0,NG s 1]=some o)(m1:Ke (Bw (Nj s 0)) MO=false)(m2:Ke (Bw (Nj s 1)) MO=false)
  (h1:(ev n).E fr lo S (NG s 0)=some ⟨v1,S1⟩)(h2:(ev n).E fr lo S1 (NG s 1)=some ⟨v2,S2⟩):
  (ev (n+1)).X fr lo S s=gU fr lo S2 [Nj s 0,Nj s 1] [v1,v2] o:=by
 have TN:OX (ev n) fr lo S (Bw (Nj s 0)) (NG s 0)=some ⟨v1,S1⟩:=(Ai (λb=>cond b _ ((ev n).E fr lo S (NG s 0))) m1).trans h1
 have k2:OX (ev n) fr lo S1 (Bw (Nj s 1)) (NG s 1)=some ⟨v2,S2⟩:=(Ai (λb=>cond b _ ((ev n).E fr lo S1 (NG s 1))) m2).trans h2
 refine(Ai ((ev (n+1)).X fr lo S) h).trans ((Ai (λz=>Af z ((YG fr [Nj s 0,Nj s 1] [NG s 0,NG s 1]).bind λo=>(ee (ev n) fr lo S [Nj s 0,Nj s 1] [NG s 0,NG s 1]).bind λvs=>gU fr lo vs.S [Nj s 0,Nj s 1] vs.v o)) hn).trans ((Ai (λz:Ab (Ab (List Str))=>z.bind λo=>(ee (ev n) fr lo S [Nj s 0,Nj s 1] [NG s 0,NG s 1]).bind λvs=>gU fr lo vs.S [Nj s 0,Nj s 1] vs.v o) hw).trans ?_))
 refine(Ai (λz:Ab (Rt AV)=>(z.bind λx=>((OX (ev n) fr lo x.S (Bw (Nj s 1)) (NG s 1)).bind λy=>some (⟨[y.v],y.S⟩ :Rt (List AV))).bind λy=>some (⟨x.v::y.v,y.S⟩ :Rt (List AV))).bind λvs=>gU fr lo vs.S [Nj s 0,Nj s 1] vs.v o) TN).trans ?_
 exact Ai (λz:Ab (Rt AV)=>((z.bind λy=>some (⟨[y.v],y.S⟩ :Rt (List AV))).bind λy=>some (⟨v1::y.v,y.S⟩ :Rt (List AV))).bind λvs=>gU fr lo vs.S [Nj s 0,Nj s 1] vs.v o) k2
theorem K4{Q:List Nat}:Q.filter (λ_=>true)=Q:=List.filter_eq_self.mpr λ_ _=>rfl
def X4(v:Nat->AV)(rw:AV):Lo:=A8 (FF v) [("rows",rw)]
def rL(v:Nat->AV)(rw pb pr:AV):Lo:=A8 (X4 v rw) [("plain_blues",pb),("plain_reds",pr)]
def rM(v:Nat->AV)(rw pb pr:AV):Lo:=A8 (rL v rw pb pr) [("behind",.loc 23)]
def rN(B:List Nat):AV:=.lst [.loc 20,.loc 21,.lst (CP B)]
noncomputable def Di(L:Ks)(k:Nat)(l:List Nat):List AV:=l.map λ(q:Nat)=>.int (L q k)
section
variable{o:Nat->AO}{pt:AO}{L:Ks}{R G B:List Nat}{v:Nat->AV}{b:Aa}
def xy:Az:=Bb Ck 20
def bp:Az:=Bb Ck 21
def e20:Expr:=CA (C0 (Cm xy)) 2
theorem c20(hB:B.length<80):(ev 116).E A6 (FF v) ⟨HB o pt L R G B,b⟩ e20=some ⟨.lst (CP B),⟨HB o pt L R G B,b⟩⟩:=by
 have c:=Ht (n:=115) (fr:=A6) (lo:=FF v) (e:=e20) (S0:=⟨HB o pt L R G B,b⟩) (H:=HB o pt L R G B) (b:=b) (src:=.loc 22) (v:=λq=>.tup [.int (L q 2),.int q]) (w:=λq=>.int q) (g:=λ_=>true) (lof:=λq=>[("pair",.tup [.int (L q 2),.int q])]) (fc:=[])
  ⋯ ⋯ ⋯ ⋯ ⋯ hB (λi acc=>⋯) (λq _ lo acc h=>by obtain rfl | ⟨q',rfl⟩:=h<;>kernel_rfl) (λq _ acc=>⋯) (λq _ _ acc=>⋯) (λq _ H'=>rfl)
 rw[K4] at c
 exact ZC ⋯ c
theorem X20(hB:B.length<80):(ev 118).X A6 (FF v) ⟨HB o pt L R G B,b⟩ xy=some ⟨.next,X4 v (rN B),⟨HB o pt L R G B,b⟩⟩:=
 (Ni ⋯ ⋯ (Vg ⋯ ⋯ (CB (v:=.loc 20) (S1:=⟨HB o pt L R G B,b⟩) ⋯ ⋯ (CB (v:=.loc 21) (S1:=⟨HB o pt L R G B,b⟩) ⋯ ⋯ (Dg ⋯ (c20 hB)))))).trans ⋯
theorem AbE(hR:R.length<80)(h7:∀q,q∈R->q<7):(ev 117).E A6 (X4 v rw) ⟨HB o pt L R G B,b⟩ (NG bp 0)=some ⟨.lst (Di L 0 R),⟨HB o pt L R G B,b⟩⟩:=by
 have c:=Ht (lo:=X4 v rw) (S0:=⟨HB o pt L R G B,b⟩) (src:=.loc 20) (v:=λq=>.int q) (g:=λ_=>true)
  ⋯ ⋯ ⋯ ⋯ ⋯ hR (λi acc=>⋯) (λq _ lo acc h=>by obtain rfl | ⟨q',rfl⟩:=h<;>kernel_rfl) (λq _ acc=>⋯)
  (λq hq _ acc=>VG (P:=λq:Nat=>(ev 116).E (DJ A6 (HB o pt L R G B).length (FH (NG bp 0)) [("lights",10)]) [("one",.int q)] ⟨HB o pt L R G B++[.list acc],b⟩ (X3 (NG bp 0))=some ⟨.int (L q 0),⟨HB o pt L R G B++[.list acc],b⟩⟩) ⋯ ⋯ ⋯ ⋯ ⋯ ⋯ ⋯ q (h7 q hq)) (λq _ H'=>rfl)
 rw[K4] at c
 exact ZC ⋯ c
theorem AbF(hB:B.length<80):(ev 117).E A6 (X4 v rw) ⟨HB o pt L R G B,b⟩ (NG bp 1)=some ⟨.lst (Di L 2 B),⟨HB o pt L R G B,b⟩⟩:=by
 have c:=Ht (n:=116) (fr:=A6) (lo:=X4 v rw) (e:=NG bp 1) (S0:=⟨HB o pt L R G B,b⟩) (H:=HB o pt L R G B) (b:=b) (src:=.loc 22) (v:=λq=>.tup [.int (L q 2),.int q]) (w:=λq=>.int (L q 2)) (g:=λ_=>true) (lof:=λq=>[("pair",.tup [.int (L q 2),.int q])]) (fc:=[])
  ⋯ ⋯ ⋯ ⋯ ⋯ hB (λi acc=>⋯) (λq _ lo acc h=>by obtain rfl | ⟨q',rfl⟩:=h<;>kernel_rfl) (λq _ acc=>⋯) (λq _ _ acc=>⋯) (λq _ H'=>rfl)
 rw[K4] at c
 exact ZC ⋯ c
theorem X21(hR:R.length<80)(hB:B.length<80)(h7:∀q,q∈R->q<7):(ev 118).X A6 (X4 v rw) ⟨HB o pt L R G B,b⟩ bp=some ⟨.next,rL v rw (.lst (Di L 2 B)) (.lst (Di L 0 R)),⟨HB o pt L R G B,b⟩⟩:=
 (ou (o:=some ["plain_reds","plain_blues"]) ⋯ ⋯ ⋯ ⋯ ⋯ (AbE hR h7) (AbF hB)).trans ⋯
theorem X22:(ev 118).X A6 (rL v rw pb pr) ⟨HB o pt L R G B,b⟩ (Bb Ck 22)=some ⟨.next,rM v rw pb pr,⟨HB o pt L R G B++[.list []],b⟩⟩:=⋯
end
structure lS(L:Ks)(R G B:List Nat):Prop where
 lr:R.length=7
 lg:G.length=7
 lb:B.length=7
 g7:∀i,i<7->G.getD i 0<7
 mr:∀x:Int,PQ (λq=>decide (L q 0<x)) R
 mg:∀x:Int,PQ (λq=>decide (L q 1<=x)) G
 mb:∀x:Int,PQ (λq=>decide (L q 2<=x)) B
def cR(L:Ks)(R:List Nat)(x:Int):Nat:=cnt (λq=>decide (L q 0<x)) R
def cG(L:Ks)(G:List Nat)(x:Int):Nat:=cnt (λq=>decide (L q 1<=x)) G
def cB(L:Ks)(B:List Nat)(x:Int):Nat:=cnt (λq=>decide (L q 2<=x)) B
def bh(L:Ks)(R G B:List Nat)(m:Nat):AV:=.lst [.int (cR L R (L m 0)),.int (cG L G (L m 1)),.int (cB L B (L m 2))]
def Ti(v:Nat->AV)(rw pb pr:AV)(x:Ab (AV×AV×AV))(y:Ab AV):Lo:=A8 (rM v rw pb pr) (A8 (x.elim [] λt=>[("red",t.1),("green",t.2.1),("blue",t.2.2)]) (y.elim [] λt=>[("place",t)]))
def Tj:Az:=Bb Ck 23
def kG2:Sq:=rH (kwE (Cm (Bb (B3 Tj) 0)))
theorem xA(hA:H[A]?=some (.list xs))(hn:xs.length<=1000):IL r 0 (.bi .append) (.loc A) [p] ⟨H,b⟩=some ⟨.none,⟨H.set A (.list (xs++[p])),b⟩⟩:=
 (Ai (λo:Ab AO=>o.bind (jD 0 ⟨H,b⟩ A p)) hA).trans (Ai (λz=>Af z (HH 0 ⟨H,b⟩ A (.list (xs++[p])))) (JS hn))
section
variable{o:Nat->AO}{pt:AO}{L:Ks}{R G B:List Nat}{v:Nat->AV}{b:Aa}{D:List AV}{rw:AV}
def Gs(o:Nat->AO)(pt:AO)(L:Ks)(R G B:List Nat)(D:List AV):List AO:=HB o pt L R G B++[.list D]
theorem xB:∀p:Nat,p<7->∀m wr,A9 (ev (m+4)) wr (.BI kG2) [.int p] [] ⟨Gs o pt L R G B D,b⟩=some ⟨.int (L p 1),⟨Gs o pt L R G B D,b⟩⟩:=
 VG (λm wr=>⋯) (λm wr=>⋯) (λm wr=>⋯) (λm wr=>⋯) (λm wr=>⋯) (λm wr=>⋯) (λm wr=>⋯)
theorem PV{f:Nat->AV}{l:List Nat}(h:l.length=7):some ((l.map f).length:Int)=some ((7:Nat):Int):=Ai (λn:Nat=>some (n:Int)) ((AY ..).trans h)
variable(W:lS L R G B)
include W
theorem AbG:(ev 117).X A6 (Ti v rw (.lst (Di L 2 B)) (.lst (Di L 0 R)) (some (.int (L m 0),.int (L m 1),.int (L m 2))) y) ⟨Gs o pt L R G B D,b⟩ (Bb (B3 Tj) 0)=some ⟨.next,Ti v rw (.lst (Di L 2 B)) (.lst (Di L 0 R)) (some (.int (L m 0),.int (L m 1),.int (L m 2))) (some (.int (cG L G (L m 1)))),⟨Gs o pt L R G B D,b⟩⟩:=by
 have c:=xv (wr:=0) (c':=cG L G (L m 1)) (a:=.loc 21) (x:=.int (L m 1)) (H:=Gs o pt L R G B D) (b:=b) (as:=[.loc 21,.int (L m 1)]) (ks:=[("key",.BI kG2)])
  ⋯ ⋯ (PV W.lg) (λi hi=>Jq rfl (MI (by rw[W.lg];exact hi)) (by rw[show(CP G).length=7 from(AY ..).trans W.lg];decide)) (λi hi=>xB _ (W.g7 i hi) 106 _) (λi hi=>Ai some (Tg _ _)) (λi hi=>XW (W.mg _) i hi) (λi hi h2=>XY (W.mg _) i hi (by rw[W.lg];exact h2)) (AA (Hr _) (Bn W.lg))
 refine(Ni ⋯ ⋯ ((CH (S1:=⟨Gs o pt L R G B D,b⟩) ⋯ ⋯ ⋯ ⋯ ⋯ ⋯).trans c)).trans ?_
 cases y<;>kernel_rfl
theorem AbH(hD:D.length<=1000):(ev 117).X A6 (Ti v rw (.lst (Di L 2 B)) (.lst (Di L 0 R)) (some (.int (L m 0),.int (L m 1),.int (L m 2))) (some (.int (cG L G (L m 1))))) ⟨Gs o pt L R G B D,b⟩ (Bb (B3 Tj) 1)=some ⟨.next,Ti v rw (.lst (Di L 2 B)) (.lst (Di L 0 R)) (some (.int (L m 0),.int (L m 1),.int (L m 2))) (some (.int (cG L G (L m 1)))),⟨Gs o pt L R G B (D++[bh L R G B m]),b⟩⟩:=by
 have c:=xu (k:=106) (wr:=0) (c':=cR L R (L m 0)) (a:=.lst (Di L 0 R)) (x:=.int (L m 0)) (H:=Gs o pt L R G B D) (b:=b) (as:=[.lst (Di L 0 R),.int (L m 0)]) (ks:=[])
  ⋯ ⋯ (PV W.lr) (λi hi=>MF (MI (by rw[W.lr];exact hi)) (by rw[show(Di L 0 R).length=7 from(AY ..).trans W.lr];decide)) (λi hi=>rfl) (λi hi=>XW (W.mr _) i hi) (λi hi h2=>XY (W.mr _) i hi (by rw[W.lr];exact h2)) (AA (Hr _) (Bn W.lr))
 have d:=Abz (k:=106) (wr:=0) (c':=cB L B (L m 2)) (a:=.lst (Di L 2 B)) (x:=.int (L m 2)) (H:=Gs o pt L R G B D) (b:=b) (as:=[.lst (Di L 2 B),.int (L m 2)]) (ks:=[]) (V:=λi=>.int (L (B.getD i 0) 2)) (P:=λi=>decide (L (B.getD i 0) 2<=L m 2))
  ⋯ ⋯ (PV W.lb) (λi hi=>MF (MI (f:=λ(q:Nat)=>.int (L q 2)) (by rw[W.lb];exact hi)) (by rw[show(Di L 2 B).length=7 from(AY ..).trans W.lb];decide)) (λi hi=>Ai some (Tg _ _)) (λi hi=>XW (W.mb _) i hi) (λi hi h2=>XY (W.mb _) i hi (by rw[W.lb];exact h2)) (AA (Hr _) (Bn W.lb))
 refine Qo (n:=116) (v:=.none) ⋯ ⋯ ((I8 (n:=115) (S1:=⟨Gs o pt L R G B D,b⟩) (S2:=⟨Gs o pt L R G B D,b⟩) (v:=.loc 23) (k:=.bi .append) (vs:=[bh L R G B m]) ⋯ ⋯ ⋯ ⋯ ⋯ "append" ⋯ ⋯ (Dg ⋯ (Vg (n:=114) ⋯ ⋯ ?_))).trans (xA (A:=23) (xs:=D) rfl hD))
 refine CB (v:=.int (cR L R (L m 0))) (S1:=⟨Gs o pt L R G B D,b⟩) ⋯ ((CH (n:=113) (S1:=⟨Gs o pt L R G B D,b⟩) (S2:=⟨Gs o pt L R G B D,b⟩) (f:=.val (.ref 57)) (vs:=[.lst (Di L 0 R),.int (L m 0)]) (kv:=[]) ⋯ ⋯ ⋯ ⋯ ⋯ ⋯).trans c) ?_
 refine CB (v:=.int (cG L G (L m 1))) (S1:=⟨Gs o pt L R G B D,b⟩) ⋯ ⋯ (Dg ⋯ ?_)
 exact(CH (n:=113) (S1:=⟨Gs o pt L R G B D,b⟩) (S2:=⟨Gs o pt L R G B D,b⟩) (f:=.val (.ref 39)) (vs:=[.lst (Di L 2 B),.int (L m 2)]) (kv:=[]) ⋯ ⋯ ⋯ ⋯ ⋯ ⋯).trans d
theorem Hu{lo:Lo}(hD:D.length<=1000)(h1:Src.at (Gs o pt L R G B D) m (.loc 14)=some (some (.lst [.int (L m 0),.int (L m 1),.int (L m 2)])))(h2:Ju A6 lo ⟨Gs o pt L R G B D,b⟩ (BV Tj) (.lst [.int (L m 0),.int (L m 1),.int (L m 2)])=some ⟨Ti v rw (.lst (Di L 2 B)) (.lst (Di L 0 R)) (some (.int (L m 0),.int (L m 1),.int (L m 2))) y,⟨Gs o pt L R G B D,b⟩⟩):
  forL (ev 117) A6 (.loc 14) (BV Tj) (B3 Tj) (k+1) m lo ⟨Gs o pt L R G B D,b⟩=forL (ev 117) A6 (.loc 14) (BV Tj) (B3 Tj) k (m+1) (Ti v rw (.lst (Di L 2 B)) (.lst (Di L 0 R)) (some (.int (L m 0),.int (L m 1),.int (L m 2))) (some (.int (cG L G (L m 1))))) ⟨Gs o pt L R G B (D++[bh L R G B m]),b⟩:=
 B0 h1 h2 ((Ak ⋯ (AbG W)).trans ((Ak ⋯ (AbH W hD)).trans ⋯))
def rO(L:Ks)(R G B:List Nat):List AV:=[bh L R G B 0,bh L R G B 1,bh L R G B 2,bh L R G B 3,bh L R G B 4,bh L R G B 5,bh L R G B 6]
theorem X23:(ev 118).X A6 (rM v rw (.lst (Di L 2 B)) (.lst (Di L 0 R))) ⟨Gs o pt L R G B [],b⟩ Tj=some ⟨.next,Ti v rw (.lst (Di L 2 B)) (.lst (Di L 0 R)) (some (.int (L 6 0),.int (L 6 1),.int (L 6 2))) (some (.int (cG L G (L 6 1)))),⟨Gs o pt L R G B (rO L R G B),b⟩⟩:=
 Qp (S1:=⟨Gs o pt L R G B [],b⟩) ⋯ ⋯ ⋯ ((Hu W (v:=v) (rw:=rw) (y:=none) (Bm rfl) ⋯ ⋯).trans ((Hu W (v:=v) (rw:=rw) (y:=some (.int (cG L G (L 0 1)))) (Bm rfl) ⋯ ⋯).trans ((Hu W (v:=v) (rw:=rw) (y:=some (.int (cG L G (L 1 1)))) (Bm rfl) ⋯ ⋯).trans ((Hu W (v:=v) (rw:=rw) (y:=some (.int (cG L G (L 2 1)))) (m:=3) (k:=76) (Bm rfl) ⋯ ⋯).trans
  ((Hu W (v:=v) (rw:=rw) (y:=some (.int (cG L G (L 3 1)))) (m:=4) (k:=75) (Bm rfl) ⋯ ⋯).trans ((Hu W (v:=v) (rw:=rw) (y:=some (.int (cG L G (L 4 1)))) (m:=5) (k:=74) (Bm rfl) ⋯ ⋯).trans ((Hu W (v:=v) (rw:=rw) (y:=some (.int (cG L G (L 5 1)))) (m:=6) (k:=73) (Bm rfl) ⋯ ⋯).trans ⋯)))))))
end
noncomputable def obs(xs:List Aa)(b:Aa):Aa:=xs.foldl (λb x=>x&&b) b
theorem Er(h:∀x,x∈xs->x=true):obs xs b=b:=by
 induction xs generalizing b with
 |nil=>rfl
 |cons x xs ih=>exact(ih λy hy=>h y (.tail _ hy)).trans (Ai (· &&b) (h x (.head _)))
noncomputable def up(n:Nat)(x:Int):Int:=x.fdiv (2^n)
def lw(n:Nat)(x:Int):Int:=Ou x (up n x*2^n)
def oz(n:Nat)(x:Int):List Int:=[lw n x,lw n (up n x),up n (up n x)]
def Vh(n:Nat)(x:Int):List Int:=oz n (lw (3*n) x)++[lw n (lw (2*n) (up (3*n) x)),up n (lw (2*n) (up (3*n) x)),lw n (up (2*n) (up (3*n) x)),up n (up (2*n) (up (3*n) x))]
def oA(n:Nat)(x:Int):List Aa:=[up (3*n) x,up n (lw (3*n) x),up n (up n (lw (3*n) x)),up (2*n) (up (3*n) x),up n (lw (2*n) (up (3*n) x)),up n (up (2*n) (up (3*n) x))].map AM
noncomputable def EA(l:List Int):List AV:=l.map .int
theorem oB{lo:Lo}(h:s=.Assign [.Name (Bw (BV s)) (Jx (BV s))] (Cm s) (bC s))(hc:MP (Cm s)=none)(hd:Hh (Cm s)=true)(ht:Ke (Bw (BV s)) MO=true)(hl:Qw (Cm s)=none)(e1 e2:Expr)(hm:af (Cm s)=some (e1,e2))(hs:noStar 200 [e1]=true)
  (h1:(ev n).E fr lo S e1=some ⟨v,S1⟩)(h2:(ev n).E fr lo S1 e2=some ⟨.int y,S2⟩)(hy:decide (0<=y/\y<1000)=true):(ev (n+1)).X fr lo S s=(Xd ⟨OP [v] y.toNat,S2⟩).bind λv=>Hl (putN fr lo v.S (Bw (BV s)) v.v):=by
 have hv:OX (ev n) fr lo S (Bw (BV s)) (Cm s)=Xd ⟨OP [v] y.toNat,S2⟩:=by
  unfold OX
  rw[ht,hl,hm]
  show Af (noStar 200 [e1]) (((ev n).E fr lo S e1).bind λv=>((ev n).E fr lo v.S e2).bind λk=>(intOf k.v).bind λy=>Af (decide (0<=y/\y<1000)) (Xd ⟨OP [v.v] y.toNat,k.S⟩))=_
  rw[hs,h1]
  show((ev n).E fr lo S1 e2).bind (λk=>(intOf k.v).bind λy=>Af (decide (0<=y/\y<1000)) (Xd ⟨OP [v] y.toNat,k.S⟩))=_
  rw[h2]
  show Af (decide (0<=y/\y<1000)) (Xd ⟨OP [v] y.toNat,S2⟩)=_
  rw[hy]
  rfl
 refine(Ai ((ev (n+1)).X fr lo S) h).trans ?_
 show OZ (ev n) fr lo S (Bw (BV s)) (Cm s)=_
 unfold OZ
 rw[hc]
 rw[hd,hv]
 rfl
theorem gV{binds lo Bv:Lo}
  (hb:Cv fi as ks=some binds)(hp:IJ (Au fi H.length wr) [] ⟨H++AK fi.scope.names,b⟩ binds=some ⟨lo,S1⟩)(he:fi.Ss=false)(hB:fi.body=.stmts (E8 fi.body))
  (hX:Xs r (Au fi H.length wr) lo S1 (E8 fi.body)=some ⟨fl,Bv,S2⟩)(hv:fl.Nb=some v)(hz:fz 6 H.length S2.H v=some v'):CM r fi as ks wr ⟨H,b⟩=some ⟨v',⟨H,S2.ob⟩⟩:=by
 unfold CM
 rw[hb]
 show((IJ (Au fi H.length wr) [] ⟨H++AK fi.scope.names,b⟩ binds).bind λp=>(KJ r (Au fi H.length wr) fi.body p.v p.S).bind λx=>cond fi.Ss (some x) (letGo ⟨H,b⟩ x))=_
 rw[hp,hB,he]
 show(((Xs r (Au fi H.length wr) lo S1 (E8 fi.body)).bind λx=>x.fl.Nb.bind λv=>some (⟨v,x.S⟩ :Rt AV)).bind λx=>letGo ⟨H,b⟩ x)=_
 rw[hX]
 show((fl.Nb.bind λv=>some (⟨v,S2⟩ :Rt AV)).bind λx=>letGo ⟨H,b⟩ x)=_
 rw[hv]
 show(fz 6 H.length S2.H v).bind (λv=>some (⟨v,⟨H,S2.ob⟩⟩ :Rt AV))=_
 rw[hz]
 rfl
theorem X7{binds lo Bv:Lo}(hn:H.length=n)
  (hb:Cv fi as ks=some binds)(hp:IJ (Au fi n wr) [] ⟨H++AK fi.scope.names,b⟩ binds=some ⟨lo,S1⟩)(he:fi.Ss=false)(hB:fi.body=.stmts (E8 fi.body))
  (hX:Xs r (Au fi n wr) lo S1 (E8 fi.body)=some ⟨fl,Bv,S2⟩)(hv:fl.Nb=some v)(hz:fz 6 n S2.H v=some v'):CM r fi as ks wr ⟨H,b⟩=some ⟨v',⟨H,S2.ob⟩⟩:=by
 subst hn
 exact gV hb hp he hB hX hv hz
def K6:FI:=jg (FT 64)
def ZD(i:Nat):Az:=Bb (E8 K6.body) i
def fdX(s:Az)(fr:FD)(fc:List (Str×Nat)):AV:=match s with | .FunctionDef n ps b _ _ _ sc _ _ _=>.BI ⟨n,fr.qual++n,ps,.stmts b,sc,fc⟩ | _=>.none
def tU(s:Az):Expr×Expr:=(af (Cm s)).getD (e0,e0)
def bE(k:Nat):AV:=fdX (ZD 1) (Au K6 k k) [("n",k),("inner",k+2),("a_digits",k+1)]
section
variable{o:Nat->AO}{pt:AO}{L:Ks}{R G B:List Nat}{D T:List AV}{b:Aa}{X:Int}{c1 c2:AV}
def VI(o:Nat->AO)(pt:AO)(L:Ks)(R G B:List Nat)(D:List AV)(c1 c2:AV)(T:List AV):List AO:=Gs o pt L R G B D++[.cell (some c1),.cell (some c2),.list T]
noncomputable def PW(H:List AO)(n:Int)(c d:Ab AV)(ds:List AO):List AO:=H++(.cell (some (.int n))::.cell c::.cell d::ds)
theorem J7(hb:(((Dy X:Nat):Int)+147-1).fdiv 147=7)(h0:X≠0):A9 (ev (k+20)) wr (.val (.ref 64)) [.int X,.int 147] [] ⟨VI o pt L R G B D c1 c2 T,b⟩=some ⟨.lst (EA (Vh 147 X)),⟨VI o pt L R G B D c1 c2 T,obs (oA 147 X) b⟩⟩:=by
 have x0:(ev (k+20)).X (Au K6 27 wr) [("a",.int X)] ⟨PW (VI o pt L R G B D c1 c2 T) 147 none none [],b⟩ (ZD 0)=some ⟨.next,[("a",.int X)],⟨PW (VI o pt L R G B D c1 c2 T) 147 (some (.loc 30)) none [.list (EA [0,0,0,0,0,0,0])],b⟩⟩:=
  (oB (v:=.int 0) ⋯ ⋯ ⋯ ⋯ ⋯ (tU (ZD 0)).1 (tU (ZD 0)).2 ⋯ ⋯ ⋯
   ((show(ev (k+19)).E (Au K6 27 wr) [("a",.int X)] ⟨PW (VI o pt L R G B D c1 c2 T) 147 none none [],b⟩ (tU (ZD 0)).2=some ⟨.int ((((Dy X:Nat):Int)+147-1).fdiv 147),⟨PW (VI o pt L R G B D c1 c2 T) 147 none none [],b⟩⟩ from ⋯).trans (by rw[hb])) ⋯).trans ⋯
 have x2:(ev (k+20)).X (Au K6 27 wr) [("a",.int X)] ⟨PW (VI o pt L R G B D c1 c2 T) 147 (some (.loc 30)) (some (bE 27)) [.list (EA [0,0,0,0,0,0,0])],b⟩ (ZD 2)=some ⟨.next,[("a",.int X)],⟨PW (VI o pt L R G B D c1 c2 T) 147 (some (.loc 30)) (some (bE 27)) [.list (EA (Vh 147 X))],obs (oA 147 X) b⟩⟩:=
  (KY ⋯ ((show(ev (k+19)).T (Au K6 27 wr) [("a",.int X)] ⟨PW (VI o pt L R G B D c1 c2 T) 147 (some (.loc 30)) (some (bE 27)) [.list (EA [0,0,0,0,0,0,0])],b⟩ (BV (ZD 2))=some ⟨decide (X≠0),⟨PW (VI o pt L R G B D c1 c2 T) 147 (some (.loc 30)) (some (bE 27)) [.list (EA [0,0,0,0,0,0,0])],b⟩⟩ from ⋯).trans (by rw[AU h0]))).trans ⋯
 refine(show A9 (ev (k+20)) wr (.val (.ref 64)) [.int X,.int 147] [] ⟨VI o pt L R G B D c1 c2 T,b⟩=CM (ev (k+20)) K6 [.int X,.int 147] [] wr ⟨VI o pt L R G B D c1 c2 T,b⟩ from ⋯).trans ?_
 refine gV (fi:=K6) (binds:=[("a",.int X),("n",.int 147)]) (lo:=[("a",.int X)]) (Bv:=[("a",.int X)]) (v:=.loc 30) (fl:=.ret (.loc 30)) (S1:=⟨PW (VI o pt L R G B D c1 c2 T) 147 none none [],b⟩) (S2:=⟨PW (VI o pt L R G B D c1 c2 T) 147 (some (.loc 30)) (some (bE 27)) [.list (EA (Vh 147 X))],obs (oA 147 X) b⟩) ⋯ ⋯ ⋯ ⋯ ?_ rfl ⋯
 refine(Ak ⋯ x0).trans ((Ak (lo1:=[("a",.int X)]) (S1:=⟨PW (VI o pt L R G B D c1 c2 T) 147 (some (.loc 30)) (some (bE 27)) [.list (EA [0,0,0,0,0,0,0])],b⟩) ⋯ ⋯).trans ((Ak ⋯ x2).trans ⋯))
theorem xC(hw:wr<=A)(hA:H[A]?=some (.list xs))(hn:xs.length<=1000):IL r wr (.bi .append) (.loc A) [p] ⟨H,b⟩=some ⟨.none,⟨H.set A (.list (xs++[p])),b⟩⟩:=
 (Ai (λo:Ab AO=>o.bind (jD wr ⟨H,b⟩ A p)) hA).trans ((Ai (λz=>Af z (HH wr ⟨H,b⟩ A (.list (xs++[p])))) (JS hn)).trans (Ai (λz=>(Af z (some ((⟨H,b⟩ :St).on (H.set A (.list (xs++[p])))))).bind λS'=>some (⟨.none,S'⟩ :Rt AV)) (JS hw)))
def E6:FI:=jg (FT 284)
def Nk(i:Nat):Az:=Bb (E8 E6.body) i
noncomputable def t7(n:Nat)(f:Nat->Int):Int:=((f 6*2^n+f 5)*2^(2*n)+(f 4*2^n+f 3))*2^(3*n)+((f 2*2^n+f 1)*2^n+f 0)
noncomputable def evd(L:Ks)(p:Nat):Int:=L p 0+128*L p 1+16384*L p 2
def K7:Int:=t7 21 λ_=>1
def Es:Int:=t7 147 λ_=>1
def tV(n:Nat)(f:Nat->Int):List Aa:=[f 6,f 6*2^n+f 5,f 4,(f 6*2^n+f 5)*2^(2*n)+(f 4*2^n+f 3),f 2,f 2*2^n+f 1].map AM
def Nl(L:Ks):Int:=t7 21 (evd L)
noncomputable def K8(x:Int)(y:Int)(t:Ab (AV×AV)):Lo:=A8 [("lights",.loc 14),("everybody",.int x),("everywhere",.int y),("table",.loc 26)] (t.elim [] λp=>[("bounds",p.1),("figures",p.2)])
def obA(L:Ks):List Aa:=([0,1,2,3,4,5,6].flatMap λp=>[AM (L p 1),AM (L p 2)])++(tV 21 (evd L)++[AM (Nl L)&&true])
theorem AbI:Xs (ev 116) (Au E6 24 0) [("lights",.loc 14)] ⟨Gs o pt L R G B D++[.cell none,.cell none],b⟩ ((E8 E6.body).take 4)=some ⟨.next,K8 (Nl L) (Nl L*Es) none,⟨Gs o pt L R G B D++[.cell (some (.int K7)),.cell none,.list []],obs (obA L) b⟩⟩:=⋯
noncomputable def mx(a b:Int):Int:=if a<b then b else a
def bd(L:Ks)(m:Nat)(p:Nat):Int:=0+(mx (L m 0) (L p 0)+64)*1+(mx (L m 1) (L p 1)+64)*128+(mx (L m 2) (L p 2)+64)*16384
def XF(L:Ks)(m:Nat):Int:=t7 147 (bd L m)*K7-Nl L*Es
def fg(f:Int):Int:=((Gf (Gf (Gf f (f.fdiv (2^7))) (f.fdiv (2^14))) (64*K7)).fdiv (2^6)).fmod 2097151
def oE(L:Ks)(m:Nat):AV:=.lst ([0,1,2,3,4,5,6].map λp=>.int (bd L m p))
def obB(L:Ks)(m:Nat):List Aa:=[0,1,2,3,4,5,6].flatMap λp=>[AM (mx (L m 0) (L p 0)+64)&&true,AM (mx (L m 1) (L p 1)+64)&&true,AM (mx (L m 2) (L p 2)+64)&&true]
def TP(o:Nat->AO)(pt:AO)(L:Ks)(R G B:List Nat)(D:List AV)(m:Nat)(T:List AV):List AO:=VI o pt L R G B D (.int K7) (.lst [.int (L m 0),.int (L m 1),.int (L m 2)]) T
theorem AbJ:(ev 115).X (Au E6 24 0) (K8 (Nl L) (Nl L*Es) t) ⟨TP o pt L R G B D m T,b⟩ (Bb (B3 (Nk 4)) 0)=some ⟨.next,A8 [("lights",.loc 14),("everybody",.int (Nl L)),("everywhere",.int (Nl L*Es)),("table",.loc 26),("bounds",oE L m)] (t.elim [] λp=>[("figures",p.2)]),⟨TP o pt L R G B D m T,obs (obB L m) b⟩⟩:=by cases t<;>kernel_rfl
def gW(L:Ks)(m:Nat)(t:Ab (AV×AV)):Lo:=A8 [("lights",.loc 14),("everybody",.int (Nl L)),("everywhere",.int (Nl L*Es)),("table",.loc 26),("bounds",oE L m)] (t.elim [] λp=>[("figures",p.2)])
theorem xD:Jh (ev 113) (Au E6 24 0) (gW L m t) ⟨TP o pt L R G B D m T,b⟩ (C0 (Cm (Bb (B3 (Nk 4)) 1)))=some ⟨[.int (XF L m),.int 147],⟨TP o pt L R G B D m T,obs (tV 147 (bd L m)++[AM (t7 147 (bd L m))&&true]) b⟩⟩:=by cases t<;>kernel_rfl
def Hv(L:Ks)(m:Nat)(ds:List Int):Lo:=K8 (Nl L) (Nl L*Es) (some (oE L m,.lst (EA ds)))
theorem AbK(hb:(((Dy (XF L m):Nat):Int)+147-1).fdiv 147=7)(h0:XF L m≠0):(ev 115).X (Au E6 24 0) (gW L m t) ⟨TP o pt L R G B D m T,b⟩ (Bb (B3 (Nk 4)) 1)=
  some ⟨.next,Hv L m (Vh 147 (XF L m)),⟨TP o pt L R G B D m T,obs (oA 147 (XF L m)) (obs (tV 147 (bd L m)++[AM (t7 147 (bd L m))&&true]) b)⟩⟩:=by
 refine(Ni ⋯ ⋯
  ((CH (S2:=⟨TP o pt L R G B D m T,obs (tV 147 (bd L m)++[AM (t7 147 (bd L m))&&true]) b⟩) ⋯ ⋯ ⋯ (by cases t<;>kernel_rfl) xD ⋯).trans (J7 hb h0))).trans ?_
 cases t<;>kernel_rfl
theorem xE:Jh (ev 113) (Au E6 24 0) (Hv L m [d0,d1,d2,d3,d4,d5,d6]) ⟨TP o pt L R G B D m T,b⟩ (C0 (Cm (Bb (B3 (Nk 4)) 2)))=some ⟨[.lst (EA ([d0,d1,d2,d3,d4,d5,d6].map fg))],⟨TP o pt L R G B D m T,b⟩⟩:=⋯
theorem AbL(hT:T.length<=1000):(ev 115).X (Au E6 24 0) (Hv L m [d0,d1,d2,d3,d4,d5,d6]) ⟨TP o pt L R G B D m T,b⟩ (Bb (B3 (Nk 4)) 2)=
  some ⟨.next,Hv L m [d0,d1,d2,d3,d4,d5,d6],⟨TP o pt L R G B D m (T++[.lst (EA ([d0,d1,d2,d3,d4,d5,d6].map fg))]),b⟩⟩:=
 Qo ⋯ ⋯ ((I8 ⋯ ⋯ ⋯ ⋯ ⋯ "append" ⋯ ⋯ xE).trans (xC (A:=26) ⋯ rfl hT))
end
noncomputable def comb(n:Nat):List Nat->Nat
 |[]=>0
 |d::ds=>d+2^n*comb n ds
noncomputable abbrev L7(f:Nat->Nat):List Nat:=[0,1,2,3,4,5,6].map f
theorem K9:∀{ds:List Nat},(∀d,d∈ds->d<2^n)->comb n ds<2^(n*ds.length)
 |[],_=>Nat.one_pos
 |d::ds,h=>by
  have h1:=h d (.head _)
  have h2:=K9 λx hx=>h x (.tail _ hx)
  have h3: 2^n*(comb n ds+1)<=2^n*2^(n*ds.length):=Jz _ h2
  rw[<-JW,Ga n] at h3
  exact BX (Nat.add_lt_add_right h1 _) (by rw[Ga,<-Nat.mul_succ];exact h3)
theorem PX:∀(f g:Nat->Nat)(l:List Nat),comb n (l.map λj=>f j+g j)=comb n (l.map f)+comb n (l.map g)
 |_,_,[]=>rfl
 |f,g,x::l=>by
  show f x+g x+2^n*comb n (l.map λj=>f j+g j)=f x+2^n*comb n (l.map f)+(g x+2^n*comb n (l.map g))
  rw[PX f g l,Nat.mul_add]
  ac_rfl
theorem GL(c:Nat):∀(f:Nat->Nat)(l:List Nat),comb n (l.map λj=>f j*c)=comb n (l.map f)*c
 |_,[]=>(H8 c).symm
 |f,x::l=>by
  show f x*c+2^n*comb n (l.map λj=>f j*c)=(f x+2^n*comb n (l.map f))*c
  rw[GL c f l,LP,Fg]
theorem Jr(n:Nat)(f:Nat->Nat):t7 n (λj=>(f j:Int))=(comb n (L7 f):Nat):=by
 have h2:(2:Int)^(2*n)=2^n*2^n:=by rw[Nat.two_mul,Rb]
 have h3:(2:Int)^(3*n)=2^n*2^n*2^n:=by rw[show 3*n=n+n+n by exact(pw [] (.e (.m 3 .p) (.A (.A .p .p) .p)) [] [_]),Rb,Rb]
 show t7 n (λj=>(f j:Int))=((f 0+2^n*(f 1+2^n*(f 2+2^n*(f 3+2^n*(f 4+2^n*(f 5+2^n*(f 6+2^n*0)))))):Nat):Int)
 unfold t7
 rw[h2,h3]
 push_cast
 generalize (2:Int)^n=a
 grind
theorem lT(h:y<2^n):Ou ((x*2^n+y:Nat):Int) ((x*2^n:Nat):Int)=y:=by
 have ha:Gf ((x*2^n+y:Nat):Int) ((x*2^n:Nat):Int)=(((x*2^n+y) &&& (x*2^n):Nat):Int):=by
  unfold Gf
  rw[AU (HF _),AU (HF _)]
  rfl
 have ho:Bo.bitOr ((x*2^n+y:Nat):Int) ((x*2^n:Nat):Int)=(((x*2^n+y) ||| (x*2^n):Nat):Int):=by
  have e:∀z:Nat,Ov (Ov (z:Int))=z:=λz=>by unfold Ov;exact(pw [] (.E (.S (.g (.S (.g (.n .p)) (.j 1))) (.j 1)) (.n .p)) [] [_])
  have ng:∀z:Nat,decide (0<=Ov (z:Int))=false:=λz=>Ct (by unfold Ov;exact(pw [] (.n (.L (.j 0) (.S (.g (.n .p)) (.j 1)))) [] [_]))
  delta Bo.bitOr Gf
  rw[ng,ng]
  rw[e,e,e]
  rfl
 have e1:x*2^n+y=x*2^n ||| y:=by rw[<-Nat.shiftLeft_eq];exact Nat.shiftLeft_add_eq_or_of_lt h x
 unfold Ou
 rw[ha,ho,e1,show(x*2^n ||| y) &&& x*2^n=x*2^n from Wh λi=>by rw[Rq,Wm];cases (x*2^n).testBit i<;>rcases y.testBit i with ⟨⟩<;>rfl,
  show(x*2^n ||| y) ||| x*2^n=x*2^n ||| y from Wh λi=>by rw[Wm,Wm];cases (x*2^n).testBit i<;>rcases y.testBit i with ⟨⟩<;>rfl,<-e1]
 exact(pw [] (.E (.S (.n (.A .p .q)) (.n .p)) (.n .q)) [] [_,_])
theorem oF(h:y<2^n):up n ((x*2^n+y:Nat):Int)=x:=by
 have hp:(0:Int)<2^n:=by exact_mod_cast EF n
 unfold up
 rw[NT _ (Ec hp)]
 have:((x*2^n+y:Nat):Int)/((2^n:Nat):Int)=x:=by
  rw[<-Int.natCast_ediv,Ga,Nat.add_mul_div_right _ _ (EF n),Nat.div_eq_of_lt h,Ia]
 exact_mod_cast this
theorem xF(h:y<2^n):lw n ((x*2^n+y:Nat):Int)=y:=by
 unfold lw
 rw[oF h]
 have:=lT (x:=x) h
 push_cast at this ⊢
 exact this
theorem spl(ha:a.length=k)(h:∀d,d∈a->d<2^n):comb n (a++b)=comb n b*2^(k*n)+comb n a/\comb n a<2^(k*n):=by
 subst ha
 refine⟨?_,Dv n _▸K9 h⟩
 clear h
 induction a with
 |nil=>simp[comb]
 |cons x a ih=>
  show x+2^n*comb n (a++b)=comb n b*2^((a.length+1)*n)+(x+2^n*comb n a)
  rw[ih,Nat.succ_mul,JW,Nat.mul_add]
  ac_rfl
theorem PY(n d:Nat):comb n [d]=d:=by unfold comb comb;exact(pw [] (.e (.A .p (.R .q 0)) .p) [] [_,_])
theorem rP(ha:a.length=k)(h:∀d,d∈a->d<2^n):up (k*n) (comb n (a++b):Nat)=(comb n b:Nat)/\lw (k*n) (comb n (a++b):Nat)=(comb n a:Nat):=by
 have e:=spl (b:=b) ha h
 rw[e.1]
 exact⟨oF e.2,xF e.2⟩
theorem Nm(h:d<2^n):up n (comb n (d::b):Nat)=(comb n b:Nat)/\lw n (comb n (d::b):Nat)=d:=by
 have e:=rP (k:=1) (a:=[d]) (b:=b) rfl (λx hx=>by cases hx with | head=>exact h | tail _ hx=>rcases hx with ⟨⟩)
 rw[C3,PY] at e
 exact e
theorem gZ(h0:d0<2^n)(h1:d1<2^n):oz n (comb n [d0,d1,d2]:Nat)=[(d0:Int),d1,d2]:=by
 unfold oz
 rw[(Nm h0).1,(Nm h0).2,(Nm h1).1,(Nm h1).2,PY]
theorem rQ(h0:d0<2^n)(h1:d1<2^n)(h2:d2<2^n)(h3:d3<2^n)(h4:d4<2^n)(h5:d5<2^n):
  Vh n (comb n [d0,d1,d2,d3,d4,d5,d6]:Nat)=[(d0:Int),d1,d2,d3,d4,d5,d6]/\oA n (comb n [d0,d1,d2,d3,d4,d5,d6]:Nat)=[(comb n [d3,d4,d5,d6]:Nat),(comb n [d1,d2]:Nat),(d2:Nat),(comb n [d5,d6]:Nat),(d4:Nat),(d6:Nat)].map (λx:Nat=>AM x):=by
 have e1:=rP (k:=3) (a:=[d0,d1,d2]) (b:=[d3,d4,d5,d6]) rfl (λx hx=>by simp only[Bc,N1,OH] at hx;rcases hx with rfl | rfl | rfl<;>assumption)
 have e2:=rP (k:=2) (a:=[d3,d4]) (b:=[d5,d6]) rfl (λx hx=>by simp only[Bc,N1,OH] at hx;rcases hx with rfl | rfl<;>assumption)
 simp only[List.cons_append,List.nil_append] at e1 e2
 delta Vh oA
 rw[e1.1,e1.2,gZ h0 h1,e2.1,e2.2,(Nm h3).1,(Nm h3).2,(Nm h5).1,(Nm h5).2,(Nm h0).1,(Nm h1).1,PY,PY,PY] at ⊢
 exact⟨rfl,rfl⟩
noncomputable def I9(d:Nat):Nat:=cond (d.testBit 6&&(d.testBit 13&&d.testBit 20)) 1 0
theorem FY(d:Nat):I9 d<=1:=by unfold I9;cases (d.testBit 6&&(d.testBit 13&&d.testBit 20))<;>decide
theorem La(h:d<2^21)(ds:List Nat)(i:Nat):(comb 21 (d::ds)).testBit i=if i<21 then d.testBit i else (comb 21 ds).testBit (i-21):=by
 rw[show comb 21 (d::ds)=2^21*comb 21 ds+d from Ga _ _]
 exact cy _ h i
def msk(ds:List Nat):Nat:=((comb 21 ds &&& comb 21 ds >>>7) &&& comb 21 ds >>>14) &&& comb 21 (ds.map λ_=>64)
theorem g4(ds:List Nat)(i:Nat):(msk ds).testBit i=((((comb 21 ds).testBit i&&(comb 21 ds).testBit (7+i))&&(comb 21 ds).testBit (14+i))&&(comb 21 (ds.map λ_=>64)).testBit i):=by
 unfold msk
 rw[Rq,Rq,Rq,cD,cD]
theorem xG(i:Nat):(64:Nat).testBit i=decide (i=6):=by
 rw[show(64:Nat)=2^6 from rfl,Nat.testBit_two_pow]
 exact OG.mpr eq_comm
theorem lU(d i:Nat):(64*I9 d).testBit i=(decide (i=6)&&(d.testBit 6&&(d.testBit 13&&d.testBit 20))):=by
 unfold I9
 cases (d.testBit 6&&(d.testBit 13&&d.testBit 20)) with
 |true=>exact(xG i).trans (NR _).symm
 |false=>exact(Nat.zero_testBit i).trans (Q4 _).symm
theorem g6:∀{ds:List Nat},(∀d,d∈ds->d<2^21)->msk ds=comb 21 (ds.map λd=>64*I9 d)
 |[],_=>rfl
 |d::ds,h=>by
  have hd:=h d (.head _)
  have ih:=g6 λx hx=>h x (.tail _ hx)
  refine Wh λi=>?_
  rw[g4,La hd,La hd,La hd,show(d::ds).map (λ_=>64)=64::ds.map λ_=>64 from rfl,La ⋯,show(d::ds).map (λd=>64*I9 d)=64*I9 d::ds.map λd=>64*I9 d from rfl,La (by have:=FY d;exact(pw [.l .p (.k 1)] (.t (.m 64 .p) (.k (2^21))) [] [_]) this)]
  by_cases hi:i<21
  ·rw[Bh hi,Bh hi,Bh hi,xG,lU]
   by_cases h6:i=6
   ·subst h6
    rw[Bh ⋯,Bh ⋯]
    cases d.testBit 6<;>cases d.testBit 13<;>cases d.testBit 20<;>rfl
   ·rw[Ct h6,Q4,Aa.false_and]
  ·rw[AD hi,AD (by exact(pw [.n (.t .p (.k 21))] (.n (.t (.A (.k 7) .p) (.k 21))) [] [_]) hi),AD (by exact(pw [.n (.t .p (.k 21))] (.n (.t (.A (.k 14) .p) (.k 21))) [] [_]) hi),AD hi,AD hi,<-ih,g4,show 7+i-21=7+(i-21) by exact(pw [.n (.t .p (.k 21))] (.e (.S (.A (.k 7) .p) (.k 21)) (.A (.k 7) (.S .p (.k 21)))) [] [_]) hi,show 14+i-21=14+(i-21) by exact(pw [.n (.t .p (.k 21))] (.e (.S (.A (.k 14) .p) (.k 21)) (.A (.k 14) (.S .p (.k 21)))) [] [_]) hi]
theorem Vi:∀ds:List Nat,comb 21 ds%2097151=ds.sum%2097151
 |[]=>rfl
 |d::ds=>by
  have:=Vi ds
  show(d+2^21*comb 21 ds)%2097151=(d+ds.sum)%2097151
  lia
theorem Kt(a b:Nat):Gf (a:Int) (b:Int)=((a &&& b:Nat):Int):=by
 unfold Gf
 rw[AU (HF _),AU (HF _)]
 rfl
theorem PZ(a n:Nat):(a:Int).fdiv (2^n)=((a >>>n:Nat):Int):=by
 rw[NT _ (by exact_mod_cast Co _),cA]
 push_cast
 rfl
theorem Vj:K7=((comb 21 (L7 λ_=>1):Nat):Int):=Jr 21 λ_=>1
theorem xH(h:∀p,f p<2^21):fg (comb 21 (L7 f):Nat)=(((L7 f).map I9).sum:Nat):=by
 have hm:=g6 (ds:=L7 f) λd hd=>(CD.mp hd).elim λp hp=>hp.2▸h p
 have e64: 64*K7=((comb 21 ((L7 f).map λ_=>64):Nat):Int):=by
  rw[Vj]
  exact(Q8 64 _).symm.trans (Ai Ic ((Dv _ _).trans (GL 64 (λ_=>1) [0,1,2,3,4,5,6]).symm))
 have h3:comb 21 ((L7 f).map λd=>64*I9 d)=comb 21 ((L7 f).map I9)*64:=by
  refine Hd ?_ ((GL 64 I9 (L7 f)))
  exact Ai (comb 21) (LA λd _=>Dv _ _)
 unfold fg
 rw[PZ,PZ,e64,Kt,Kt,Kt,show((comb 21 (L7 f) &&& comb 21 (L7 f) >>>7) &&& comb 21 (L7 f) >>>14) &&& comb 21 ((L7 f).map λ_=>64)=comb 21 ((L7 f).map I9)*64 from hm.trans h3,PZ,cA,Nat.mul_div_cancel _ (by decide: 0<2^6),NS _ ⋯]
 have hs:((L7 f).map I9).sum<=7:=by
  have VJ:=FY (f 0);have VK:=FY (f 1);have g8:=FY (f 2);have bF:=FY (f 3);have ji:=FY (f 4);have lV:=FY (f 5);have:=FY (f 6)
  exact(pw [.l .p (.k 1),.l .q (.k 1),.l .r (.k 1),.l .s (.k 1),.l .t (.k 1),.l .u (.k 1),.l .w (.k 1)] (.l (.A .p (.A .q (.A .r (.A .s (.A .t (.A .u (.A .w (.k 0)))))))) (.k 7)) [] [_,_,_,_,_,_,_]) VJ VK g8 bF ji lV this
 have:=Vi ((L7 f).map I9)
 lia
abbrev B8:=Nat->Nat->Nat
noncomputable def A1(l:B8):Ks:=λp k=>(l p k:Nat)
noncomputable def Np(l:B8)(m j k:Nat):Nat:=max (l m k) (l j k)
def dN(l:B8)(m j p:Nat):Nat:=(Np l m j 0+64-l p 0)+128*(Np l m j 1+64-l p 1)+16384*(Np l m j 2+64-l p 2)
noncomputable def g9(l:B8)(p:Nat):Nat:=l p 0+128*l p 1+16384*l p 2
def hG(l:B8)(m j:Nat):Nat:=(Np l m j 0+64)+128*(Np l m j 1+64)+16384*(Np l m j 2+64)
def FN(l:B8)(m j:Nat):Nat:=comb 21 (L7 (dN l m j))
def bq(l:B8)(m j p:Nat):Aa:=decide (l p 0<=Np l m j 0)&&(decide (l p 1<=Np l m j 1)&&decide (l p 2<=Np l m j 2))
def Ky(l:B8)(m j:Nat):Nat:=(L7 λp=>cond (bq l m j p) 1 0).sum
section
variable{l:B8}(hl:∀p k,l p k<=63)
include hl
theorem Gu(m j k:Nat):Np l m j k<=63:=Nat.max_le.mpr ⟨hl m k,hl j k⟩
omit hl in
theorem tb6(h:c<128):c.testBit 6=decide (64<=c):=by
 rw[Nat.testBit_eq_decide_div_mod_eq]
 exact OG.mpr (by lia)
theorem xI(m j p:Nat):I9 (dN l m j p)=cond (bq l m j p) 1 0:=by
 have h0:=Gu hl m j 0;have h1:=Gu hl m j 1;have h2:=Gu hl m j 2
 have t:∀{a b:Nat}(ha:a<2^7)(i:Nat),(2^7*b+a).testBit i=if i<7 then a.testBit i else b.testBit (i-7):=λha i=>cy _ ha i
 have ge:∀k,decide (64<=Np l m j k+64-l p k)=decide (l p k<=Np l m j k):=λk=>OG.mpr (by lia)
 have e:dN l m j p=2^7*(2^7*(Np l m j 2+64-l p 2)+(Np l m j 1+64-l p 1))+(Np l m j 0+64-l p 0):=by unfold dN;exact(pw [] (.e (.A (.A (.S (.A .p (.k 64)) .q) (.m 128 (.S (.A .r (.k 64)) .s))) (.m 16384 (.S (.A .t (.k 64)) .u))) (.A (.m (2^7) (.A (.m (2^7) (.S (.A .t (.k 64)) .u)) (.S (.A .r (.k 64)) .s))) (.S (.A .p (.k 64)) .q))) [] [_,_,_,_,_,_])
 have b0:Np l m j 0+64-l p 0<128:=(pw [.l .p (.k 63)] (.t (.S (.A .p (.k 64)) .q) (.k 128)) [] [_,_]) h0
 have b1:Np l m j 1+64-l p 1<128:=(pw [.l .p (.k 63)] (.t (.S (.A .p (.k 64)) .q) (.k 128)) [] [_,_]) h1
 have b2:Np l m j 2+64-l p 2<128:=(pw [.l .p (.k 63)] (.t (.S (.A .p (.k 64)) .q) (.k 128)) [] [_,_]) h2
 unfold I9 bq
 rw[e,t b0,t b0,t b0,Bh ⋯,AD ⋯,AD ⋯,t b1,t b1,Bh ⋯,AD ⋯,tb6 b0,tb6 b1,tb6 b2,ge,ge,ge]
theorem oG(m j p:Nat):dN l m j p<2^21:=by
 have h0:=Gu hl m j 0;have h1:=Gu hl m j 1;have h2:=Gu hl m j 2
 unfold dN;exact(pw [.l .p (.k 63),.l .q (.k 63),.l .r (.k 63)] (.t (.A (.A (.S (.A .p (.k 64)) .s) (.m 128 (.S (.A .q (.k 64)) .t))) (.m 16384 (.S (.A .r (.k 64)) .u))) (.k (2^21))) [] [_,_,_,_,_,_]) h0 h1 h2
theorem rR(m j p:Nat): 1<=dN l m j p:=by have:=hl p 0;unfold dN;exact(pw [.l .p (.k 63)] (.l (.k 1) (.A (.A (.S (.A .q (.k 64)) .p) (.m 128 (.S (.A .r (.k 64)) .s))) (.m 16384 (.S (.A .t (.k 64)) .u)))) [] [_,_,_,_,_,_]) this
theorem Lb(m j:Nat):FN l m j<2^147:=K9 λd hd=>(CD.mp hd).elim λp hp=>hp.2▸oG hl m j p
theorem rS(m j:Nat): 1<=FN l m j:=AA (rR hl m j 0) (BG _ _)
theorem P0(m j:Nat):fg (FN l m j:Nat)=(Ky l m j:Nat):=(xH λp=>oG hl m j p).trans (Ai (λx:List Nat=>(x.sum:Int)) ((F8 ..).trans (LA λp _=>xI hl m j p)))
theorem rT(m j p:Nat):dN l m j p+g9 l p=hG l m j:=by
 have VJ:=hl p 0;have VK:=hl p 1;have:=hl p 2
 unfold dN g9 hG;exact(pw [.l .p (.k 63),.l .q (.k 63),.l .r (.k 63)] (.e (.A (.A (.A (.S (.A .s (.k 64)) .p) (.m 128 (.S (.A .t (.k 64)) .q))) (.m 16384 (.S (.A .u (.k 64)) .r))) (.A (.A .p (.m 128 .q)) (.m 16384 .r))) (.A (.A (.A .s (.k 64)) (.m 128 (.A .t (.k 64)))) (.m 16384 (.A .u (.k 64))))) [] [_,_,_,_,_,_]) VJ VK this
omit hl in
theorem P6(a b:Nat):mx (a:Int) (b:Int)=(max a b:Nat):=by unfold mx;split<;>lia
omit hl in
theorem hJ(m j:Nat):bd (A1 l) m j=(hG l m j:Nat):=by
 unfold bd A1
 rw[P6,P6,P6]
 show _=(((Np l m j 0+64)+128*(Np l m j 1+64)+16384*(Np l m j 2+64):Nat):Int)
 unfold Np
 exact(pw [] (.E (.A (.A (.A (.j 0) (.Q (.A (.n (.max .p .q)) (.j 64)) 1)) (.Q (.A (.n (.max .r .s)) (.j 64)) 128)) (.Q (.A (.n (.max .t .u)) (.j 64)) 16384)) (.n (.A (.A (.A (.max .p .q) (.k 64)) (.m 128 (.A (.max .r .s) (.k 64)))) (.m 16384 (.A (.max .t .u) (.k 64)))))) [] [_,_,_,_,_,_])
theorem oH(m:Nat):XF (A1 l) m=(comb 147 (L7 (FN l m)):Nat):=by
 have e1:=(Ai (t7 147) (funext (hJ m))).trans (Jr 147 (hG l m))
 have e2:Nl (A1 l)=(comb 21 (L7 (g9 l)):Nat):=Jr 21 (g9 l)
 have e3:Es=(comb 147 (L7 λ_=>1):Nat):=Jr 147 λ_=>1
 have q:∀j,hG l m j*comb 21 (L7 λ_=>1)=FN l m j+1*comb 21 (L7 (g9 l)):=λj=>by
  rw[C3,Dv,<-GL (hG l m j) (λ_=>1) [0,1,2,3,4,5,6]]
  refine Hd ?_ (PX (dN l m j) (g9 l) [0,1,2,3,4,5,6])
  exact Ai (comb 21) (LA λp _=>(C3 _).trans (rT hl m j p).symm)
 have r:comb 147 (L7 (hG l m))*comb 21 (L7 λ_=>1)=comb 147 (L7 (FN l m))+comb 147 (L7 λ_=>1)*comb 21 (L7 (g9 l)):=by
  rw[<-GL _ (hG l m) [0,1,2,3,4,5,6],<-GL _ (λ_=>1) [0,1,2,3,4,5,6],<-PX]
  exact Ai (comb 147) (LA λj _=>q j)
 unfold XF
 rw[e1,e2,e3,Vj,<-Q8,<-Q8,r,Dv (comb 21 (L7 (g9 l)))] at ⊢
 exact(pw [] (.E (.S (.n (.A .p .q)) (.n .q)) (.n .p)) [] [_,_])
theorem ZE(m:Nat):(((Dy (XF (A1 l) m):Nat):Int)+147-1).fdiv 147=7/\XF (A1 l) m≠0:=by
 have IY:=K9 (ds:=L7 (FN l m)) λd hd=>(CD.mp hd).elim λp hp=>hp.2▸Lb hl m p
 have s:=(spl (a:=[0,1,2,3,4,5].map (FN l m)) (b:=[FN l m 6]) rfl λd hd=>(CD.mp hd).elim λp hp=>hp.2▸Lb hl m p).1
 rw[PY] at s
 have zd: 2^882<=comb 147 (L7 (FN l m)):=by
  rw[show comb 147 (L7 (FN l m))=_ from s]
  exact AA (AA (Bn (C3 _).symm) (Ee _ (rS hl m 6))) (BG _ _)
 rw[oH hl]
 generalize comb 147 (L7 (FN l m))=N at IY zd
 have h0:N≠0:=λh=>by rw[h] at zd;exact AL zd (N7 (EF _))
 have a:=(Nat.le_log2 h0).mpr zd
 have c:=(Wr h0).mpr IY
 have hb:Dy (N:Int)=N.log2+1:=by
  unfold Dy
  rw[AD (by simpa using h0)]
  rfl
 refine⟨?_,λh=>h0 (Ly.inj h)⟩
 rw[hb,NT _ ⋯]
 exact(pw [.l (.k 882) .p,.t .p (.k 1029),.E (.A (.l 147 .p) .q) (.S (.A (.n (.A .p (.k 1))) (.j 147)) (.j 1)),.T .q (.j 147),.L (.j 0) .q] (.E .p (.j 7)) [_,_] [_]) a c (VY _ _) (Lv _ ⋯) (Lx _ ⋯)
theorem hO(m:Nat):Vh 147 (XF (A1 l) m)=[(FN l m 0:Int),FN l m 1,FN l m 2,FN l m 3,FN l m 4,FN l m 5,FN l m 6]/\oA 147 (XF (A1 l) m)=[comb 147 [FN l m 3,FN l m 4,FN l m 5,FN l m 6],comb 147 [FN l m 1,FN l m 2],FN l m 2,comb 147 [FN l m 5,FN l m 6],FN l m 4,FN l m 6].map (λx:Nat=>AM x):=by
 rw[oH hl]
 exact rQ (Lb hl m 0) (Lb hl m 1) (Lb hl m 2) (Lb hl m 3) (Lb hl m 4) (Lb hl m 5)
end
section
set_option exponentiation.threshold 2000
theorem Ja:∀{l1 l2:List Az}{lo lo1:Lo}{S S1:St},Xs r fr lo S l1=some ⟨.next,lo1,S1⟩->Xs r fr lo S (l1++l2)=Xs r fr lo1 S1 l2
 |[],_,_,_,_,_,h=>by cases h;rfl
 |s::l1,l2,lo,lo1,S,S1,h=>by
  change (r.X fr lo S s).bind (λx=>cond x.fl.C8 (Xs r fr x.lo x.S l1) (some x))=_ at h
  show(r.X fr lo S s).bind (λx=>cond x.fl.C8 (Xs r fr x.lo x.S (l1++l2)) (some x))=_
  cases e:r.X fr lo S s with
  |none=>rw[e] at h;nomatch h
  |some x=>
   rw[e] at h
   change cond x.fl.C8 (Xs r fr x.lo x.S l1) (some x)=_ at h
   show cond x.fl.C8 (Xs r fr x.lo x.S (l1++l2)) (some x)=_
   cases q:x.fl.C8 with
   |true=>rw[q] at h;exact Ja h
   |false=>rw[q] at h;cases h;exact VV q
theorem oI{lo:Lo}(h:s=.Assign [.Name (Bw (BV s)) (Jx (BV s))] (Cm s) (bC s))(hc:MP (Cm s)=none)(hd:Hh (Cm s)=true)(ht:Ke (Bw (BV s)) MO=true)(hl:Qw (Cm s)=none)(hm:af (Cm s)=none)(hE:(ev n).E fr lo S (Cm s)=some ⟨v,S1⟩):(ev (n+1)).X fr lo S s=Hl (putN fr lo S1 (Bw (BV s)) v):=by
 have hv:OX (ev n) fr lo S (Bw (BV s)) (Cm s)=some ⟨v,S1⟩:=by
  unfold OX
  rw[ht,hl,hm]
  exact hE
 refine(Ai ((ev (n+1)).X fr lo S) h).trans ?_
 show OZ (ev n) fr lo S (Bw (BV s)) (Cm s)=_
 unfold OZ
 rw[hc]
 rw[hd,hv]
 rfl
theorem sm{x k:Nat}(h:x<2^k)(hk:k<=1029):AM (x:Int)=true:=
 AU (BX h (cH ⋯ (AA hk ⋯)))
theorem FZ(h:∀d,d∈ds->d<2^n)(hk:n*ds.length<=1029):AM (comb n ds:Nat)=true:=sm (K9 h) hk
theorem all1{P:Nat->Prop}(h:P a):∀d,d∈[a]->P d:=λd hd=>CL.mp hd▸h
theorem all2{P:Nat->Prop}(h:P a)(g:∀d,d∈l->P d):∀d,d∈a::l->P d:=λd hd=>(Bc.mp hd).elim (λe=>e▸h) (g d)
theorem AB(h:a=true)(g:∀x,x∈l->x=true):∀x,x∈a::l->x=true:=λd hd=>(Bc.mp hd).elim (λe=>e.trans h) (g d)
theorem F0:∀x:Aa,x∈([]:List Aa)->x=true:=nofun
theorem hU{l m:List Aa}(h:∀x,x∈l->x=true)(g:∀x,x∈m->x=true):∀x,x∈l++m->x=true:=λd hd=>(LH.mp hd).elim (h d) (g d)
theorem P7{α:Type}{a b:α}{l m:List α}(h:a=b)(g:l=m):a::l=b::m:=h▸g▸rfl
theorem hZ(h:a=true):(a&&true)=true:=(NR a).trans h
theorem h9{n:Nat}{f:Nat->Nat}(h:∀j,f j<2^n)(hn:n<=147):∀x,x∈tV n (λj=>(f j:Int))->x=true:=by
 have h2:(2:Int)^(2*n)=2^n*2^n:=by rw[Nat.two_mul,Rb]
 have c2:∀a b:Nat,(b:Int)*2^n+a=(comb n [a,b]:Nat):=λa b=>by
  show _=((a+2^n*(b+2^n*0):Nat):Int)
  push_cast
  generalize (2:Int)^n=z
  grind
 have c4:((f 6:Int)*2^n+f 5)*2^(2*n)+(f 4*2^n+f 3)=(comb n [f 3,f 4,f 5,f 6]:Nat):=by
  show _=((f 3+2^n*(f 4+2^n*(f 5+2^n*(f 6+2^n*0))):Nat):Int)
  rw[h2]
  push_cast
  generalize (2:Int)^n=z
  grind
 have s:=λj=>sm (h j) ((pw [.l .p (.k 147)] (.l .p (.k 1029)) [] [_]) hn)
 show ∀x,x∈[AM (f 6),AM ((f 6:Int)*2^n+f 5),AM (f 4),AM (((f 6:Int)*2^n+f 5)*2^(2*n)+(f 4*2^n+f 3)),AM (f 2),AM ((f 2:Int)*2^n+f 1)]->x=true
 rw[c4,c2,c2]
 exact AB (s 6) (AB (FZ (all2 (h 5) (all1 (h 6))) (show n*2<=1029 by exact(pw [.l .p (.k 147)] (.l (.R .p 2) (.k 1029)) [] [_]) hn)) (AB (s 4) (AB (FZ (all2 (h 3) (all2 (h 4) (all2 (h 5) (all1 (h 6))))) (show n*4<=1029 by exact(pw [.l .p (.k 147)] (.l (.R .p 4) (.k 1029)) [] [_]) hn)) (AB (s 2) (AB (FZ (all2 (h 1) (all1 (h 2))) (show n*2<=1029 by exact(pw [.l .p (.k 147)] (.l (.R .p 2) (.k 1029)) [] [_]) hn)) F0)))))
section
variable{l:B8}(hl:∀p k,l p k<=63)
include hl
theorem ZF(p k:Nat):AM (A1 l p k)=true:=sm (k:=6) (Nat.lt_succ_of_le (hl p k)) ⋯
theorem ia(p:Nat):g9 l p<2^21:=by have VJ:=hl p 0;have VK:=hl p 1;have:=hl p 2;unfold g9;exact(pw [.l .p (.k 63),.l .q (.k 63),.l .r (.k 63)] (.t (.A (.A .p (.m 128 .q)) (.m 16384 .r)) (.k (2^21))) [] [_,_,_]) VJ VK this
theorem ic(m j:Nat):hG l m j<2^147:=by
 have g8:=Gu hl m j 0;have bF:=Gu hl m j 1;have:=Gu hl m j 2
 refine BX (m:=2^21) ?_ ⋯
 unfold hG;exact(pw [.l .p (.k 63),.l .q (.k 63),.l .r (.k 63)] (.t (.A (.A (.A .p (.k 64)) (.m 128 (.A .q (.k 64)))) (.m 16384 (.A .r (.k 64)))) (.k (2^21))) [] [_,_,_]) g8 bF this
theorem rU:∀x,x∈obA (A1 l)->x=true:=by
 refine hU (AB (ZF hl _ _) (AB (ZF hl _ _) (AB (ZF hl _ _) (AB (ZF hl _ _) (AB (ZF hl _ _) (AB (ZF hl _ _) (AB (ZF hl _ _) (AB (ZF hl _ _) (AB (ZF hl _ _) (AB (ZF hl _ _) (AB (ZF hl _ _) (AB (ZF hl _ _) (AB (ZF hl _ _) (AB (ZF hl _ _) F0)))))))))))))) (hU (h9 (ia hl) ⋯) (AB (hZ ?_) F0))
 exact(Ai AM (Jr 21 (g9 l))).trans (FZ (λd hd=>(CD.mp hd).elim λp hp=>hp.2▸ia hl p) (Bm rfl))
theorem rV(m:Nat):∀x,x∈obB (A1 l) m->x=true:=by
 have s:∀p k,(AM (mx (A1 l m k) (A1 l p k)+64)&&true)=true:=λp k=>hZ (by
  rw[show mx (A1 l m k) (A1 l p k)+64=((Np l m p k+64:Nat):Int) from Ai (· +64) (P6 _ _)]
  exact sm (by have:=Gu hl m p k;exact(pw [.l .p (.k 63)] (.t (.A .p (.k 64)) (.k (2^7))) [] [_]) this) ⋯)
 exact AB (s _ _) (AB (s _ _) (AB (s _ _) (AB (s _ _) (AB (s _ _) (AB (s _ _) (AB (s _ _) (AB (s _ _) (AB (s _ _) (AB (s _ _) (AB (s _ _) (AB (s _ _) (AB (s _ _) (AB (s _ _) (AB (s _ _) (AB (s _ _) (AB (s _ _) (AB (s _ _) (AB (s _ _) (AB (s _ _) (AB (s _ _) F0))))))))))))))))))))
theorem rW(m:Nat):∀x,x∈tV 147 (bd (A1 l) m)++[AM (t7 147 (bd (A1 l) m))&&true]->x=true:=by
 rw[funext (hJ m)]
 exact hU (h9 (ic hl m) ⋯) (AB (hZ ((Ai AM (Jr 147 (hG l m))).trans (FZ (λd hd=>(CD.mp hd).elim λp hp=>hp.2▸ic hl m p) (Bm rfl)))) F0)
theorem rZ(m:Nat):∀x,x∈oA 147 (XF (A1 l) m)->x=true:=by
 have h:=Lb hl m
 have s:=λj=>sm (h j) ⋯
 rw[(hO hl m).2]
 exact AB (FZ (all2 (h 3) (all2 (h 4) (all2 (h 5) (all1 (h 6))))) (Bm rfl)) (AB (FZ (all2 (h 1) (all1 (h 2))) (Bm rfl)) (AB (s 2) (AB (FZ (all2 (h 5) (all1 (h 6))) (Bm rfl)) (AB (s 4) (AB (s 6) F0)))))
end
section
variable{o:Nat->AO}{pt:AO}{l:B8}{R G B:List Nat}{D T:List AV}{b:Aa}{v:Nat->AV}
def M6(l:B8)(m:Nat):AV:=.lst ([0,1,2,3,4,5,6].map λj=>.int (Ky l m j))
def oJ(l:B8):List AV:=[0,1,2,3,4,5,6].map (M6 l)
variable(hl:∀p k,l p k<=63)
include hl
theorem r4(hT:T.length<=1000):Xs (ev 115) (Au E6 24 0) (K8 (Nl (A1 l)) (Nl (A1 l)*Es) t) ⟨TP o pt (A1 l) R G B D m T,b⟩ (B3 (Nk 4))=
  some ⟨.next,Hv (A1 l) m (Vh 147 (XF (A1 l) m)),⟨TP o pt (A1 l) R G B D m (T++[M6 l m]),b⟩⟩:=by
 have e1:=AbJ (o:=o) (pt:=pt) (L:=A1 l) (R:=R) (G:=G) (B:=B) (D:=D) (T:=T) (b:=b) (m:=m) (t:=t)
 rw[Er (rV hl m)] at e1
 have e2:=AbK (o:=o) (pt:=pt) (R:=R) (G:=G) (B:=B) (D:=D) (T:=T) (b:=b) (t:=t) (ZE hl m).1 (ZE hl m).2
 rw[Er (rW hl m),Er (rZ hl m)] at e2
 have e3:=AbL (o:=o) (pt:=pt) (L:=A1 l) (R:=R) (G:=G) (B:=B) (D:=D) (b:=b) (m:=m) (d0:=FN l m 0) (d1:=FN l m 1) (d2:=FN l m 2) (d3:=FN l m 3) (d4:=FN l m 4) (d5:=FN l m 5) (d6:=FN l m 6) hT
 rw[show[(FN l m 0:Int),FN l m 1,FN l m 2,FN l m 3,FN l m 4,FN l m 5,FN l m 6].map fg=[(Ky l m 0:Int),Ky l m 1,Ky l m 2,Ky l m 3,Ky l m 4,Ky l m 5,Ky l m 6] from P7 (P0 hl m 0) (P7 (P0 hl m 1) (P7 (P0 hl m 2) (P7 (P0 hl m 3) (P7 (P0 hl m 4) (P7 (P0 hl m 5) (P7 (P0 hl m 6) rfl)))))),<-(hO hl m).1] at e3
 exact(Ak ⋯ e1).trans ((Ak ⋯ e2).trans ((Ak ⋯ e3).trans ⋯))
theorem Hw(hT:T.length<=1000)(h1:Src.at H m (.loc 14)=some (some (.lst [.int (A1 l m 0),.int (A1 l m 1),.int (A1 l m 2)])))(h2:Ju (Au E6 24 0) (K8 (Nl (A1 l)) (Nl (A1 l)*Es) t) ⟨H,b⟩ (BV (Nk 4)) (.lst [.int (A1 l m 0),.int (A1 l m 1),.int (A1 l m 2)])=some ⟨K8 (Nl (A1 l)) (Nl (A1 l)*Es) t,⟨TP o pt (A1 l) R G B D m T,b⟩⟩):
  forL (ev 115) (Au E6 24 0) (.loc 14) (BV (Nk 4)) (B3 (Nk 4)) (k+1) m (K8 (Nl (A1 l)) (Nl (A1 l)*Es) t) ⟨H,b⟩=forL (ev 115) (Au E6 24 0) (.loc 14) (BV (Nk 4)) (B3 (Nk 4)) k (m+1) (Hv (A1 l) m (Vh 147 (XF (A1 l) m))) ⟨TP o pt (A1 l) R G B D m (T++[M6 l m]),b⟩:=
 B0 h1 h2 (r4 hl hT)
theorem xJ:(ev 116).X (Au E6 24 0) (K8 (Nl (A1 l)) (Nl (A1 l)*Es) none) ⟨Gs o pt (A1 l) R G B D++[.cell (some (.int K7)),.cell none,.list []],b⟩ (Nk 4)=some ⟨.next,Hv (A1 l) 6 (Vh 147 (XF (A1 l) 6)),⟨TP o pt (A1 l) R G B D 6 (oJ l),b⟩⟩:=
 Qp (S1:=⟨Gs o pt (A1 l) R G B D++[.cell (some (.int K7)),.cell none,.list []],b⟩) ⋯ ⋯ ⋯ ((Hw hl (T:=[]) (o:=o) (pt:=pt) (R:=R) (G:=G) (B:=B) (D:=D) (Bm rfl) ⋯ ⋯).trans
  ((Hw hl (T:=[M6 l 0]) (o:=o) (pt:=pt) (R:=R) (G:=G) (B:=B) (D:=D) (Bm rfl) ⋯ ⋯).trans ((Hw hl (t:=some (oE (A1 l) 1,.lst (EA (Vh 147 (XF (A1 l) 1))))) (m:=2) (k:=77) (T:=[M6 l 0,M6 l 1]) (o:=o) (pt:=pt) (R:=R) (G:=G) (B:=B) (D:=D) (Bm rfl) ⋯ ⋯).trans
  ((Hw hl (t:=some (oE (A1 l) 2,.lst (EA (Vh 147 (XF (A1 l) 2))))) (m:=3) (k:=76) (T:=[M6 l 0,M6 l 1,M6 l 2]) (o:=o) (pt:=pt) (R:=R) (G:=G) (B:=B) (D:=D) (Bm rfl) ⋯ ⋯).trans ((Hw hl (t:=some (oE (A1 l) 3,.lst (EA (Vh 147 (XF (A1 l) 3))))) (m:=4) (k:=75) (T:=[M6 l 0,M6 l 1,M6 l 2,M6 l 3]) (o:=o) (pt:=pt) (R:=R) (G:=G) (B:=B) (D:=D) (Bm rfl) ⋯ ⋯).trans
  ((Hw hl (t:=some (oE (A1 l) 4,.lst (EA (Vh 147 (XF (A1 l) 4))))) (m:=5) (k:=74) (T:=[M6 l 0,M6 l 1,M6 l 2,M6 l 3,M6 l 4]) (o:=o) (pt:=pt) (R:=R) (G:=G) (B:=B) (D:=D) (Bm rfl) ⋯ ⋯).trans ((Hw hl (t:=some (oE (A1 l) 5,.lst (EA (Vh 147 (XF (A1 l) 5))))) (m:=6) (k:=73) (T:=[M6 l 0,M6 l 1,M6 l 2,M6 l 3,M6 l 4,M6 l 5]) (o:=o) (pt:=pt) (R:=R) (G:=G) (B:=B) (D:=D) (Bm rfl) ⋯ ⋯).trans ⋯)))))))
theorem xK:A9 (ev 116) 0 (.val (.ref 284)) [.loc 14] [] ⟨Gs o pt (A1 l) R G B D,b⟩=some ⟨.lst (oJ l),⟨Gs o pt (A1 l) R G B D,b⟩⟩:=by
 refine(show A9 (ev 116) 0 (.val (.ref 284)) [.loc 14] [] ⟨Gs o pt (A1 l) R G B D,b⟩=CM (ev 116) E6 [.loc 14] [] 0 ⟨Gs o pt (A1 l) R G B D,b⟩ from ⋯).trans ?_
 refine X7 (n:=24) (binds:=[("lights",.loc 14)]) (lo:=[("lights",.loc 14)]) (Bv:=Hv (A1 l) 6 (Vh 147 (XF (A1 l) 6))) (fl:=.ret (.loc 26)) (S1:=⟨Gs o pt (A1 l) R G B D++[.cell none,.cell none],b⟩) (S2:=⟨TP o pt (A1 l) R G B D 6 (oJ l),b⟩) ⋯ ⋯ ⋯ ⋯ ⋯ ?_ rfl ⋯
 have a:=AbI (o:=o) (pt:=pt) (L:=A1 l) (R:=R) (G:=G) (B:=B) (D:=D) (b:=b)
 rw[Er (rU hl)] at a
 have z:Xs (ev 116) (Au E6 24 0) (K8 (Nl (A1 l)) (Nl (A1 l)*Es) none) ⟨Gs o pt (A1 l) R G B D++[.cell (some (.int K7)),.cell none,.list []],b⟩ ((E8 E6.body).drop 4)=some ⟨.ret (.loc 26),Hv (A1 l) 6 (Vh 147 (XF (A1 l) 6)),⟨TP o pt (A1 l) R G B D 6 (oJ l),b⟩⟩:=by
  refine(Ak ⋯ (xJ hl)).trans ?_
  kernel_rfl
 refine Hd ?_ ((Ja a).trans z)
 rw[H5]
end
def ie(v:Nat->AV)(l:B8)(R G B:List Nat):Lo:=A8 (Ti v (rN B) (.lst (Di (A1 l) 2 B)) (.lst (Di (A1 l) 0 R)) (some (.int (A1 l 6 0),.int (A1 l 6 1),.int (A1 l 6 2))) (some (.int (cG (A1 l) G (A1 l 6 1))))) [("table",.lst (oJ l))]
theorem X24{l:B8}(hl:∀p k,l p k<=63):
  (ev 118).X A6 (Ti v (rN B) (.lst (Di (A1 l) 2 B)) (.lst (Di (A1 l) 0 R)) (some (.int (A1 l 6 0),.int (A1 l 6 1),.int (A1 l 6 2))) (some (.int (cG (A1 l) G (A1 l 6 1))))) ⟨Gs o pt (A1 l) R G B D,b⟩ (Bb Ck 24)=some ⟨.next,ie v l R G B,⟨Gs o pt (A1 l) R G B D,b⟩⟩:=
 (oI ⋯ ⋯ ⋯ ⋯ ⋯ ⋯ ((CH (S1:=⟨Gs o pt (A1 l) R G B D,b⟩) (S2:=⟨Gs o pt (A1 l) R G B D,b⟩) ⋯ ⋯ ⋯ ⋯ ⋯ ⋯).trans (xK hl))).trans ⋯
end
section
variable{n:Nat}{fr:FD}{lo lo1:Lo}{S S1 S2:St}
theorem ig(h:e=.Compare (E4 e) [gN e] [Eb e] (Jx e))(hn:Gp (Eb e)=true)(h1:(ev n).E fr lo S (E4 e)=some ⟨v1,S1⟩)(h2:(ev n).E fr lo S1 (Eb e)=some ⟨v2,S2⟩)(o:G9)(ho:gN e=o)(h3:Gz o v1 v2 S2=some b):(ev (n+1)).E fr lo S e=some ⟨.bool b,S2⟩:=
 (Ai ((ev (n+1)).E fr lo S) h).trans ((Ai (λz:Ab (Rt AV)=>z.bind λx=>(Ua (ev n) fr lo x (gN e) (Eb e)).bind λy=>some (⟨.bool y.v.2,y.S⟩ :Rt AV)) h1).trans ((Ai (λz:Aa=>(Af z (((ev n).E fr lo S1 (Eb e)).bind λy=>(Gz (gN e) v1 y.v y.S).bind λt=>some (⟨(y.v,t),y.S⟩ :Rt (AV×Aa)))).bind λy=>some (⟨.bool y.v.2,y.S⟩ :Rt AV)) hn).trans
  ((Ai (λz:Ab (Rt AV)=>(z.bind λy=>(Gz (gN e) v1 y.v y.S).bind λt=>some (⟨(y.v,t),y.S⟩ :Rt (AV×Aa))).bind λy=>some (⟨.bool y.v.2,y.S⟩ :Rt AV)) h2).trans (Ai (λz:Ab Aa=>(z.bind λt=>some (⟨(v2,t),S2⟩ :Rt (AV×Aa))).bind λy=>some (⟨.bool y.v.2,y.S⟩ :Rt AV)) (ho▸h3)))))
theorem TOr(h:e=.BoolOp .Or [CA (C0 e) 0,CA (C0 e) 1] (Jx e))(h1:(ev (n+2)).T fr lo S (CA (C0 e) 0)=some ⟨false,S1⟩)(h2:(ev (n+1)).T fr lo S1 (CA (C0 e) 1)=some ⟨false,S2⟩):(ev (n+3)).T fr lo S e=some ⟨false,S2⟩:=
 (Ai ((ev (n+3)).T fr lo S) h).trans ((Ai (λo:Ab (Rt Aa)=>o.bind λx=>cond x.v (some x) ((ev (n+2)).T fr lo x.S (.BoolOp .Or [CA (C0 e) 1] (Jx e)))) h1).trans (Ai (λo:Ab (Rt Aa)=>o.bind λx=>cond x.v (some x) ((ev (n+1)).T fr lo x.S (.BoolOp .Or [] (Jx e)))) h2))
theorem lW(h:e=.Call (.Name (fnX e) (Jx (E4 e))) (C0 e) (U9 e) (Jx e))(hs:Hi fr (fnX e) (C0 e) (U9 e)=some e')(h1:(ev n).E fr lo S e'=some ⟨v,S1⟩)(hv:DP S1.H v=some xs)(hi:Nc xs []=some is)(hn:xs.length<1000):(ev (n+1)).E fr lo S e=some ⟨.int is.length,S1⟩:=
 (Ai ((ev (n+1)).E fr lo S) h).trans ((Ai (λz:Ab Expr=>(match z with
  |some e=>((ev n).E fr lo S e).bind KL
  |none=>Af (noStar 200 (C0 e)) ((nameA fr lo S (fnX e)).bind λf=>(Jh (ev n) fr lo S (C0 e)).bind λvs=>(Sw (ev n) fr lo vs.S (U9 e)).bind λkv=>A9 (ev n) fr.wr f vs.v kv.v kv.S):Ab (Rt AV))) hs).trans
  ((Ai (λo:Ab (Rt AV)=>o.bind KL) h1).trans ((Ai (λo:Ab (List AV)=>o.bind λxs=>(Nc xs []).bind λis=>Af (decide (xs.length<1000)) (some (⟨.int is.length,S1⟩ :Rt AV))) hv).trans
   ((Ai (λo:Ab (List Int)=>o.bind λis=>Af (decide (xs.length<1000)) (some (⟨.int is.length,S1⟩ :Rt AV))) hi).trans (Ai (λz=>Af z (some (⟨.int is.length,S1⟩ :Rt AV))) (AU hn))))))
noncomputable def ij:AV->Aa | .str _=>false | .tup _=>false | _=>true
theorem r5{i:Nat}(h:e=.Subscript (E4 e) (Eb e) (Jx e))(hs:Fv (Eb e)=some (some el,none,none))(h1:(ev n).E fr lo S (E4 e)=some ⟨x,S1⟩)(h2:(ev n).E fr lo S1 el=some ⟨.int i,S2⟩)(hx:ij x=true)(hq:Qu S2.H x=some xs)(hn:xs.length<1000)(hi:i<=xs.length):(ev (n+1)).E fr lo S e=some ⟨.lst (xs.drop i),S2⟩:=by
 refine(Ai ((ev (n+1)).E fr lo S) h).trans ?_
 show aj (ev n) fr lo S (E4 e) (Eb e)=_
 unfold aj
 rw[h1,hs]
 show(((ev n).E fr lo S1 el).bind λx=>(intOf x.v).bind λi=>some (⟨some i,x.S⟩ :Rt (Ab Int))).bind (λl=>Xc l.S x l.v none)=_
 rw[h2]
 have hc:OQ xs (some (i:Int)) none=xs.drop i:=by
  show(xs.drop (DF xs.length (i:Int))).take (xs.length-DF xs.length (i:Int))=xs.drop i
  rw[show DF xs.length (i:Int)=i from by unfold DF;lia]
  exact V9 (by rw[Rj];exact(pw [] (.l (.S .p .q) (.S .p .q)) [] [_,_]))
 have k:(Qu S2.H x).bind (λxs=>Af (decide (xs.length<100000)) (some (⟨.lst (OQ xs (some (i:Int)) none),S2⟩ :Rt AV)))=some ⟨.lst (xs.drop i),S2⟩:=by
  rw[hq]
  show Af (decide (xs.length<100000)) (some (⟨.lst (OQ xs (some (i:Int)) none),S2⟩ :Rt AV))=_
  rw[AU (show xs.length<100000 by exact(pw [.t .p (.k 1000)] (.t .p (.k 100000)) [] [_]) hn),hc]
  rfl
 cases x<;>first | exact k | exact VV hx
theorem AbO(hw:wr<=A)(hA:H[A]?=some (.list xs))(hp:DP H p=some ys)(hn:xs.length+ys.length<=1000):IL r wr (.bi .extend) (.loc A) [p] ⟨H,b⟩=some ⟨.none,⟨H.set A (.list (xs++ys)),b⟩⟩:=
 (Ai (λo:Ab AO=>(o.bind CW).bind λxs=>(DP H p).bind λys=>Af (Bf (xs.length+ys.length) 1000) (HH wr ⟨H,b⟩ A (.list (xs++ys)))) hA).trans ((Ai (λo:Ab (List AV)=>o.bind λys=>Af (Bf (xs.length+ys.length) 1000) (HH wr ⟨H,b⟩ A (.list (xs++ys)))) hp).trans
  ((Ai (λz=>Af z (HH wr ⟨H,b⟩ A (.list (xs++ys)))) (JS hn)).trans (Ai (λz=>(Af z (some ((⟨H,b⟩ :St).on (H.set A (.list (xs++ys)))))).bind λS'=>some (⟨.none,S'⟩ :Rt AV)) (JS hw))))
theorem xM(h:(T5 e).bind (λp=>Af (bz fr p.1 "zip") (some p.2))=some as)(hn:noStar 8 as=true)(h1:Jh (ev n) fr lo S as=some ⟨vs,⟨H,b⟩⟩)(hl:(Bf 2 vs.length&&Bf vs.length 3)=true)(hs:Gn (OW ⟨H,b⟩) vs=some ss):FU (ev n) fr lo S e=some ⟨.zip H.length ss,⟨H++[.raw vs.length],b⟩⟩:=by
 unfold FU
 rw[h]
 show Af (noStar 8 as) ((Jh (ev n) fr lo S as).bind λx=>Af (Bf 2 x.v.length&&Bf x.v.length 3) ((Gn (OW x.S) x.v).bind λss=>some (⟨.zip x.S.H.length ss,x.S.on (x.S.H++[.raw x.v.length])⟩ :Rt Src)))=_
 rw[hn,h1]
 show Af (Bf 2 vs.length&&Bf vs.length 3) ((Gn (OW ⟨H,b⟩) vs).bind λss=>some (⟨.zip H.length ss,⟨H++[.raw vs.length],b⟩⟩ :Rt Src))=_
 rw[hl,hs]
 rfl
theorem tW(hr:H[l]?=some (.raw k))(hk:k=ss.length)(ha:Src.jb H i ss=some o):Src.at H i (.zip l ss)=some (o.bind λvs=>some (.tup vs)):=by
 show((H[l]?).bind jA).bind (λk=>Af (Aw k ss.length) ((Src.jb H i ss).bind λo=>some (o.bind λvs=>some (AV.tup vs))))=_
 rw[hr]
 show Af (Aw k ss.length) ((Src.jb H i ss).bind λo=>some (o.bind λvs=>some (AV.tup vs)))=_
 rw[hk,Ib,ha]
 rfl
end
noncomputable def lX(x:Str)(o:Ab AV):Lo:=o.elim [] λv=>[(x,v)]
def Hx(v:Nat->AV)(l:B8)(R G B:List Nat)(s:Nat)(o1 se:Ab AV)(li:Ab (AV×AV×AV))(it:Ab AV):Lo:=
 A8 (ie v l R G B) (("second",.int s)::A8 (lX "one" o1) (A8 (lX "seen" se) (A8 (li.elim [] λt=>[("line",t.1),("here",t.2.1),("there",t.2.2)]) (lX "is_tied" it))))
def Nq:Az:=Bb Ck 25
def Vk:Az:=Bb (B3 Nq) 1
def ib(i:Nat):Az:=Bb (B3 Vk) i
def zs:List Expr:=C0 (Cm (ib 1))
def xN:Az:=NF (B3 (ib 1))
def oK:Expr:=CA (C0 (Cm xN)) 0
def oL:Expr:=((Fv (Eb oK)).bind λt=>t.1).getD e0
def HZ(o:Nat->AO)(pt:AO)(l:B8)(R G B:List Nat)(Z:List AO):List AO:=Gs o pt (A1 l) R G B (rO (A1 l) R G B)++Z
noncomputable def HY(H:List AO)(xs:List AV):List AO:=(H++[.list xs])++[.raw 3]
theorem at1:(HY H xs)[H.length]?=some (.list xs):=by
 unfold HY
 rw[Rc (by rw[BP];exact CF _)] at ⊢
 exact K1 H _
theorem at2:(HY H xs)[(H++[AO.list xs]).length]?=some (.raw 3):=K1 _ _
theorem AbQ:(HY H xs).set H.length (.list ys)=HY H ys:=by
 unfold HY
 rw[List.set_append_left _ _ (by rw[BP];exact CF _),Vf]
def bhA(l:B8)(R G B:List Nat)(m:Nat):AV:=bh (A1 l) R G B m
def xO(l:B8)(R G B:List Nat)(p q:Nat):List Src:=[.lst [.loc 20,.loc 21,.lst (CP B)],.lst [.int (cR (A1 l) R (A1 l p 0)),.int (cG (A1 l) G (A1 l p 1)),.int (cB (A1 l) B (A1 l p 2))],.lst [.int (cR (A1 l) R (A1 l q 0)),.int (cG (A1 l) G (A1 l q 1)),.int (cB (A1 l) B (A1 l q 2))]]
section
variable{o:Nat->AO}{pt:AO}{l:B8}{R G B:List Nat}{Z:List AO}{b:Aa}{v:Nat->AV}{s p:Nat}
theorem b0{g:Ab (AV×(AV×AV×AV)×AV)}:(ev 116).X A6 (Hx v l R G B s (some (.int p)) (g.map (·.1)) (g.map (·.2.1)) (g.map (·.2.2))) ⟨HZ o pt l R G B Z,b⟩ (ib 0)=some ⟨.next,Hx v l R G B s (some (.int p)) (some (.loc (HZ o pt l R G B Z).length)) (g.map (·.2.1)) (g.map (·.2.2)),⟨HZ o pt l R G B Z++[.list [.int p,.int s]],b⟩⟩:=by cases g<;>kernel_rfl
theorem iq:∀p,p<7->(rO (A1 l) R G B)[p]?=some (bhA l R G B p):=VG rfl rfl rfl rfl rfl rfl rfl
theorem xP{x y:AV}(hp:p<7)(hs:s<7):Jh (ev 115) A6 (Hx v l R G B s (some (.int p)) se li it) ⟨HZ o pt l R G B Z++Y,b⟩ zs=some ⟨[rN B,bhA l R G B p,bhA l R G B s],⟨HZ o pt l R G B Z++Y,b⟩⟩:=
 CB (S1:=⟨HZ o pt l R G B Z++Y,b⟩) ⋯ ⋯ (CB (S1:=⟨HZ o pt l R G B Z++Y,b⟩) ⋯
  (Td (S1:=⟨HZ o pt l R G B Z++Y,b⟩) ⋯ ⋯ ⋯ ⋯ (Jq (A:=23) rfl (iq p hp) (Bm rfl)))
  (Dg ⋯ (Td (S1:=⟨HZ o pt l R G B Z++Y,b⟩) ⋯ ⋯ ⋯ ⋯ (Jq (A:=23) rfl (iq s hs) (Bm rfl)))))
theorem xQ{c1 c2:Nat}(hx:ij w=true)(hq:Qu (HY H xs) w=some W)(hW:W.length=7)(hc1:c1<=7)(hc2:c2<=7)(hxs:xs.length<900):
  Xs (ev 115) A6 (Hx v l R G B s (some (.int p)) (some (.loc H.length)) (some (w,.int c1,.int c2)) it) ⟨HY H xs,b⟩ (B3 (ib 1))=some ⟨.next,Hx v l R G B s (some (.int p)) (some (.loc H.length)) (some (w,.int c1,.int c2)) it,⟨HY H (xs++W.drop (max c1 c2)),b⟩⟩:=by
 have TN:W.length<1000:=CE (Bn hW) ⋯
 have k2:=AA (Nat.max_le.mpr ⟨hc1,hc2⟩) (Bn hW.symm)
 have k3:xs.length+(W.drop (max c1 c2)).length<=1000:=AA (B5 (DX hxs) (AA (Bn Rj) (AA (Nat.sub_le _ _) (Bn hW)))) ⋯
 have e1:(ev 112).E A6 (Hx v l R G B s (some (.int p)) (some (.loc H.length)) (some (w,.int c1,.int c2)) it) ⟨HY H xs,b⟩ oL=some ⟨.int (max c1 c2:Nat),⟨HY H xs,b⟩⟩:=
  (show _=some (⟨.int (mx c1 c2),⟨HY H xs,b⟩⟩ :Rt AV) from ⋯).trans (by rw[P6])
 have e2:(ev 113).E A6 (Hx v l R G B s (some (.int p)) (some (.loc H.length)) (some (w,.int c1,.int c2)) it) ⟨HY H xs,b⟩ oK=some ⟨.lst (W.drop (max c1 c2)),⟨HY H xs,b⟩⟩:=by
  refine r5 (el:=oL) (x:=w) (S1:=⟨HY H xs,b⟩) ?_ ?_ ?_ ?_ ?_ ?_ ?_ ?_
  ·kernel_rfl
  ·kernel_rfl
  ·kernel_rfl
  ·exact e1
  ·exact hx
  ·exact hq
  ·exact TN
  ·exact k2
 have e3:=AbO (r:=ev 113) (A:=H.length) (b:=b) (p:=.lst (W.drop (max c1 c2))) (Co _) at1 rfl k3
 rw[AbQ] at e3
 have g:OU ⟨HY H xs,b⟩ (.loc H.length) "extend" =some (.bi .extend):=by
  show((HY H xs)[H.length]?).bind (Qx ⟨HY H xs,b⟩ "extend")=_
  rw[at1]
  kernel_rfl
 have e4:(ev 114).E A6 (Hx v l R G B s (some (.int p)) (some (.loc H.length)) (some (w,.int c1,.int c2)) it) ⟨HY H xs,b⟩ (Cm xN)=some ⟨.none,⟨HY H (xs++W.drop (max c1 c2)),b⟩⟩:=by
  refine(I8 ?_ ?_ ?_ ?_ ?_ "extend" ?_ g (Dg ?_ e2)).trans e3<;>kernel_rfl
 exact(Ak ⋯ (Qo ⋯ ⋯ e4)).trans ⋯
theorem X8{c1 c2:Nat}(ha:Src.jb (HY H xs) i (xO l R G B p s)=some (some [w,.int c1,.int c2]))
  (ht:Ju A6 (Hx v l R G B s (some (.int p)) (some (.loc H.length)) li it) ⟨HY H xs,b⟩ (BV (ib 1)) (.tup [w,.int c1,.int c2])=some ⟨Hx v l R G B s (some (.int p)) (some (.loc H.length)) (some (w,.int c1,.int c2)) it,⟨HY H xs,b⟩⟩)
  (hx:ij w=true)(hq:Qu (HY H xs) w=some W)(hW:W.length=7)(hc1:c1<=7)(hc2:c2<=7)(hxs:xs.length<900)(hz:q=(H++[AO.list xs]).length):
  forL (ev 115) A6 (.zip q (xO l R G B p s)) (BV (ib 1)) (B3 (ib 1)) (k+1) i (Hx v l R G B s (some (.int p)) (some (.loc H.length)) li it) ⟨HY H xs,b⟩=
  forL (ev 115) A6 (.zip q (xO l R G B p s)) (BV (ib 1)) (B3 (ib 1)) k (i+1) (Hx v l R G B s (some (.int p)) (some (.loc H.length)) (some (w,.int c1,.int c2)) it) ⟨HY H (xs++W.drop (max c1 c2)),b⟩:=
 B0 (tW (hz▸at2) rfl ha) ht (xQ hx hq hW hc1 hc2 hxs)
end
theorem NH{lo:Lo}(h:src.at S.H i=some none):forL r fr src t body (k+1) i lo S=some ⟨.next,lo,S⟩:=
 Ai (λo:Ab (Ab AV)=>o.bind λo=>(match o with
  |none=>some ⟨.next,lo,S⟩
  |some v=>(Ju fr lo S t v).bind λp=>(Xs r fr p.v p.S body).bind λx=>cond x.fl.GB (forL r fr src t body k (i+1) x.lo x.S) (some x):Ab Rx)) h
noncomputable def HX(H:List AO)(xs:List AV):List AO:=H++[.list xs]
noncomputable def Jb(p s:Nat):List AV:=[.int p,.int s]
def Vl(w:List Nat)(a c:Nat):List AV:=(CP w).drop (max a c)
section
variable{o:Nat->AO}{pt:AO}{l:B8}{R G B:List Nat}{Z:List AO}{b:Aa}{v:Nat->AV}{s p:Nat}
def k0(l:B8)(R:List Nat)(p:Nat):Nat:=cR (A1 l) R (A1 l p 0)
noncomputable def TN(l:B8)(R:List Nat)(p:Nat):Nat:=cG (A1 l) R (A1 l p 1)
def k2(l:B8)(R:List Nat)(p:Nat):Nat:=cB (A1 l) R (A1 l p 2)
def ZG(l:B8)(R:List Nat)(p s:Nat):List AV:=Jb p s++Vl R (k0 l R p) (k0 l R s)
def ZH(l:B8)(R G:List Nat)(p s:Nat):List AV:=ZG l R p s++Vl G (TN l G p) (TN l G s)
def Lc(l:B8)(R G B:List Nat)(p s:Nat):List AV:=ZH l R G p s++Vl B (k2 l B p) (k2 l B s)
theorem GN(h:w.length=7):(Vl w a c).length<=7:=AA (Bn Rj) (AA (Nat.sub_le _ _) (Bn ((AY ..).trans h)))
theorem Ld{xs ys:List AV}(h:xs.length<=a)(g:ys.length<=7):(xs++ys).length<=a+7:=AA (Bn BP) (B5 h g)
theorem r6{g:Ab (AV×(AV×AV×AV)×AV)}(hp:p<7)(hs:s<7):FU (ev 115) A6 (Hx v l R G B s (some (.int p)) (some (.loc (HZ o pt l R G B Z).length)) (g.map (·.2.1)) (g.map (·.2.2))) ⟨HX (HZ o pt l R G B Z) (Jb p s),b⟩ (Cm (ib 1))=some ⟨.zip (HX (HZ o pt l R G B Z) (Jb p s)).length (xO l R G B p s),⟨HY (HZ o pt l R G B Z) (Jb p s),b⟩⟩:=
 xM ⋯ ⋯ (xP (x:=.none) (y:=.none) hp hs) ⋯ ⋯
theorem b1{g:Ab (AV×(AV×AV×AV)×AV)}(W:lS (A1 l) R G B)(hp:p<7)(hs:s<7):(ev 116).X A6 (Hx v l R G B s (some (.int p)) (some (.loc (HZ o pt l R G B Z).length)) (g.map (·.2.1)) (g.map (·.2.2))) ⟨HX (HZ o pt l R G B Z) (Jb p s),b⟩ (ib 1)=
  some ⟨.next,Hx v l R G B s (some (.int p)) (some (.loc (HZ o pt l R G B Z).length)) (some (.lst (CP B),.int (k2 l B p),.int (k2 l B s))) (g.map (·.2.2)),⟨HY (HZ o pt l R G B Z) (Lc l R G B p s),b⟩⟩:=by
 refine Qp ⋯ (r6 hp hs) ⋯ ?_
 have c7:∀(P:Nat->Aa)(w:List Nat),w.length=7->cnt P w<=7:=λP w h=>h▸Hr w
 have hl:∀xs:List AV,(HX (HZ o pt l R G B Z) (Jb p s)).length=(HZ o pt l R G B Z++[AO.list xs]).length:=λxs=>by unfold HX;rw[BP,BP] at ⊢;rfl
 have r0:=X8 (v:=v) (l:=l) (R:=R) (G:=G) (B:=B) (s:=s) (p:=p) (b:=b) (k:=79) (i:=0) (w:=.loc 20) (c1:=k0 l R p) (c2:=k0 l R s) (W:=CP R) (xs:=Jb p s) (li:=g.map (·.2.1)) (it:=g.map (·.2.2)) ⋯ (by cases g<;>kernel_rfl) rfl ⋯ ((AY ..).trans W.lr) (c7 _ _ W.lr) (c7 _ _ W.lr) (CE (m:=2) (AP _) ⋯) (hl _)
 have l1:(ZG l R p s).length<=9:=Ld (xs:=Jb p s) (a:=2) (AP _) (GN W.lr)
 have l2:(ZH l R G p s).length<=16:=Ld (a:=9) l1 (GN W.lg)
 have r1:=X8 (H:=HZ o pt l R G B Z) (v:=v) (l:=l) (R:=R) (G:=G) (B:=B) (s:=s) (p:=p) (b:=b) (k:=78) (i:=1) (q:=(HX (HZ o pt l R G B Z) (Jb p s)).length) (w:=.loc 21) (c1:=TN l G p) (c2:=TN l G s) (W:=CP G) (xs:=ZG l R p s) (li:=some (.loc 20,.int (k0 l R p),.int (k0 l R s))) (it:=g.map (·.2.2)) ⋯ (by cases g<;>kernel_rfl) rfl ⋯ ((AY ..).trans W.lg) (c7 _ _ W.lg) (c7 _ _ W.lg) (CE l1 ⋯) (hl _)
 have r2:=X8 (H:=HZ o pt l R G B Z) (v:=v) (l:=l) (R:=R) (G:=G) (B:=B) (s:=s) (p:=p) (b:=b) (k:=77) (i:=2) (q:=(HX (HZ o pt l R G B Z) (Jb p s)).length) (w:=.lst (CP B)) (c1:=k2 l B p) (c2:=k2 l B s) (W:=CP B) (xs:=ZH l R G p s) (li:=some (.loc 21,.int (TN l G p),.int (TN l G s))) (it:=g.map (·.2.2)) ⋯ (by cases g<;>kernel_rfl) rfl ⋯ ((AY ..).trans W.lb) (c7 _ _ W.lb) (c7 _ _ W.lb) (CE l2 ⋯) (hl _)
 refine r0.trans (r1.trans (r2.trans ?_))
 have e:Src.at (HY (HZ o pt l R G B Z) (Lc l R G B p s)) 3 (.zip (HX (HZ o pt l R G B Z) (Jb p s)).length (xO l R G B p s))=some none:=tW (k:=3) (o:=none) ((hl (Lc l R G B p s))▸at2) rfl ⋯
 exact NH e
end
section
variable{o:Nat->AO}{pt:AO}{l:B8}{R G B:List Nat}{Z:List AO}{b:Aa}{v:Nat->AV}{s p:Nat}
abbrev liA(l:B8)(B:List Nat)(p s:Nat):AV×AV×AV:=(.lst (CP B),.int (k2 l B p),.int (k2 l B s))
def ZI(v:Nat->AV)(l:B8)(R G B:List Nat)(s p N:Nat)(it:Ab AV):Lo:=Hx v l R G B s (some (.int p)) (some (.loc N)) (some (liA l B p s)) it
theorem b2(ho:o 19=.list TI)(hT:∀H,ja H (.tup [.int p,.int s]) TI=some t):
  (ev 116).X A6 (ZI v l R G B s p (HZ o pt l R G B Z).length it) ⟨HY (HZ o pt l R G B Z) xs,b⟩ (ib 2)=some ⟨.next,ZI v l R G B s p (HZ o pt l R G B Z).length (some (.bool t)),⟨HY (HZ o pt l R G B Z) xs,b⟩⟩:=by
 have c:=
  (rfl).trans ((Ai (λz:AO=>(CW z).bind λys=>ja (HY (HZ o pt l R G B Z) xs) (.tup [.int p,.int s]) ys) ho).trans (hT _))
 have e:(ev 115).E A6 (ZI v l R G B s p (HZ o pt l R G B Z).length it) ⟨HY (HZ o pt l R G B Z) xs,b⟩ (Cm (ib 2))=some ⟨.bool t,⟨HY (HZ o pt l R G B Z) xs,b⟩⟩:=
  ig (v1:=.tup [.int p,.int s]) (v2:=.loc 19) (S1:=⟨HY (HZ o pt l R G B Z) xs,b⟩) ⋯ ⋯ ⋯ ⋯ .In ⋯ c
 refine(Ni ⋯ ⋯ e).trans ?_
 cases it<;>kernel_rfl
theorem ir:∀p,p<7->(oJ l)[p]?=some (M6 l p):=VG rfl rfl rfl rfl rfl rfl rfl
theorem r7:∀s,s<7->([0,1,2,3,4,5,6].map λj=>AV.int (Ky l p j))[s]?=some (.int (Ky l p s)):=VG rfl rfl rfl rfl rfl rfl rfl
theorem lY{k a c:Nat}{lo:Lo}(ha:a<7)(hc:c<7)(h:e=.Subscript (E4 e) (Eb e) (Jx e))(hs:Fv (Eb e)=none)(h':E4 e=.Subscript (E4 (E4 e)) (Eb (E4 e)) (Jx (E4 e)))(nT:Fv (Eb (E4 e))=none)
  (h1:(ev k).E A6 lo ⟨H,b⟩ (E4 (E4 e))=some ⟨.lst (oJ l),⟨H,b⟩⟩)(h2:(ev k).E A6 lo ⟨H,b⟩ (Eb (E4 e))=some ⟨.int a,⟨H,b⟩⟩)(h3:(ev (k+1)).E A6 lo ⟨H,b⟩ (Eb e)=some ⟨.int c,⟨H,b⟩⟩):
  (ev (k+2)).E A6 lo ⟨H,b⟩ e=some ⟨.int (Ky l a c),⟨H,b⟩⟩:=
 Td h hs (Td h' nT h1 h2 (MF (ir a ha) (Bm rfl))) h3 (MF (r7 c hc) (Bm rfl))
theorem Vm:Gz .NotEq (.bool t) (.bool t) S=some false:=by cases t<;>rfl
def a3(i:Nat):Expr:=CA (C0 (BV (ib 3))) i
theorem b3{t:Aa}{is:List Int}(hp:p<7)(hs:s<7)(hn:Nc xs []=some is)(h7:decide ((is.length:Int)=7)=t)(h2:decide ((Ky l p s:Int)=2)=t)(hx:xs.length<1000):
  (ev 116).X A6 (ZI v l R G B s p H.length (some (.bool t))) ⟨HY H xs,b⟩ (ib 3)=some ⟨.next,ZI v l R G B s p H.length (some (.bool t)),⟨HY H xs,b⟩⟩:=by
 have eS:(ev 112).E A6 (ZI v l R G B s p H.length (some (.bool t))) ⟨HY H xs,b⟩ (E4 (Eb (a3 0)))=some ⟨.int is.length,⟨HY H xs,b⟩⟩:=
  lW (e':=CA (C0 (CA (C0 (E4 (Eb (a3 0)))) 0)) 0) (v:=.loc H.length) ⋯ ⋯ ⋯ (Ai (λz:Ab AO=>z.bind CW) at1) hn hx
 have eC:(ev 113).E A6 (ZI v l R G B s p H.length (some (.bool t))) ⟨HY H xs,b⟩ (Eb (a3 0))=some ⟨.bool t,⟨HY H xs,b⟩⟩:=
  ig (v2:=.int 7) ⋯ ⋯ eS ⋯ .Eq ⋯ (Ai some h7)
 have t1:(ev 114).T A6 (ZI v l R G B s p H.length (some (.bool t))) ⟨HY H xs,b⟩ (a3 0)=some ⟨false,⟨HY H xs,b⟩⟩:=
  KZ ⋯ ⋯ ⋯ eC .NotEq ⋯ Vm
 have eD:(ev 112).E A6 (ZI v l R G B s p H.length (some (.bool t))) ⟨HY H xs,b⟩ (Eb (a3 1))=some ⟨.bool t,⟨HY H xs,b⟩⟩:=
  ig (v2:=.int 2) ⋯ ⋯ (lY hp hs ⋯ ⋯ ⋯ ⋯ ⋯ ⋯ ⋯) ⋯ .Eq ⋯ (Ai some h2)
 have t2:(ev 113).T A6 (ZI v l R G B s p H.length (some (.bool t))) ⟨HY H xs,b⟩ (a3 1)=some ⟨false,⟨HY H xs,b⟩⟩:=
  KZ ⋯ ⋯ ⋯ eD .NotEq ⋯ Vm
 exact(KY ⋯ (TOr ⋯ t1 t2)).trans ⋯
theorem b4{t:Aa}{H:List AO}(hp:p<7)(hs:s<7)(h2:Ky l p s=Ky l s p):
  (ev 116).X A6 (ZI v l R G B s p H.length (some (.bool t))) ⟨HY H xs,b⟩ (ib 4)=some ⟨.next,ZI v l R G B s p H.length (some (.bool t)),⟨HY H xs,b⟩⟩:=by
 have t1:(ev 115).T A6 (ZI v l R G B s p H.length (some (.bool t))) ⟨HY H xs,b⟩ (BV (ib 4))=some ⟨false,⟨HY H xs,b⟩⟩:=
  KZ ⋯ ⋯ (lY hp hs ⋯ ⋯ ⋯ ⋯ ⋯ ⋯ ⋯) (lY hs hp ⋯ ⋯ ⋯ ⋯ ⋯ ⋯ ⋯) .NotEq ⋯
   (Ai (λb=>some (!b)) (AU (Ai (λn:Nat=>(n:Int)) h2)))
 exact(KY ⋯ t1).trans ⋯
structure Hy(l:B8)(R G B:List Nat)(TI:List AV)(p s:Nat)(t:Aa):Prop where
 xR:∀H,ja H (.tup [.int p,.int s]) TI=some t
 nub:∃is,Nc (Lc l R G B p s) []=some is/\decide ((is.length:Int)=7)=t
 two:decide ((Ky l p s:Int)=2)=t
 sym:Ky l p s=Ky l s p
theorem r8{g:Ab (AV×(AV×AV×AV)×AV)}(W:lS (A1 l) R G B)(ho:o 19=.list TI)(P:Hy l R G B TI p s t)(hp:p<7)(hs:s<7):
  Xs (ev 116) A6 (Hx v l R G B s (some (.int p)) (g.map (·.1)) (g.map (·.2.1)) (g.map (·.2.2))) ⟨HZ o pt l R G B Z,b⟩ (B3 Vk)=some ⟨.next,ZI v l R G B s p (HZ o pt l R G B Z).length (some (.bool t)),⟨HY (HZ o pt l R G B Z) (Lc l R G B p s),b⟩⟩:=by
 refine P.nub.elim λis hi=>?_
 have hx:(Lc l R G B p s).length<1000:=CE (Ld (Ld (Ld (a:=2) (AP _) (GN W.lr)) (GN W.lg)) (GN W.lb)) ⋯
 exact(Ak ⋯ b0).trans ((Ak ⋯ (b1 W hp hs)).trans ((Ak ⋯ (b2 ho P.xR)).trans ((Ak ⋯ (b3 hp hs hi.1 hi.2 P.two hx)).trans ((Ak ⋯ (b4 hp hs P.sym)).trans ⋯))))
end
theorem rs0(s:Nat):E0 0 s 1=s:=by unfold E0;rw[Bh ⋯];split<;>lia
theorem X9(h:p<s):Src.at H p (.Gw 0 s 1)=some (some (.int p)):=
 (Ai (λz=>some (cond z (some (AV.int (0+1*(p:Int)))) none)) (AU (show(0:Int)<E0 0 s 1-p by rw[rs0];exact(pw [.t .p .q] (.T (.j 0) (.S (.n .q) (.n .p))) [] [_,_]) h))).trans (by show some (some (AV.int (0+1*(p:Int))))=_;rw[GU,Dn])
theorem ZJ:Src.at H s (.Gw 0 s 1)=some none:=
 Ai (λz=>some (cond z (some (AV.int (0+1*(s:Int)))) none)) (Ct (show ¬ (0:Int)<E0 0 s 1-s by rw[rs0];exact(pw [] (.n (.T (.j 0) (.S (.n .p) (.n .p)))) [] [_])))
abbrev X5:=AV×AV×(AV×AV×AV)×AV
section
variable{o:Nat->AO}{pt:AO}{l:B8}{R G B:List Nat}{b:Aa}{v:Nat->AV}
def Tn(v:Nat->AV)(l:B8)(R G B:List Nat)(s:Nat)(x:Ab X5):Lo:=Hx v l R G B s (x.map (·.1)) (x.map (·.2.1)) (x.map (·.2.2.1)) (x.map (·.2.2.2))
theorem xS:HY (HZ o pt l R G B Z) xs=HZ o pt l R G B (Z++[.list xs,.raw 3]):=by unfold HY HZ;rw[FO,FO] at ⊢;rfl
theorem inner(W:lS (A1 l) R G B)(ho:o 19=.list TI)(hs:s<7)(P:∀p,p<s->∃t,Hy l R G B TI p s t):
  ∀(m p:Nat)(Z:List AO)(x:Ab X5),p+m=s->(x=none->p=0)->∃Z' x',forL (ev 116) A6 (.Gw 0 s 1) (BV Vk) (B3 Vk) (m+1+(79-s)) p (Tn v l R G B s x) ⟨HZ o pt l R G B Z,b⟩=some ⟨.next,Tn v l R G B s x',⟨HZ o pt l R G B Z',b⟩⟩/\(x'=none->s=0)/\Z'.length=Z.length+2*m
 |0,p,Z,x,h,hx=>⟨Z,x,by
   obtain rfl:p=s:=h
   rw[Ia,Ga 1]
   exact NH ZJ,λe=>h▸hx e,rfl⟩
 |m+1,p,Z,x,h,hx=>by
  have hp:p<s:=(pw [.e (.A .p (.A .q (.k 1))) .r] (.t .p .r) [] [_,_,_]) h
  refine(P p hp).elim λt q=>?_
  have e:=B0 (k:=m+1+(79-s)) (lo:=Tn v l R G B s x) (lo1:=Hx v l R G B s (some (.int p)) ((x.map (·.2)).map (·.1)) ((x.map (·.2)).map (·.2.1)) ((x.map (·.2)).map (·.2.2))) (S:=⟨HZ o pt l R G B Z,b⟩) (S1:=⟨HZ o pt l R G B Z,b⟩) (t:=BV Vk) (X9 hp) (by cases x<;>kernel_rfl) (r8 W ho q (EH hp hs) hs)
  rw[xS] at e
  refine(inner W ho hs P m (p+1) (Z++[.list (Lc l R G B p s),.raw 3]) (some (.int p,.loc (HZ o pt l R G B Z).length,liA l B p s,.bool t)) ((pw [.e (.A .p (.A .q (.k 1))) .r] (.e (.A (.A .p (.k 1)) .q) .r) [] [_,_,_]) h) nofun).elim λZ' z=>z.elim λx' z=>⟨Z',x',?_,z.2.1,z.2.2.trans (by rw[BP];exact(pw [] (.e (.A (.A .p (.k 2)) (.m 2 .q)) (.A .p (.m 2 (.A .q (.k 1))))) [] [_,_]))⟩
  exact(Ai (λk=>forL (ev 116) A6 (.Gw 0 s 1) (BV Vk) (B3 Vk) k p (Tn v l R G B s x) ⟨HZ o pt l R G B Z,b⟩) (show m+1+1+(79-s)=(m+1+(79-s))+1 by exact(pw [] (.e (.A (.A (.A .p (.k 1)) (.k 1)) (.S (.k 79) .q)) (.A (.A (.A .p (.k 1)) (.S (.k 79) .q)) (.k 1))) [] [_,_]))).trans (e.trans z.1)
def ze(i:Nat):Expr:=CA (C0 (BV (Bb (B3 Nq) 0))) i
def xT:Expr:=CA (C0 (E4 (ze 0))) 0
theorem r9(hs:s<7)(h1:Ky l s s=1):(ev 117).X A6 (Tn v l R G B s x) ⟨HZ o pt l R G B Z,b⟩ (Bb (B3 Nq) 0)=some ⟨.next,Tn v l R G B s x,⟨HZ o pt l R G B Z,b⟩⟩:=by
 have e1:(ev 113).E A6 (Tn v l R G B s x) ⟨HZ o pt l R G B Z,b⟩ xT=some ⟨M6 l s,⟨HZ o pt l R G B Z,b⟩⟩:=
  Td (v:=.lst (oJ l)) (k:=.int s) (S1:=⟨HZ o pt l R G B Z,b⟩) ⋯ ⋯ ⋯ ⋯ (MF (ir s hs) (Bm rfl))
 have e2:(ev 114).E A6 (Tn v l R G B s x) ⟨HZ o pt l R G B Z,b⟩ (E4 (ze 0))=some ⟨.int (7:Nat),⟨HZ o pt l R G B Z,b⟩⟩:=
  (CH ⋯ ⋯ ⋯ ⋯ (Dg ⋯ e1) ⋯).trans (MG rfl ⋯)
 have t1:(ev 115).T A6 (Tn v l R G B s x) ⟨HZ o pt l R G B Z,b⟩ (ze 0)=some ⟨false,⟨HZ o pt l R G B Z,b⟩⟩:=
  KZ (v2:=.int 7) ⋯ ⋯ e2 ⋯ .NotEq ⋯ rfl
 have t2:(ev 114).T A6 (Tn v l R G B s x) ⟨HZ o pt l R G B Z,b⟩ (ze 1)=some ⟨false,⟨HZ o pt l R G B Z,b⟩⟩:=
  KZ (v2:=.int 1) ⋯ ⋯ (lY hs hs ⋯ ⋯ ⋯ ⋯ ⋯ ⋯ ⋯) ⋯ .NotEq ⋯ (Ai (λb=>some (!b)) (AU (Ai (λn:Nat=>(n:Int)) h1)))
 exact(KY ⋯ (TOr ⋯ t1 t2)).trans ⋯
def sd(v:Nat->AV)(l:B8)(R G B:List Nat)(n:Nat)(lo:Lo):Prop:=(n=0/\lo=ie v l R G B)\/∃m x,n=m+1/\lo=Tn v l R G B m x/\(x=none->m=0)
theorem AbT:∀s,s<7->FU (ev 116) A6 (Tn v l R G B s x) ⟨HZ o pt l R G B Z,b⟩ (Cm Vk)=some ⟨.Gw 0 s 1,⟨HZ o pt l R G B Z,b⟩⟩:=
 VG ⋯ ⋯ ⋯ ⋯ ⋯ ⋯ ⋯
theorem lZ(W:lS (A1 l) R G B)(ho:o 19=.list TI)(hs:s<7)(P:∀p,p<s->∃t,Hy l R G B TI p s t)(h1:Ky l s s=1):
  ∃Z1 x1,Xs (ev 117) A6 (Tn v l R G B s x) ⟨HZ o pt l R G B Z,b⟩ (B3 Nq)=some ⟨.next,Tn v l R G B s x1,⟨HZ o pt l R G B Z1,b⟩⟩/\(x1=none->s=0)/\Z1.length=Z.length+2*s:=by
 refine(inner (pt:=pt) (v:=v) (b:=b) W ho hs P s 0 Z x (Ia s) λ_=>rfl).elim λZ1 z=>z.elim λx1 z=>⟨Z1,x1,?_,z.2⟩
 replace z:=z.1
 have hk:s+1+(79-s)=80:=(pw [.t .p (.k 7)] (.e (.A (.A .p (.k 1)) (.S (.k 79) .p)) (.k 80)) [] [_]) hs
 rw[hk] at z
 have hf:=
  Qp ⋯ (AbT s hs) ⋯ z
 refine(Ak ⋯ (r9 hs h1)).trans ((Ak ⋯ hf).trans ?_)
 kernel_rfl
theorem sf{lo:Lo}(W:lS (A1 l) R G B)(ho:o 19=.list TI)(hs:s<7)(P:∀p,p<s->∃t,Hy l R G B TI p s t)(h1:Ky l s s=1)(hl:sd v l R G B s lo):
  ∃Z1 lo1,forL (ev 117) A6 (.Gw 0 (7:Nat) 1) (BV Nq) (B3 Nq) (k+1) s lo ⟨HZ o pt l R G B Z,b⟩=forL (ev 117) A6 (.Gw 0 (7:Nat) 1) (BV Nq) (B3 Nq) k (s+1) lo1 ⟨HZ o pt l R G B Z1,b⟩/\sd v l R G B (s+1) lo1/\Z1.length=Z.length+2*s:=by
 have ht:∃x,Ju A6 lo ⟨HZ o pt l R G B Z,b⟩ (BV Nq) (.int s)=some ⟨Tn v l R G B s x,⟨HZ o pt l R G B Z,b⟩⟩:=by
  refine hl.elim (λe=>?_) λe=>e.elim λs' e=>e.elim λx e=>?_
  ·rw[e.2];exact⟨none,by kernel_rfl⟩
  ·rw[e.2.1];exact⟨x,by kernel_rfl⟩
 exact ht.elim λx ht=>(lZ W ho hs P h1).elim λZ1 z=>z.elim λx1 z=>⟨Z1,Tn v l R G B s x1,B0 (X9 hs) ht z.1,.inr ⟨s,x1,rfl,rfl,z.2.1⟩,z.2.2⟩
noncomputable def xU:Nat->Nat | 0=>0 | s+1=>xU s+2*s
theorem outer(W:lS (A1 l) R G B)(ho:o 19=.list TI)(P:∀s,s<7->∀p,p<s->∃t,Hy l R G B TI p s t)(h1:∀s,s<7->Ky l s s=1)(m:Nat):
  ∀(s:Nat)(Z:List AO)(lo:Lo),s+m=7->sd v l R G B s lo->∃Z' Bv,forL (ev 117) A6 (.Gw 0 (7:Nat) 1) (BV Nq) (B3 Nq) (73+m) s lo ⟨HZ o pt l R G B Z,b⟩=some ⟨.next,Bv,⟨HZ o pt l R G B Z',b⟩⟩/\(∃x,Bv=Tn v l R G B 6 (some x))/\Z'.length+xU s=Z.length+42:=by
 induction m with
 |zero=>
  intro s Z lo h hl
  obtain rfl:s=7:=h
  refine⟨Z,lo,NH ZJ,hl.elim (λe=>AL e.1 ⋯) λe=>e.elim λm e=>e.elim λx e=>?_,rfl⟩
  obtain rfl:m=6:=(He e.1).symm
  cases x with
  |none=>exact AL (e.2.2 rfl) ⋯
  |some x=>exact⟨x,e.2.1⟩
 |succ m ih=>
  intro s Z lo h hl
  have hs:s<7:=(pw [.e (.A .p (.A .q (.k 1))) (.k 7)] (.t .p (.k 7)) [] [_,_]) h
  exact(sf W ho hs (P s hs) (h1 s hs) hl).elim λZ1 z=>z.elim λlo1 z=>(ih (s+1) Z1 lo1 ((pw [.e (.A .p (.A .q (.k 1))) (.k 7)] (.e (.A (.A .p (.k 1)) .q) (.k 7)) [] [_,_]) h) z.2.1).elim λZ' q=>q.elim λBv q=>⟨Z',Bv,z.1.trans q.1,q.2.1,by have h1:=q.2.2;have h2:=z.2.2;exact(pw [.e .p (.A .q (.m 2 .r)),.e (.A .s (.A .t (.m 2 .r))) (.A .p (.k 42))] (.e (.A .s .t) (.A .q (.k 42))) [] [_,_,_,_,_]) h2 h1⟩
theorem X25(W:lS (A1 l) R G B)(ho:o 19=.list TI)(P:∀s,s<7->∀p,p<s->∃t,Hy l R G B TI p s t)(h1:∀s,s<7->Ky l s s=1):
  ∃Z' x,(ev 118).X A6 (ie v l R G B) ⟨HZ o pt l R G B [],b⟩ Nq=some ⟨.next,Tn v l R G B 6 (some x),⟨HZ o pt l R G B Z',b⟩⟩/\Z'.length=42:=
 (outer W ho P h1 7 0 [] (ie v l R G B) rfl (.inl ⟨rfl,rfl⟩)).elim λZ' q=>q.elim λBv q=>q.2.1.elim λx e=>⟨Z',x,e▸Qp ⋯ ⋯ ⋯ q.1,q.2.2.trans (Ia _)⟩
end
end
section
set_option exponentiation.threshold 3000
open PySem.Float64
def Fn(x:Al):Prop:=∃a m e,J6 x=.fin a m e
noncomputable abbrev SS:Int:=2^1074
theorem sg(h:q<=2^53):∀k:Nat,∃t,V t=q*2^k:=by
 intro k
 induction k generalizing q with
 |zero=>exact⟨0*2^52+q,V_at h (.inr rfl)⟩
 |succ k ih=>
  by_cases hq: 2^52<=q
  ·exact⟨(k+1)*2^52+q,V_at h (.inl hq)⟩
  ·refine(ih (q:=2*q) ((pw [.n (.l (.k (2^52)) .p)] (.l (.m 2 .p) (.k (2^53))) [] [_]) hq)).elim λt ht=>⟨t,ht.trans ?_⟩
   rw[Nat.pow_succ];ac_rfl
theorem near{neg:Aa}(hr:Right r neg W D)(hD: 0<D)(hk:k<=1990)(hW:W<=D*2^k*2^53):Fn r/\∃t,val r=sgn neg t/\BO W (D*t)<=D*2^k/\∀t',BO W (D*t)<=BO W (D*V t'):=by
 refine hr.elim λt h=>?_
 have hp:D*2^k*2^53*2<D*((2^54-1)*2^2045):=by
  rw[Fg,Fg] at ⊢
  refine cz ?_ hD
  refine CE (Ee _ (cH ⋯ hk)) ?_
  decide +kernel
 have ht:=Nat.lt_of_le_of_ne h.2.1 λe=>AL (h.2.2.1.mp e) ((pw [.l .p (.R .q (2^53)),.t (.R (.R .q (2^53)) 2) .r] (.n (.l .r (.m 2 .p))) [] [_,_,_]) hW hp)
 have hn:=λt'=>(h.2.2.2 ht t').1
 refine⟨?_,V t,?_,?_,hn⟩
 ·rw[h.1];exact(decode_pack neg ht).elim λm q=>q.elim λe q=>⟨_,_,_,q.1⟩
 ·rw[h.1];exact val_pack neg ht
 ·have hq:=Nat.div_le_of_le_mul hW
  refine(sg hq k).elim λt' e=>AA (hn t') ?_
  have hd:=Du W (D*2^k)
  have hm:=Dx W (Nat.mul_pos hD (EF k))
  rw[e,show D*(W/(D*2^k)*2^k)=D*2^k*(W/(D*2^k)) by ac_rfl]
  unfold BO
  generalize D*2^k*(W/(D*2^k))=z at*
  exact(pw [.t .p .q,.e (.A .r .p) .s] (.l (.A (.S .s .r) (.S .r .s)) .q) [] [_,_,_,_]) hm hd
theorem br(b:Aa)(t:Nat):(b=true/\sgn b t = -(t:Int))\/(b=false/\sgn b t=t):=by cases b;exact .inr ⟨rfl,rfl⟩;exact .inl ⟨rfl,rfl⟩
theorem Vn(x y:Nat):((x:Int)-y).natAbs=BO y x:=by unfold BO;exact(pw [] (.e (.b (.S (.n .p) (.n .q))) (.A (.S .q .p) (.S .p .q))) [] [_,_])
theorem oM(b:Aa)(x y:Nat):(sgn b x-sgn b y).natAbs=BO y x:=by
 cases b with
 |false=>exact Vn x y
 |true=>
  show(-(x:Int) - -(y:Int)).natAbs=_
  rw[show -(x:Int) - -(y:Int) = -((x:Int)-y) by rw[Int.neg_sub,Int.sub_neg,Int.add_comm,Int.sub_eq_add_neg],Int.natAbs_neg]
  exact Vn x y
theorem P8(b:Aa)(h:BO W (D*t)<=e):(sgn b t*D-sgn b W).natAbs<=e:=by
 rw[<-sgn_mul,oM,Dv]
 exact h
theorem To(i:Int):sgn (decide (i<0)) i.natAbs=i:=by
 by_cases h:i<0
 ·rw[AU h];exact Int.neg_eq_comm.mp (bK (Ec h)).symm
 ·rw[Ct h];exact bO (DD.mp h)
theorem P9(h:BO N.natAbs (1*t)<=e):(sgn (decide (N<0)) t-N).natAbs<=e:=by
 have z:=P8 (decide (N<0)) h
 rw[To] at z
 exact(Fc (sgn (decide (N<0)) t))▸z
theorem val_zero(b:Aa):val (zero b)=0:=by cases b<;>decide +kernel
theorem NI(b:Aa):Fn (zero b):=(decode_pack b ⋯).elim λm q=>q.elim λe q=>⟨_,_,_,q.1⟩
theorem iw{k:Nat}(hx:Fn x)(hy:Fn y)(hk:k<=1990)(h:(val x+val y).natAbs<=2^k*2^53):Fn (add x y)/\(val (add x y)-(val x+val y)).natAbs<=2^k:=by
 refine hx.elim λa q=>q.elim λm q=>q.elim λe hx=>hy.elim λb q=>q.elim λn q=>q.elim λf hy=>?_
 have r:=add_right hx hy
 by_cases hz:val x+val y=0
 ·rw[r.1 hz,val_zero,hz];exact⟨NI _,Co _⟩
 ·have z:=near (r.2 hz) ⋯ hk (by rw[C3];exact h)
  refine⟨z.1,z.2.elim λt z=>?_⟩
  rw[z.1]
  exact P9 (by have:=z.2.1;rwa[C3 (2^k)] at this)
theorem iz{k:Nat}(hx:Fn x)(hy:Fn y)(hk:k<=1990)(h:(val x-val y).natAbs<=2^k*2^53):Fn (sub x y)/\(val (sub x y)-(val x-val y)).natAbs<=2^k:=by
 refine hx.elim λa q=>q.elim λm q=>q.elim λe hx=>hy.elim λb q=>q.elim λn q=>q.elim λf hy=>?_
 have r:=sub_right hx hy
 by_cases hz:val x-val y=0
 ·rw[r.1 hz,val_zero,hz];exact⟨NI _,Co _⟩
 ·have z:=near (r.2 hz) ⋯ hk (by rw[C3];exact h)
  refine⟨z.1,z.2.elim λt z=>?_⟩
  rw[z.1]
  exact P9 (by have:=z.2.1;rwa[C3 (2^k)] at this)
theorem Le(h:J6 x=.fin a m e):val x=sgn a (val x).natAbs:=by rw[val_natAbs h];exact val_eq h
theorem Vo(a b:Aa)(m n:Nat):sgn a m*sgn b n=sgn (a !=b) (m*n):=by
 cases a<;>cases b<;>simp[sgn,Int.mul_neg,NX]
theorem CS:((2^1074:Nat):Int)=SS:=by rw[V3];rfl
theorem iA{k:Nat}(hx:Fn x)(hy:Fn y)(hk:k<=1990)(h:(val x*val y).natAbs<=2^1074*2^k*2^53):Fn (mul x y)/\(val (mul x y)*SS-val x*val y).natAbs<=2^1074*2^k:=by
 refine hx.elim λa q=>q.elim λm q=>q.elim λe hx=>hy.elim λb q=>q.elim λn q=>q.elim λf hy=>?_
 have z:=near (mul_right hx hy) (EF _) hk (by rw[<-CC];exact h)
 refine⟨z.1,z.2.elim λt z=>?_⟩
 have e:=P8 (a !=b) z.2.1
 rw[<-Vo,<-Le hx,<-Le hy,<-z.1,CS] at e
 exact e
theorem ZK(hx:Fn x)(hy:Fn y)(h0:val y≠0)(hk:k<=1990)(h:(val x).natAbs*2^1074<=(val y).natAbs*2^k*2^53):Fn (div x y)/\(val (div x y)*val y-val x*SS).natAbs<=(val y).natAbs*2^k:=by
 refine hx.elim λa q=>q.elim λm q=>q.elim λe hx=>hy.elim λb q=>q.elim λn q=>q.elim λf hy=>?_
 have hn:n≠0:=λe=>h0 (by rw[val_eq hy,e,H8];cases b<;>rfl)
 have z:=near (div_right hx hy hn) (NW.mpr h0) hk h
 refine⟨z.1,z.2.elim λt z=>?_⟩
 have e:=P8 (a !=b) z.2.1
 have c:∀s,sgn (a !=b) s=sgn a s*sgn b 1:=λs=>by rw[Vo,Oa]
 have s1:sgn b 1*sgn b 1=1:=by cases b<;>rfl
 have e1:val (div x y)*val y-val x*SS=(sgn (a !=b) t*((val y).natAbs:Int)-sgn (a !=b) ((val x).natAbs*2^1074))*sgn b 1:=by
  have hy':val y=sgn b 1*(val y).natAbs:=by rw[HR];exact(Le hy).trans (by cases b<;>simp[sgn])
  have hx':sgn (a !=b) ((val x).natAbs*2^1074)=val x*SS*sgn b 1:=by
   rw[c,sgn_mul,<-Le hx,CS]
  rw[hx',z.1,Dj,Fb (val x*SS),s1,Fc]
  conv=>lhs;rw[hy']
  rw[Fb,HR ((val y).natAbs:Int) (sgn b 1),<-Fb]
 rw[e1,CC,show(sgn b 1).natAbs=1 by cases b<;>rfl,Oa]
 exact e
theorem NJ{neg:Aa}(hr:Right r neg (q*2^k) 1)(hq:q<=2^53)(hk:k<=1990):Fn r/\val r=sgn neg (q*2^k):=by
 have z:=near hr ⋯ hk (by rw[C3,Dv];exact Jz _ hq)
 refine⟨z.1,z.2.elim λt z=>(sg hq k).elim λt' e=>?_⟩
 have d:=z.2.2 t'
 rw[e,C3,C3,show BO (q*2^k) (q*2^k)=0 by unfold BO;rw[Wq]] at d
 have ht:t=q*2^k:=by
  unfold BO at d
  exact Rp (cF (cK.mp (Nat.le_zero.mp d)).2) (cF (cK.mp (Nat.le_zero.mp d)).1)
 rw[z.1,ht]
theorem iB{i:Int}(h:i.natAbs<=2^53):Fn (BH i)/\val (BH i)=i*SS:=by
 have z:=NJ (ofInt_right i) h ⋯
 rw[sgn_mul,To,CS] at z
 exact z
theorem AbU{i:Int}(h:i.natAbs<=2^53):Fn (ofFrac (decide (i<0) !=decide ((64:Int)<0)) i.natAbs 64)/\val (ofFrac (decide (i<0) !=decide ((64:Int)<0)) i.natAbs 64)=2^1068*i:=by
 have z:=NJ (ofFrac_right (neg:=decide (i<0) !=decide ((64:Int)<0)) (n:=i.natAbs) (d:=64) (W:=i.natAbs*2^1068) ⋯ (by rw[Oa,Fg] at ⊢) ⋯) h ⋯
 have e:(decide (i<0) !=decide ((64:Int)<0))=decide (i<0):=Aa.bne_false _
 rw[e] at z ⊢
 rw[sgn_mul,To,HR,show((2^1068:Nat):Int)=2^1068 by rw[V3];rfl] at z
 exact z
end
section
set_option exponentiation.threshold 3000
open PySem.Float64 PySem
set_option genCtorIdx true in
inductive Fx where
 |v (i:Nat)
 |c (w:Al)
 |add (x y:Fx)
 |sub (x y:Fx)
 |mul (w:Al) (x:Fx)
 |half (x:Fx)
def Fx.f(ρ:Nat->Al):Fx->Al
 |.v i=>ρ i
 |.c w=>w
 |.add x y=>Dl (x.f ρ) (y.f ρ)
 |.sub x y=>Bg (x.f ρ) (y.f ρ)
 |.mul w x=>Cq w (x.f ρ)
 |.half x=>Cr (x.f ρ) (Fk 2)
noncomputable def dot:List Int->List Int->Int
 |c::l,x::a=>c*x+dot l a
 |_,_=>0
noncomputable def Qa:List Int->List Int->List Int
 |c::l,d::m=>(c+d)::Qa l m
 |[],m=>m
 |c::l,[]=>c::l
noncomputable def Yb(l:List Int):List Int:=l.map λc => -c
noncomputable def mb:List Int->List Nat->Nat
 |c::l,x::a=>c.natAbs*x+mb l a
 |_,_=>0
noncomputable def uv:Nat->List Int
 |0=>[2^1068]
 |i+1=>0::uv i
def Fx.l:Fx->List Int
 |.v i=>uv (i+1)
 |.c w=>[val w]
 |.add x y=>Qa x.l y.l
 |.sub x y=>Qa x.l (Yb y.l)
 |.mul w x=>x.l.map λc=>c*val w/SS
 |.half x=>x.l.map λc=>c/2
noncomputable def UU:Nat:=2^1024
noncomputable def BB:List Nat:=[1,63,63,63,63,63,63]
def Fx.e:Fx->Nat
 |.v _=>0
 |.c _=>0
 |.add x y=>x.e+y.e+UU
 |.sub x y=>x.e+y.e+UU
 |.mul w x=>cond (Bf (val w).natAbs (2^1074)) x.e (2*x.e)+UU
 |.half x=>x.e+UU
def Fx.m(x:Fx):Aa:=Bf (mb x.l BB+x.e) (UU*2^53)
def Fx.ok:Fx->Aa
 |.v _=>true
 |.c w=>isFinite w
 |.add x y=>x.ok&&(y.ok&&Fx.m (.add x y))
 |.sub x y=>x.ok&&(y.ok&&Fx.m (.sub x y))
 |.mul w x=>(isFinite w&&Bf (val w).natAbs (2*2^1074))&&(x.ok&&((x.l.all λc=>decide (c*val w%SS=0))&&Fx.m (.mul w x)))
 |.half x=>x.ok&&((x.l.all λc=>decide (c%2=0))&&Bf (mb x.l BB+x.e) (UU*2^53))
theorem GO:∀(l m a:List Int),dot (Qa l m) a=dot l a+dot m a
 |[],m,a=>(Dn _).symm
 |c::l,[],a=>(Ei _).symm
 |c::l,d::m,[]=>rfl
 |c::l,d::m,x::a=>by
  show(c+d)*x+dot (Qa l m) a=c*x+dot l a+(d*x+dot m a)
  rw[GO l m a,F3];ac_rfl
theorem NK:∀(l a:List Int),dot (Yb l) a = -dot l a
 |[],a=>rfl
 |c::l,[]=>rfl
 |c::l,x::a=>by
  show -c*x+dot (Yb l) a = -(c*x+dot l a)
  rw[NK l a,NX,Int.neg_add]
theorem Tp:∀{l:List Int},(∀c,c∈l->f c*k=c*m)->∀a,dot (l.map f) a*k=dot l a*m
 |[],_,a=>(DU k).trans (DU m).symm
 |c::l,_,[]=>(DU k).trans (DU m).symm
 |c::l,h,x::a=>by
  show(f c*x+dot (l.map f) a)*k=(c*x+dot l a)*m
  rw[F3,F3,Tp (λc hc=>h c (.tail _ hc)) a,show f c*x*k=f c*k*x by ac_rfl,h c (.head _)]
  ac_rfl
def Wn:List Int->List Nat->Prop
 |x::a,n::b=>x.natAbs<=n/\Wn a b
 |[],[]=>True
 |_,_=>Cd
theorem ZL:∀(l a:List Int)(b:List Nat),Wn a b->(dot l a).natAbs<=mb l b
 |[],_,_,_=>Co _
 |c::l,[],_,_=>Co _
 |c::l,x::a,n::b,h=>by
  refine AA (EZ _ _) (B5 ?_ (ZL l a b h.2))
  rw[CC]
  exact Jz _ h.1
theorem Ku(h:isFinite w=true):Fn w:=by
 unfold isFinite at h
 unfold Fn
 cases e:J6 w with
 |fin a m e=>exact⟨_,_,_,rfl⟩
 |nan=>rw[e] at h;nomatch h
 |inf _=>rw[e] at h;nomatch h
theorem Tq{x y z:Int}(h:(x-y).natAbs<=a)(g:(y-z).natAbs<=b):(x-z).natAbs<=a+b:=
 AA (by rw[show x-z=(x-y)+(y-z) by exact(pw [] (.E (.S .p .q) (.A (.S .p .r) (.S .r .q))) [_,_,_] [])];exact EZ _ _) (B5 h g)
theorem CQ{x y:Int}(h:(x-y).natAbs<=a)(g:y.natAbs<=b):x.natAbs<=b+a:=
 AA (AA (Bn (Ai Int.natAbs (show x=y+(x-y) by exact(pw [] (.E .p (.A .q (.S .p .q))) [_,_] [])))) (EZ _ _)) (B5 g h)
theorem Vp{x y p q:Int}(h:(x-p).natAbs<=a)(g:(y-q).natAbs<=b):(x+y-(p+q)).natAbs<=a+b:=
 AA (by rw[show x+y-(p+q)=(x-p)+(y-q) by exact(pw [] (.E (.S (.A .p .q) (.A .r .s)) (.A (.S .p .r) (.S .q .s))) [_,_,_,_] [])];exact EZ _ _) (B5 h g)
theorem Vq{x y p q:Int}(h:(x-p).natAbs<=a)(g:(y-q).natAbs<=b):(x-y-(p + -q)).natAbs<=a+b:=
 AA (by rw[show x-y-(p + -q)=(x-p)-(y-q) by exact(pw [] (.E (.S (.S .p .q) (.A .r (.g .s))) (.S (.S .p .r) (.S .q .s))) [_,_,_,_] [])];exact Q6 _ _) (B5 h g)
theorem bt(h:(a&&b)=true):a=true/\b=true:=Lu.mp h
theorem iC:∀(i:Nat)(a:List Int),dot (uv i) a=2^1068*a.getD i 0
 |0,[]=>rfl
 |0,x::a=>(Ai (2^1068*x + ·) (by cases a<;>rfl:dot [] a=0)).trans (Ei _)
 |i+1,[]=>rfl
 |i+1,x::a=>(Ai (· +dot (uv i) a) (DU x)).trans ((Dn _).trans (iC i a))
theorem F2{p q:Int}{k n:Nat}(hk: 0<k)(h:(p*k-q*k).natAbs<=n*k):(p-q).natAbs<=n:=by
 rw[<-Dj,CC,Lw] at h
 exact Wf h hk
theorem Fx.near{ρ:Nat->Al}(hW:Wn a BB)(hv:∀i,Fn (ρ i)/\val (ρ i)=2^1068*a.getD (i+1) 0)(h1:∀w:Int,dot [w] a=w):∀x:Fx,x.ok=true->Fn (x.f ρ)/\(val (x.f ρ)-dot x.l a).natAbs<=x.e:=by
 have mg:∀{l:List Int}{e:Nat}{z:Int},Bf (mb l BB+e) (UU*2^53)=true->(z-dot l a).natAbs<=e->z.natAbs<=UU*2^53:=λh g=>AA (CQ g (ZL _ _ _ hW)) (Bm h)
 intro x
 induction x with
 |v i=>intro _;refine⟨(hv i).1,?_⟩;rw[show Fx.l (.v i)=uv (i+1) from rfl,iC,<-(hv i).2];show(val (ρ i)-val (ρ i)).natAbs<=0;rw[V6];exact AP _
 |c w=>intro h;refine⟨Ku h,?_⟩;rw[show Fx.l (.c w)=[val w] from rfl,h1 (val w)];show(val w-val w).natAbs<=0;rw[V6];exact AP _
 |add x y ihx ihy=>
  intro h
  have hx:=ihx (bt h).1;have hy:=ihy (bt (bt h).2).1
  have d:=Vp hx.2 hy.2
  have q:=iw hx.1 hy.1 ⋯ (mg (l:=Qa x.l y.l) (bt (bt h).2).2 (by rw[GO];exact AA d (BG _ _)))
  refine⟨q.1,?_⟩
  show(val (Dl (x.f ρ) (y.f ρ))-dot (Qa x.l y.l) a).natAbs<=x.e+y.e+UU
  rw[GO,Ga _ UU]
  exact Tq q.2 d
 |sub x y ihx ihy=>
  intro h
  have hx:=ihx (bt h).1;have hy:=ihy (bt (bt h).2).1
  have d:=Vq hx.2 hy.2
  have q:=iz hx.1 hy.1 ⋯ (mg (l:=Qa x.l (Yb y.l)) (bt (bt h).2).2 (by rw[GO,NK];exact AA d (BG _ _)))
  refine⟨q.1,?_⟩
  show(val (Bg (x.f ρ) (y.f ρ))-dot (Qa x.l (Yb y.l)) a).natAbs<=x.e+y.e+UU
  rw[GO,NK,Ga _ UU]
  exact Tq q.2 d
 |mul w x ih=>
  intro h
  have hw:=bt (bt h).1;have h':=bt (bt h).2;have h2:=bt h'.2
  have hx:=ih h'.1
  have ed:dot (Fx.l (.mul w x)) a*SS=dot x.l a*val w:=Tp (λc hc=>bQ (bL (Bi (BW.mp h2.1 c hc)))) a
  have d:(val w*val (x.f ρ)-dot (Fx.l (.mul w x)) a*SS).natAbs<=cond (Bf (val w).natAbs (2^1074)) x.e (2*x.e)*2^1074:=by
   rw[ed,HR (dot x.l a),<-V8,CC]
   cases hc:Bf (val w).natAbs (2^1074) with
   |true=>exact AA (Wo (Bm hc) hx.2) (Bn (Dv _ _))
   |false=>exact AA (Wo (Bm hw.2) hx.2) (Bn (show(2*2^1074)*x.e=2*x.e*2^1074 by ac_rfl))
  have y5:=h2.2
  rw[show Fx.m (.mul w x)=Bf (mb (Fx.l (.mul w x)) BB+(cond (Bf (val w).natAbs (2^1074)) x.e (2*x.e)+UU)) (UU*2^53) from rfl] at y5
  rw[show Fx.e (.mul w x)=cond (Bf (val w).natAbs (2^1074)) x.e (2*x.e)+UU from rfl]
  generalize cond (Bf (val w).natAbs (2^1074)) x.e (2*x.e)=E at d y5 ⊢
  have q:=iA (Ku hw.1) hx.1 (k:=1024) ⋯ (by
   have m:=ZL (Fx.l (.mul w x)) a BB hW
   have b:=Bm y5
   refine AA (CQ d (by rw[CC];exact Ee _ m)) ?_
   rw[show(SS).natAbs=2^1074 by rw[<-CS];exact Lw _,<-LP,Fg,Dv (2^1074)]
   exact Ee _ (AA (GW (BG _ UU) _) b))
  refine⟨q.1,?_⟩
  have t:=Tq q.2 d
  rw[show 2^1074*2^1024+E*2^1074=(E+UU)*2^1074 by unfold UU;rw[LP] at ⊢;ac_rfl,<-CS] at t
  exact F2 (EF _) t
 |half x ih=>
  intro h
  have h':=bt (bt h).2
  have hx:=ih (bt h).1
  have ed:dot (Fx.l (.half x)) a*2=dot x.l a*1:=Tp (λc hc=>by rw[Fc];exact bQ (bL (Bi (BW.mp h'.1 c hc)))) a
  have r2:=iB (i:=2) ⋯
  have n2:(val (Fk 2)).natAbs=2*2^1074:=by rw[r2.2,<-CS,CC,Lw];rfl
  have q:=ZK hx.1 r2.1 (k:=1024) (λe=>by rw[e] at n2;exact AL n2 ⋯) ⋯ (by
   rw[n2,show 2*2^1074*2^1024*2^53=2^1024*2^53*2*2^1074 by ac_rfl] at ⊢
   exact Ee _ (AA (mg h'.2 hx.2) (Rn _ ⋯)))
  refine⟨q.1,?_⟩
  have d:=q.2
  rw[n2,r2.2,<-CS,<-Fb,show 2*2^1074*2^1024=2*UU*2^1074 by unfold UU;ac_rfl] at d
  have d:=F2 (EF _) d
  have t:=Tq d hx.2
  rw[Fc] at ed
  rw[<-ed] at t
  show(val (Cr (x.f ρ) (Fk 2))-dot (Fx.l (.half x)) a).natAbs<=x.e+UU
  refine F2 (k:=2) ⋯ (AA t ?_)
  exact(pw [] (.l (.A (.m 2 .p) .q) (.R (.A .q .p) 2)) [] [_,_])
end
section
set_option exponentiation.threshold 3000
open PySem.Float64 PySem
noncomputable def yX(r g b:Fx):Fx:=.add (.add (.mul 4599075939470750515 r) (.mul 4603489467105573601 g)) (.mul 4592590756007337001 b)
noncomputable def iX(r y b:Fx):Fx:=.sub (.mul 4604840546993784750 (.sub r y)) (.mul 4598535507515466056 (.sub b y))
noncomputable def qX(r y b:Fx):Fx:=.add (.mul 4602318531202457272 (.sub r y)) (.mul 4601057523306793533 (.sub b y))
noncomputable def iD:Fx:=.c 4602678819172646912
noncomputable def sj(o n g:Fx):Fx:=.add (.half (.sub n o)) g
def yA':Fx:=yX (.v 0) (.v 1) (.v 2)
def yB':Fx:=yX (.v 3) (.v 4) (.v 5)
def tX:Fx:=yX iD iD iD
def yS:Fx:=sj yA' yB' tX
def iS:Fx:=sj (iX (.v 0) yA' (.v 2)) (iX (.v 3) yB' (.v 5)) (iX iD tX iD)
def qS:Fx:=sj (qX (.v 0) yA' (.v 2)) (qX (.v 3) yB' (.v 5)) (qX iD tX iD)
def rX:Fx:=.add (.add yS (.mul 4606703976345377586 iS)) (.mul 4603791717925830846 qS)
def gX:Fx:=.sub (.sub yS (.mul 4598621754083818298 iS)) (.mul 4603901015759978483 qS)
def bX:Fx:=.add (.sub yS (.mul 4607671262177584182 iS)) (.mul 4610375502138591871 qS)
noncomputable def tY:Nat->List Int
 |0=>[2^1073,-2^1067,0,0,2^1067,0,0]
 |1=>[2^1073,0,-2^1067,0,0,2^1067,0]
 |_=>[2^1073,0,0,-2^1067,0,0,2^1067]
noncomputable def EE:Nat:=2^1032
def Tr(x:Fx)(k:Nat):Aa:=x.ok&&Bf (mb (Qa x.l (Yb (tY k))) BB+x.e) EE
theorem sk:Tr rX 0=true:=⋯
theorem sq:Tr gX 1=true:=⋯
theorem sr:Tr bX 2=true:=⋯
end
section
set_option exponentiation.threshold 3000
open PySem.Float64 PySem
def Ap(x:Al)(p:Int)(e:Nat):Prop:=Fn x/\(val x-p).natAbs<=e
theorem Tt{e:Nat}:x.natAbs<=e ↔ -(e:Int)<=x/\x<=e:=by lia
theorem Ap.add{x y:Al}{p q:Int}(hx:Ap x p a)(hy:Ap y q b)(h:(p+q).natAbs+(a+b)<=2^1024*2^53):Ap (Dl x y) (p+q) (UU+(a+b)):=
 have d:=Vp hx.2 hy.2
 have r:=iw hx.1 hy.1 ⋯ (AA (CQ d (AP _)) h)
 ⟨r.1,Tq r.2 d⟩
theorem Ap.sub{x y:Al}{p q:Int}(hx:Ap x p a)(hy:Ap y q b)(h:(p-q).natAbs+(a+b)<=2^1024*2^53):Ap (Bg x y) (p-q) (UU+(a+b)):=
 have d:=Vq hx.2 hy.2
 have r:=iz hx.1 hy.1 ⋯ (AA (CQ d (AP _)) h)
 ⟨r.1,Tq r.2 d⟩
theorem Kv{x y:Al}(hx:Fn x)(hy:Fn y):cmp x y=some (compare (val x) (val y)):=
 hx.elim λ_ q=>q.elim λ_ q=>q.elim λ_ hx=>hy.elim λ_ q=>q.elim λ_ q=>q.elim λ_ hy=>cmp_right hx hy
noncomputable def Yc(x m:Al):Al:=if cmp x m==some .gt then x else m
noncomputable def sv(x m:Al):Al:=if cmp x m==some .lt then x else m
theorem Yd{x m:Al}(hx:Fn x)(hm:Fn m):(Yc x m=x/\val m<=val x)\/(Yc x m=m/\val x<=val m):=by
 unfold Yc
 rw[Kv hx hm]
 by_cases h:val m<val x
 ·rw[NU.mpr h];exact .inl ⟨rfl,Ec h⟩
 ·refine .inr ⟨AD λe=>h (NU.mp ?_),DD.mp h⟩
  exact AQ (eq_of_beq e)
theorem Ye{x m:Al}(hx:Fn x)(hm:Fn m):(sv x m=x/\val x<=val m)\/(sv x m=m/\val m<=val x):=by
 unfold sv
 rw[Kv hx hm]
 by_cases h:val x<val m
 ·rw[JN.mpr h];exact .inl ⟨rfl,Ec h⟩
 ·refine .inr ⟨AD λe=>h (JN.mp ?_),DD.mp h⟩
  exact AQ (eq_of_beq e)
structure Top(r g b M:Al):Prop where
 or:M=r\/M=g\/M=b
 r:val r<=val M
 g:val g<=val M
 b:val b<=val M
structure Bot(r g b M:Al):Prop where
 or:M=r\/M=g\/M=b
 r:val M<=val r
 g:val M<=val g
 b:val M<=val b
theorem iE{r g b:Al}(hr:Fn r)(hg:Fn g)(hb:Fn b):Top r g b (Yc b (Yc g r)):=by
 rcases Yd hg hr with ⟨e,h⟩ | ⟨e,h⟩<;>rw[e]
 ·rcases Yd hb hg with ⟨e,k⟩ | ⟨e,k⟩<;>rw[e]
  ·exact⟨.inr (.inr rfl),BA h k,k,DC _⟩
  ·exact⟨.inr (.inl rfl),h,DC _,k⟩
 ·rcases Yd hb hr with ⟨e,k⟩ | ⟨e,k⟩<;>rw[e]
  ·exact⟨.inr (.inr rfl),k,BA h k,DC _⟩
  ·exact⟨.inl rfl,DC _,h,k⟩
theorem sz{r g b:Al}(hr:Fn r)(hg:Fn g)(hb:Fn b):Bot r g b (sv b (sv g r)):=by
 rcases Ye hg hr with ⟨e,h⟩ | ⟨e,h⟩<;>rw[e]
 ·rcases Ye hb hg with ⟨e,k⟩ | ⟨e,k⟩<;>rw[e]
  ·exact⟨.inr (.inr rfl),BA k h,k,DC _⟩
  ·exact⟨.inr (.inl rfl),h,DC _,k⟩
 ·rcases Ye hb hr with ⟨e,k⟩ | ⟨e,k⟩<;>rw[e]
  ·exact⟨.inr (.inr rfl),k,BA k h,DC _⟩
  ·exact⟨.inl rfl,DC _,h,k⟩
noncomputable abbrev TT:Int:=2^1067
def Q(s:Int):Int:=(64+s)*TT
theorem Jc{s t:Int}(h:s<=t):Q s<=Q t:=Qt (Int.add_le_add_left h 64) ⋯
theorem Ap.lo{x:Al}{p:Int}{e:Nat}(h:Ap x p e):p-e<=val x:=by have:=(Tt.mp h.2).1;exact(pw [.L (.g (.n .p)) (.S .p .q)] (.L (.S .q (.n .p)) .p) [_,_] [_]) this
theorem Ap.hi{x:Al}{p:Int}{e:Nat}(h:Ap x p e):val x<=p+e:=Int.le_add_of_sub_left_le (Tt.mp h.2).2
theorem Ap.mk'{x:Al}{p:Int}{e:Nat}(f:Fn x)(h:p-e<=val x)(g:val x<=p+e):Ap x p e:=⟨f,Tt.mpr ⟨(pw [.L (.S .p (.n .p)) .q] (.L (.g (.n .p)) (.S .q .p)) [_,_] [_]) h,(pw [.L .p (.A .q (.n .p))] (.L (.S .p .q) (.n .p)) [_,_] [_]) g⟩⟩
theorem Jd:((2^1067:Nat):Int)=TT:=by rw[V3];rfl
theorem oN:SS=128*TT:=⋯
theorem AN{z w:Int}{n m:Nat}(h:z.natAbs<=n)(g:w.natAbs<=m):(z*w).natAbs<=n*m:=by rw[CC];exact Wo h g
theorem quot{x y:Al}{A B:Int}(hx:Ap x (A*TT) a)(hy:Ap y (B*TT) b)(h1: 1<=B)(h2:B<=256)(hA:A.natAbs<=2*B.natAbs)(ha:a<=2^1040)(hb:b<=2^1040):
  Fn (Cr x y)/\(val (Cr x y)*B-A*SS).natAbs<=512*UU+1152*b+128*a:=by
 have hT:(0:Int)<TT:=⋯
 have hP:TT<=B*TT:=by have:=Qt h1 (Ec hT);rwa[GU] at this
 have hQ:=Qt h2 (Ec hT)
 have hAT:(A*TT).natAbs<=2*(B*TT).natAbs:=by rw[CC,CC,<-Fg];exact Ee _ hA
 have y1:=hy.lo;have y2:=hy.hi
 have x1:=CQ hx.2 hAT
 have c1:(2:Nat)^1040*4<=2^1067:=⋯
 have vy: 0<val y:=by have:=Jd;exact(pw [.l .p (.k (2^1040)),.L .p .q,.L (.S .q (.n .p)) .r,.E (.n (.k (2^1067))) .p] (.T (.j 0) .r) [_,_,_] [_]) hb hP y1 this
 have v1: 2*(B*TT).natAbs+a<=8*(val y).natAbs:=by have:=Jd;exact(pw [.l .p (.k (2^1040)),.l .q (.k (2^1040)),.L .p .q,.L (.S .q (.n .q)) .r,.E (.n (.k (2^1067))) .p] (.l (.A (.m 2 (.b .q)) .p) (.m 8 (.b .r))) [_,_,_] [_,_]) ha hb hP y1 this
 have v2:(val y).natAbs<=512*2^1067:=by have:=Jd;exact(pw [.l .p (.k (2^1040)),.L .p (.l 256 .q),.L .r (.A .p (.n .p)),.T (.j 0) .r,.E (.n (.k (2^1067))) .q] (.l (.b .r) (.k (512*2^1067))) [_,_,_] [_]) hb hQ y2 vy this
 have q:=ZK hx.1 hy.1 (λe=>by rw[e] at vy;exact AL vy ⋯) (k:=1024) ⋯ (by
  refine AA (Ee _ (AA x1 v1)) (Bn ?_)
  rw[show(8:Nat)=2^3 from rfl,show(val y).natAbs*2^1024*2^53=(val y).natAbs*(2^1024*2^53) by ac_rfl,show 2^3*(val y).natAbs*2^1074=(val y).natAbs*(2^3*2^1074) by ac_rfl,<-JW] at ⊢)
 refine⟨q.1,?_⟩
 generalize val (Cr x y)=z at q
 have hz:z.natAbs<=9*2^1074:=by
  have t:=CQ q.2 (AP _)
  rw[CC,CC,show(SS).natAbs=2^1074 by rw[<-CS];exact Lw _] at t
  have u:z.natAbs*(val y).natAbs<=9*2^1074*(val y).natAbs:=by
   refine AA t (AA (B5 (Ee _ (AA x1 v1)) (Jz _ (show 2^1024<=2^1074 by decide +kernel))) (Bn ?_))
   rw[show 8*(val y).natAbs*2^1074=8*((val y).natAbs*2^1074) by ac_rfl,show 9*2^1074*(val y).natAbs=9*((val y).natAbs*2^1074) by ac_rfl] at ⊢
   exact(pw [] (.e (.A (.m 8 (.R (.b .p) (2^1074))) (.R (.b .p) (2^1074))) (.m 9 (.R (.b .p) (2^1074)))) [_] [])
  exact Wf u (NW.mpr λe=>by rw[e] at vy;exact AL vy ⋯)
 have e:(z*B)*((2^1067:Nat):Int)-(A*SS)*((2^1067:Nat):Int)=(z*val y-val x*SS)-z*(val y-B*TT)+(val x-A*TT)*SS:=by
  rw[Jd,V8,Dj]
  generalize z*val y=p1;generalize val x*SS=p2
  rw[show z*B*TT=z*(B*TT) by ac_rfl,show A*SS*TT=A*TT*SS by ac_rfl]
  exact(pw [] (.E (.S .p .q) (.A (.S (.S .r .s) (.S .r .p)) (.S .s .q))) [_,_,_,_] [])
 refine F2 (k:=2^1067) (EF _) ?_
 rw[e]
 refine AA (EZ _ _) (AA (B5 (Q6 _ _) (AN hx.2 (Bn (show(SS).natAbs=128*2^1067 by decide +kernel)))) ?_)
 refine AA (Ro (B5 (AA q.2 (Ee _ v2)) (AN hz hy.2)) _) (Bn ?_)
 rw[show(9*2^1074*b:Nat)=1152*b*2^1067 by rw[show(2:Nat)^1074=128*2^1067 by decide +kernel];exact(pw [] (.e (.m (9*(128*2^1067)) .p) (.R (.m 1152 .p) (2^1067))) [] [_])]
 unfold UU
 generalize (2:Nat)^1024=u
 generalize (2:Nat)^1067=t
 rw[LP,LP]
 ac_rfl
end
section
set_option exponentiation.threshold 3000
open PySem.Float64 PySem
noncomputable def Cg:Al:=4607182418800017408
theorem NL:J6 Cg=.fin false (2^52) (-52):=by
 unfold J6
 have e:Cg.toNat=1023*2^52:=⋯
 rw[e];rfl
theorem sA:Fn Cg:=⟨_,_,_,NL⟩
theorem Lg:val Cg=SS:=by rw[val_eq NL];decide +kernel
theorem Q0(he: -1074<=e):(Iv m 1 e).1*2^1074=m*2^(e+1074).toNat*(Iv m 1 e).2:=shift_one m e 1074 he
theorem fmod_one(hx:Fn x)(h:(val x).natAbs<2^1074):Fn (ES x Cg)/\val (ES x Cg)=val x:=by
 refine hx.elim λa q=>q.elim λm q=>q.elim λe hx=>?_
 have he:=decode_ge hx
 have hv:=val_natAbs hx
 have hm:m<2^53:=by
  unfold J6 at hx
  simp only at hx
  split at hx
  ·split at hx<;>cases hx
  ·split at hx<;>cases hx<;>lia
 have hk:m*2^(e+1074).toNat<2^1074:=by rw[<-hv];exact h
 have hf:ES x Cg=ofBin a ((m*2^(e-min e (-52)).toNat:Nat)%(2^52*2^(-52-min e (-52)).toNat:Nat)) (min e (-52)):=by
  unfold ES
  rw[hx,NL]
  rfl
 have hp:m*2^(e-min e (-52)).toNat<2^52*2^(-52-min e (-52)).toNat:=by
  have h1:(e-min e (-52)).toNat+(min e (-52)+1074).toNat=(e+1074).toNat:=(pw [] (.e (.A (.d (.S .p (.min .p (.j (-52))))) (.d (.A (.min .p (.j (-52))) (.j 1074)))) (.d (.A .p (.j 1074)))) [_] [])
  have h2: 52+(-52-min e (-52)).toNat+(min e (-52)+1074).toNat=1074:=(pw [.L (.j (-1074)) .p] (.e (.A (.A (.k 52) (.d (.S (.j (-52)) (.min .p (.j (-52)))))) (.d (.A (.min .p (.j (-52))) (.j 1074)))) (.k 1074)) [_] []) he
  refine Rm (a:=2^(min e (-52)+1074).toNat) ?_
  rw[Fg,<-JW,h1,<-JW,<-JW,h2]
  exact hk
 rw[Nat.mod_eq_of_lt hp] at hf
 have hs:=Q0 (m:=m*2^(e-min e (-52)).toNat) (e:=min e (-52)) ((pw [.L (.j (-1074)) .p] (.L (.j (-1074)) (.min .p (.j (-52)))) [_] []) he)
 have e3:m*2^(e-min e (-52)).toNat*2^(min e (-52)+1074).toNat=m*2^(e+1074).toNat:=by rw[Fg,<-JW,show(e-min e (-52)).toNat+(min e (-52)+1074).toNat=(e+1074).toNat by exact(pw [] (.e (.A (.d (.S .p (.min .p (.j (-52))))) (.d (.A (.min .p (.j (-52))) (.j 1074)))) (.d (.A .p (.j 1074)))) [_] [])]
 rw[e3] at hs
 have hr:Right (ES x Cg) a (m*2^(e+1074).toNat) 1:=by
  rw[hf]
  exact ofFrac_right (shift_pos _ _ _ ⋯) (by rw[Oa];exact hs) ⋯
 by_cases h0:m=0
 ·subst h0
  rw[H8,<-H8 (2^0)] at hr
  have z:=NJ hr (Co _) ⋯
  refine⟨z.1,z.2.trans ?_⟩
  rw[val_eq hx,H8,H8]
 ·have z:=NJ hr (DX hm) (DX (BX ((Nat.pow_lt_pow_iff_right (by decide: 1<2)).mp (CE (cC _ (Nat.pos_of_ne_zero h0)) hk)) ⋯))
  exact⟨z.1,z.2.trans (val_eq hx).symm⟩
theorem sC(hx:Fn x)(h:(val x).natAbs<2^1074):Fn (divmod x Cg).2/\0<=val (divmod x Cg).2/\val (divmod x Cg).2<=SS/\(val (divmod x Cg).2=val x\/(val (divmod x Cg).2-(val x+SS)).natAbs<=2^1024):=by
 have hm:=fmod_one hx h
 have hS:=CS
 have e:(divmod x Cg).2=if Iu (ES x Cg) then copysign (zero false) Cg else if lt Cg (zero false) !=lt (ES x Cg) (zero false) then add (ES x Cg) Cg else ES x Cg:=by
  unfold divmod
  dsimp only
  by_cases z:Iu (ES x Cg)=true
  ·rw[Bh z,Bh z]
  ·rw[AD z,AD z]
   by_cases w:(lt Cg (zero false) !=lt (ES x Cg) (zero false))=true
   ·rw[Bh w,Bh w]
   ·rw[AD w,AD w]
 have l1:lt Cg (zero false)=false:=⋯
 rw[e,l1]
 generalize ES x Cg=y at hm
 rw[<-hm.2] at h ⊢
 by_cases hz:Iu y=true
 ·rw[Bh hz]
  have v0:val y=0:=by
   refine hm.1.elim λa q=>q.elim λm q=>q.elim λe hy=>?_
   unfold Iu at hz
   rw[hy] at hz
   cases m with
   |zero=>rw[val_eq hy,H8];cases a<;>rfl
   |succ _=>nomatch hz
  have c:copysign (zero false) Cg=zero false:=⋯
  rw[c,val_zero,v0]
  exact⟨NI _,DC _,by decide +kernel,.inl rfl⟩
 ·rw[AD hz]
  have l2:lt y (zero false)=decide (val y<0):=by
   unfold lt
   rw[Kv hm.1 (NI _),val_zero]
   by_cases q:val y<0
   ·rw[JN.mpr q,AU q];rfl
   ·rw[Ct q];exact Gx.mpr λw=>q (JN.mp (AQ (eq_of_beq w)))
  rw[l2]
  by_cases q:val y<0
  ·rw[AU q]
   show Fn (add y Cg)/\0<=val (add y Cg)/\val (add y Cg)<=SS/\(val (add y Cg)=val y\/(val (add y Cg)-(val y+SS)).natAbs<=2^1024)
   have n0:val y+val Cg≠0:=by rw[Lg];exact(pw [.E (.n (.k (2^1074))) .p,.t (.b .q) (.k (2^1074))] (.n (.E (.A .q .p) (.j 0))) [_,_] []) hS h
   have n1:(val y+val Cg).natAbs<=2^1074:=by rw[Lg];exact(pw [.E (.n (.k (2^1074))) .p,.t (.b .q) (.k (2^1074)),.T .q (.j 0)] (.l (.b (.A .q .p)) (.k (2^1074))) [_,_] []) hS h q
   have n2:¬ val y+val Cg<0:=by rw[Lg];exact(pw [.E (.n (.k (2^1074))) .p,.t (.b .q) (.k (2^1074))] (.n (.T (.A .q .p) (.j 0))) [_,_] []) hS h
   refine hm.1.elim λa q=>q.elim λm q=>q.elim λe hy=>?_
   have z:=near (k:=1024) ((add_right hy NL).2 n0) ⋯ ⋯ (by rw[C3];exact AA n1 ⋯)
   refine⟨z.1,z.2.elim λt z=>?_⟩
   have w:=P9 z.2.1
   rw[<-z.1,Lg,C3] at w
   have ht:val (add y Cg)=t:=z.1.trans (by rw[Ct n2];rfl)
   refine(sg (q:=1) ⋯ 1074).elim λt' e=>?_
   have d:=z.2.2 t'
   rw[e,C3,C3,C3] at d
   refine⟨ht▸HF t,?_,.inr w⟩
   rw[ht,<-CS]
   unfold BO at d
   exact DL.mpr ((pw [.l (.b (.A .p .q)) (.k (2^1074)),.l (.A (.S (.b (.A .p .q)) .p) (.S .p (.b (.A .p .q)))) (.A (.S (.b (.A .p .q)) (.k (2^1074))) (.S (.k (2^1074)) (.b (.A .p .q))))] (.l .p (.k (2^1074))) [_,_] [_]) n1 d)
  ·rw[Ct q]
   exact⟨hm.1,DD.mp q,by show val y<=SS;exact(pw [.E (.n (.k (2^1074))) .p,.t (.b .q) (.k (2^1074))] (.L .q .p) [_,_] []) hS h,.inl rfl⟩
theorem l0(hd: 0<d)(hn:BO n (d*h)<=BO n (d*j))(hj: 2*BO n (d*j)<d):h=j:=by
 have h1:BO (d*h) (d*j)<d:=by unfold BO at *;exact(pw [.l (.A (.S .p .q) (.S .q .p)) (.A (.S .p .r) (.S .r .p)),.t (.m 2 (.A (.S .p .r) (.S .r .p))) .s] (.t (.A (.S .q .r) (.S .r .q)) .s) [] [_,_,_,_]) hn hj
 rw[dist_mul] at h1
 have h2:BO h j<1:=(Nat.mul_lt_mul_left hd).mp (by rw[Oa];exact h1)
 unfold BO at h2
 exact(pw [.t (.A (.S .p .q) (.S .q .p)) (.k 1)] (.e .p .q) [] [_,_]) h2
theorem Qb(hx:Fn x)(h: 2*(val x-K*SS).natAbs<2^1074):EV Oy x=K:=by
 refine hx.elim λa q=>q.elim λm q=>q.elim λe hx=>?_
 have he:=decode_ge hx
 have hs:=Q0 (m:=m) he
 rw[<-val_natAbs hx] at hs
 have hd:=shift_pos m 1 e ⋯
 have hn:=halfEven_nearest (Iv m 1 e).1 (Iv m 1 e).2 hd
 have e1:EV Oy x=sgn a (halfEven (Iv m 1 e).1 (Iv m 1 e).2):=by unfold EV;rw[hx];rfl
 have sx:=Le hx
 rw[e1]
 generalize (Iv m 1 e).1=n at*
 generalize (Iv m 1 e).2=d at*
 have hK:sgn a K.natAbs=K:=by
  rw[sx,<-CS] at h
  rcases br a (val x).natAbs with ⟨q,w⟩ | ⟨q,w⟩<;>rw[w] at h<;>rw[q]
  ·show -(K.natAbs:Int)=K
   by_cases k:K<=0
   ·exact(pw [.L .p (.j 0)] (.E (.g (.n (.b .p))) .p) [_] []) k
   ·have:((2^1074:Nat):Int)<=K*((2^1074:Nat):Int):=by
     have:=Qt (show 1<=K by exact(pw [.n (.L .p (.j 0))] (.L (.j 1) .p) [_] []) k) (HF (2^1074));rwa[GU] at this
    lia
  ·show(K.natAbs:Int)=K
   by_cases k: 0<=K
   ·exact(pw [.L (.j 0) .p] (.E (.n (.b .p)) .p) [_] []) k
   ·have:K*((2^1074:Nat):Int) <= -((2^1074:Nat):Int):=by
     have:=Qt (show K <= -1 by exact(pw [.n (.L (.j 0) .p)] (.L .p (.j (-1))) [_] []) k) (HF (2^1074));rwa[NX,GU] at this
    lia
 have hj: 2*BO n (d*K.natAbs)<d:=by
  have t:(val x-K*SS).natAbs=BO (K.natAbs*2^1074) (val x).natAbs:=by
   conv=>lhs;rw[sx,<-hK]
   rw[<-CS,<-sgn_mul,oM]
  rw[t] at h
  have t2:BO n (d*K.natAbs)*2^1074=d*BO (K.natAbs*2^1074) (val x).natAbs:=by
   rw[<-dist_mul,Dv _ (2^1074),<-dist_mul,Dv (2^1074) n,hs] at ⊢
   unfold BO
   rw[show 2^1074*(d*K.natAbs)=d*(K.natAbs*2^1074) by ac_rfl,Dv (val x).natAbs d,Ga]
  refine Rm (a:=2^1074) ?_
  rw[Fg,t2,<-Fg,Dv 2 d,Fg] at ⊢
  exact cz h hd
 rw[l0 hd (hn _) hj]
 exact hK
end
section
set_option exponentiation.threshold 3000
open PySem.Float64 PySem
def Aq(x:Al)(A B:Int)(e:Nat):Prop:=Fn x/\(val x*B-A*SS).natAbs<=e
theorem Je:(SS).natAbs=2^1074:=by rw[<-CS];exact Lw _
theorem iF{x:Al}{i:Int}{k:Nat}(hx:Fn x)(hi:i.natAbs<=2^53)(hk:k<=1990)(h:(val x*i).natAbs<=2^k*2^53):Fn (mul x (BH i))/\(val (mul x (BH i))-val x*i).natAbs<=2^k:=by
 have r:=iB hi
 have e:val x*val (BH i)=val x*i*SS:=by rw[r.2,Fb]
 have q:=iA hx r.1 hk (by rw[e,CC,Je,Dv (2^1074),Wi];exact Ee _ h)
 refine⟨q.1,F2 (EF 1074) ?_⟩
 have w:=q.2
 rw[e,Dv] at w
 rw[CS]
 exact w
theorem Yg{x:Al}{i:Int}{k:Nat}(hx:Fn x)(hi:i.natAbs<=2^53)(hk:k<=1990)(h:(val x*i).natAbs<=2^k*2^53):Fn (mul (BH i) x)/\(val (mul (BH i) x)-val x*i).natAbs<=2^k:=by
 have r:=iB hi
 have e:val (BH i)*val x=val x*i*SS:=by rw[r.2];ac_rfl
 have q:=iA r.1 hx hk (by rw[e,CC,Je,Dv (2^1074),Wi];exact Ee _ h)
 refine⟨q.1,F2 (EF 1074) ?_⟩
 have w:=q.2
 rw[e,Dv] at w
 rw[CS]
 exact w
theorem Aq.abs{x:Al}{A B:Int}{e n:Nat}(h:Aq x A B e)(hB: 1<=B)(hA:A.natAbs<=n*B.natAbs):(val x).natAbs<=n*2^1074+e:=by
 have hb: 1<=B.natAbs:=NW.mpr λz=>by rw[z] at hB;exact AL hB ⋯
 have t:=CQ h.2 (AN hA (Bn Je))
 rw[CC] at t
 refine Wf (AA t ?_) hb
 rw[LP,Wi] at ⊢
 exact GW (Rn _ hb) _
theorem Aq.sub{x y:Al}{A C B:Int}{a c:Nat}(hx:Aq x A B a)(hy:Aq y C B c)(hm:(val x).natAbs+(val y).natAbs<=2^1024*2^53)(hB:B.natAbs<=128):Aq (Bg x y) (A-C) B (128*UU+(a+c)):=by
 have r:=iz hx.1 hy.1 ⋯ (AA (Q6 _ _) hm)
 refine⟨r.1,?_⟩
 have e:val (Bg x y)*B-(A-C)*SS=(val (Bg x y)-(val x-val y))*B+((val x*B-A*SS)-(val y*B-C*SS)):=by rw[Dj,Dj,Dj];exact(pw [] (.E (.S .p (.S .q .r)) (.A (.S .p (.S .s .t)) (.S (.S .s .q) (.S .t .r)))) [_,_,_,_,_] [])
 rw[e]
 exact AA (EZ _ _) (B5 (AA (AN r.2 hB) (Bn (Dv _ _))) (AA (Q6 _ _) (B5 hx.2 hy.2)))
theorem Aq.add{x y:Al}{A C B:Int}{a c:Nat}(hx:Aq x A B a)(hy:Aq y C B c)(hm:(val x).natAbs+(val y).natAbs<=2^1024*2^53)(hB:B.natAbs<=128):Aq (Dl x y) (A+C) B (128*UU+(a+c)):=by
 have r:=iw hx.1 hy.1 ⋯ (AA (EZ _ _) hm)
 refine⟨r.1,?_⟩
 have e:val (Dl x y)*B-(A+C)*SS=(val (Dl x y)-(val x+val y))*B+((val x*B-A*SS)+(val y*B-C*SS)):=by rw[Dj,F3,F3];exact(pw [] (.E (.S .p (.A .q .r)) (.A (.S .p (.A .s .t)) (.A (.S .s .q) (.S .t .r)))) [_,_,_,_,_] [])
 rw[e]
 exact AA (EZ _ _) (B5 (AA (AN r.2 hB) (Bn (Dv _ _))) (AA (EZ _ _) (B5 hx.2 hy.2)))
noncomputable def Lh:Al:=4611686018427387904
noncomputable def Vr:Al:=4616189618054758400
noncomputable def Vs:Al:=4618441417868443648
theorem Yh:Fn Lh:=Ku ⋯
theorem l3:Fn Vr:=Ku ⋯
theorem sD:Fn Vs:=Ku ⋯
theorem NM:val Lh=2*SS:=⋯
theorem Vu:val Vr=4*SS:=⋯
theorem ZM:val Vs=6*SS:=⋯
theorem Aq.lit{x:Al}{n B:Int}(h:Fn x)(e:val x=n*SS):Aq x (n*B) B 0:=⟨h,by rw[e,show n*SS*B-n*B*SS=0 by rw[Int.mul_right_comm,V6]];exact AP _⟩
theorem Aq.six{h:Al}{K B:Int}{e:Nat}(hh:Aq h K B e)(hB:B.natAbs<=128)(hm:(val h).natAbs<=2^1024*2^53):Aq (Cr h Vs) K (6*B) (768*UU+e):=by
 have n6:(val Vs).natAbs=6*2^1074:=by rw[ZM,CC,Je];rfl
 have q:=ZK hh.1 sD (λz=>by rw[z] at n6;exact AL n6 ⋯) (k:=1024) ⋯ (by
  rw[n6,show 6*2^1074*2^1024*2^53=6*(2^1024*2^53)*2^1074 by ac_rfl] at ⊢
  exact Ee _ (AA hm (cC _ ⋯)))
 have d:(val (Cr h Vs)*6-val h).natAbs<=6*UU:=by
  refine F2 (EF 1074) ?_
  have w:=q.2
  rw[n6,ZM,<-Fb] at w
  rw[CS]
  exact AA w (Bn (by unfold UU;ac_rfl))
 refine⟨q.1,?_⟩
 rw[show val (Cr h Vs)*(6*B)-K*SS=(val (Cr h Vs)*6-val h)*B+(val h*B-K*SS) by rw[Dj,Fb];exact(pw [] (.E (.S .p .q) (.A (.S .p .r) (.S .r .q))) [_,_,_] [])]
 exact AA (EZ _ _) (B5 (AA (AN d hB) (Bn ((pw [] (.e (.R (.m 6 .p) 128) (.m 768 .p)) [] [_])))) hh.2)
theorem Aq.hue{x:Al}{K B:Int}{e:Nat}(hx:Aq x K (6*B) e)(h1: 1<=B)(hB:B.natAbs<=128)(hK:K.natAbs<=5*B.natAbs)(he:e<=2^1060):∃j:Int,Aq (divmod x Cg).2 (K+6*B*j) (6*B) (768*UU+e)/\0<=val (divmod x Cg).2/\val (divmod x Cg).2<=SS:=by
 have b1: 1<=B.natAbs:=NW.mpr λz=>by rw[z] at h1;exact AL h1 ⋯
 have hs:(val x).natAbs<2^1074:=by
  have t:=CQ hx.2 (AN hK (Bn Je))
  rw[CC,CC] at t
  refine Rm (a:=B.natAbs) ?_
  have u:=CE he (BX (show 2^1060<2^1074 by decide +kernel) (Rn _ b1))
  have v: 5*B.natAbs*2^1074=5*(2^1074*B.natAbs):=by ac_rfl
  have w:(val x).natAbs*((6:Int).natAbs*B.natAbs)=6*((val x).natAbs*B.natAbs):=by rw[show(6:Int).natAbs=6 from rfl];ac_rfl
  rw[v,w] at t
  generalize (val x).natAbs*B.natAbs=z at*
  generalize 2^1074*B.natAbs=y at*
  exact(pw [.t .p .q,.l (.m 6 .r) (.A (.m 5 .q) .p)] (.t .r .q) [] [_,_,_]) u t
 have r:=sC hx.1 hs
 refine r.2.2.2.elim (λz=>⟨0,⟨r.1,?_⟩,r.2.1,r.2.2.1⟩) λz=>⟨1,⟨r.1,?_⟩,r.2.1,r.2.2.1⟩
 ·rw[z,V5,Ei];exact AA hx.2 (H7 _ _)
 ·rw[show val (divmod x Cg).2*(6*B)-(K+6*B*1)*SS=(val (divmod x Cg).2-(val x+SS))*(6*B)+(val x*(6*B)-K*SS) by
   rw[Fc,F3,Dj,F3,HR SS];exact(pw [] (.E (.S .p (.A .q .r)) (.A (.S .p (.A .s .r)) (.S .s .q))) [_,_,_,_] [])]
  exact AA (EZ _ _) (B5 (AA (AN z (by rw[CC];exact Jz _ hB)) (Bn (Dv _ _))) hx.2)
theorem Aq.turn{h:Al}{K B:Int}{e:Nat}(hh:Aq h K (6*B) e)(h0: 0<=val h)(hS:val h<=SS)(hB:B.natAbs<=128)(he:e<=2^1050):
  Fn (mul (mul (BH 6) h) (BH (2^20*B)))/\EV Oy (mul (mul (BH 6) h) (BH (2^20*B)))=2^20*K:=by
 have ha:(val h).natAbs<=2^1074:=by have:=CS;exact(pw [.L (.j 0) .p,.L .p .q,.E (.n (.k (2^1074))) .q] (.l (.b .p) (.k (2^1074))) [_,_] []) h0 hS this
 have t1:=Yg hh.1 (i:=6) ⋯ (k:=1024) ⋯ (AA (AN ha (AP _)) ⋯)
 have hw:((2:Int)^20*B).natAbs<=2^27:=by rw[CC];exact Jz _ hB
 have a1:(val (mul (BH 6) h)).natAbs<=7*2^1074:=AA (CQ t1.2 (AN ha (AP _))) ⋯
 have t2:=iF t1.1 (AA hw ⋯) (k:=1052) ⋯ (AA (AN a1 hw) ⋯)
 refine⟨t2.1,Qb t2.1 ?_⟩
 generalize val (mul (mul (BH 6) h) (BH (2^20*B)))=z2 at*
 generalize val (mul (BH 6) h)=z1 at*
 rw[show z2-2^20*K*SS=(z2-z1*(2^20*B))+((z1-val h*6)*(2^20*B)+(val h*(6*B)-K*SS)*2^20) by
  rw[Dj,Dj,show val h*6*(2^20*B)=val h*(6*B)*2^20 by ac_rfl,show K*SS*2^20=2^20*K*SS by ac_rfl];exact(pw [] (.E (.S .p .q) (.A (.S .p .r) (.A (.S .r (.Q .s (2^20))) (.S (.Q .s (2^20)) .q)))) [_,_,_,_] [])]
 have b:=AA (EZ _ _) (B5 t2.2 (AA (EZ _ _) (B5 (AN t1.2 hw) (AN hh.2 (AP ((2:Int)^20).natAbs)))))
 refine CE (Jz 2 (AA b (GW (GW (Ee _ he) _) _))) ?_
 decide +kernel
end
section
set_option exponentiation.threshold 3000
open PySem.Float64 PySem
def tM(r g b:Al):Al:=Yc b (Yc g r)
def tm(r g b:Al):Al:=sv b (sv g r)
def dR(r g b:Al):Al:=Bg (tM r g b) (tm r g b)
def dS(r g b:Al):Al:=Dl (tM r g b) (tm r g b)
def lgt(r g b:Al):Al:=Cr (dS r g b) Lh
noncomputable def M7:Al:=4602678819172646912
def sE(x y:Al):Aa:=oLt (cmp x y)||oEq (cmp x y)
noncomputable def ZO(x y:Al):Aa:=cmp x y==some .eq
def den(r g b:Al):Al:=cond (sE (lgt r g b) M7) (dS r g b) (Bg (Bg Lh (tM r g b)) (tm r g b))
def sat(r g b:Al):Al:=Cr (dR r g b) (den r g b)
def ZP(r g b c:Al):Al:=Cr (Bg (tM r g b) c) (dR r g b)
def zf(r g b:Al):Al:=cond (ZO r (tM r g b)) (Bg (ZP r g b b) (ZP r g b g)) (cond (ZO g (tM r g b)) (Bg (Dl Lh (ZP r g b r)) (ZP r g b b)) (Bg (Dl Vr (ZP r g b g)) (ZP r g b r)))
def HO(r g b:Al):Al:=(divmod (Cr (zf r g b) Vs) Cg).2
def E1:Nat:=UU+(EE+EE)
def E2:Nat:=512*UU+1152*E1+128*E1
def E3:Nat:=128*UU+(128*UU+(0+E2)+E2)
def E5:Nat:=768*UU+(768*UU+E3)
structure tZ(s0 s1 s2 mo le:Int):Prop where
 h0:le<=s0/\s0<=mo
 h1:le<=s1/\s1<=mo
 h2:le<=s2/\s2<=mo
 top:mo=s0\/mo=s1\/mo=s2
 bot:le=s0\/le=s1\/le=s2
 lt:le<mo
 hi:mo<=63
 lo: -63<=le
structure Sn(r g b:Al)(s0 s1 s2:Int):Prop where
 r:Ap r (Q s0) EE
 g:Ap g (Q s1) EE
 b:Ap b (Q s2) EE
theorem iG(a c:Int):Q a-Q c=(a-c)*TT:=by unfold Q;rw[<-Dj];congr 1;exact(pw [] (.E (.S (.A (.j 64) .p) (.A (.j 64) .q)) (.S .p .q)) [_,_] [])
theorem oO(a c:Int):Q a+Q c=(128+a+c)*TT:=by unfold Q;rw[<-F3];congr 1;exact(pw [] (.E (.A (.A (.j 64) .p) (.A (.j 64) .q)) (.A (.A (.j 128) .p) .q)) [_,_] [])
theorem MJ:(TT).natAbs=2^1067:=by rw[<-Jd];exact Lw _
section
variable{r g b:Al}{s0 s1 s2 mo le:Int}(H:tZ s0 s1 s2 mo le)(S:Sn r g b s0 s1 s2)
include H S
theorem t4:Ap (tM r g b) (Q mo) EE:=by
 have t:=iE S.r.1 S.g.1 S.b.1
 have f:Fn (tM r g b):=t.or.elim (λe=>by unfold tM;rw[e];exact S.r.1) λe=>e.elim (λe=>by unfold tM;rw[e];exact S.g.1) λe=>by unfold tM;rw[e];exact S.b.1
 refine .mk' f ?_ ?_
 ·exact H.top.elim (λe=>e▸BA S.r.lo t.r) λe=>e.elim (λe=>e▸BA S.g.lo t.g) λe=>e▸BA S.b.lo t.b
 ·exact t.or.elim (λe=>by unfold tM;rw[e];exact BA S.r.hi (V0 (Jc H.h0.2) _)) λe=>e.elim (λe=>by unfold tM;rw[e];exact BA S.g.hi (V0 (Jc H.h1.2) _)) λe=>by unfold tM;rw[e];exact BA S.b.hi (V0 (Jc H.h2.2) _)
theorem xV:Ap (tm r g b) (Q le) EE:=by
 have t:=sz S.r.1 S.g.1 S.b.1
 have f:Fn (tm r g b):=t.or.elim (λe=>by unfold tm;rw[e];exact S.r.1) λe=>e.elim (λe=>by unfold tm;rw[e];exact S.g.1) λe=>by unfold tm;rw[e];exact S.b.1
 refine .mk' f ?_ ?_
 ·exact t.or.elim (λe=>by unfold tm;rw[e];exact BA (VZ (Jc H.h0.1) _) S.r.lo) λe=>e.elim (λe=>by unfold tm;rw[e];exact BA (VZ (Jc H.h1.1) _) S.g.lo) λe=>by unfold tm;rw[e];exact BA (VZ (Jc H.h2.1) _) S.b.lo
 ·exact H.bot.elim (λe=>e▸BA t.r S.r.hi) λe=>e.elim (λe=>e▸BA t.g S.g.hi) λe=>e▸BA t.b S.b.hi
omit S in
theorem sG(h:le<=c/\c<=mo):(mo-c).natAbs<=1*(mo-le).natAbs/\(mo-c).natAbs<=126:=by have VJ:=H.hi;have:=H.lo;exact(pw [.a (.L .p .q) (.L .q .r),.L .r (.j 63),.L (.j (-63)) .p] (.a (.l (.b (.S .r .q)) (.m 1 (.b (.S .r .p)))) (.l (.b (.S .r .q)) (.k 126))) [_,_,_] []) h VJ this
omit S in
theorem wB: 1<=mo-le/\mo-le<=256/\(mo-le).natAbs<=128:=by have VK:=H.hi;have g8:=H.lo;have:=H.lt;exact(pw [.L .p (.j 63),.L (.j (-63)) .q,.T .q .p] (.a (.L (.j 1) (.S .p .q)) (.a (.L (.S .p .q) (.j 256)) (.l (.b (.S .p .q)) (.k 128)))) [_,_] []) VK g8 this
omit H S in
theorem mag(h:a.natAbs<=n)(hn:n<=512):(a*TT).natAbs+(EE+EE)<=2^1024*2^53:=
 AA (Ro (AN (AA h hn) (Bn MJ)) _) ⋯
theorem apN(hc:Ap c (Q s) EE)(h:le<=s/\s<=mo):Ap (Bg (tM r g b) c) ((mo-s)*TT) E1:=by
 have q:=Ap.sub (t4 H S) hc (by rw[iG];exact mag (sG H h).2 ⋯)
 rw[iG] at q
 exact q
theorem apR:Ap (dR r g b) ((mo-le)*TT) E1:=apN H S (xV H S) ⟨DC _,Ec H.lt⟩
theorem zg(hc:Ap c (Q s) EE)(h:le<=s/\s<=mo):Aq (ZP r g b c) (mo-s) (mo-le) E2:=
 quot (apN H S hc h) (apR H S) (wB H).1 (wB H).2.1 (AA (sG H h).1 (Ee _ ⋯)) ⋯ ⋯
theorem abC(hc:Ap c (Q s) EE)(h:le<=s/\s<=mo):(val (ZP r g b c)).natAbs<=1*2^1074+E2:=(zg H S hc h).abs (wB H).1 (sG H h).1
omit H S in
theorem Yi(hx:Fn x)(hy:Fn y):ZO x y=decide (val x=val y):=by
 unfold ZO
 rw[Kv hx hy]
 by_cases h:val x=val y
 ·rw[h,AU rfl,Q7.mpr rfl];rfl
 ·rw[Ct h];exact Gx.mpr λw=>h (Q7.mp (AQ (eq_of_beq w)))
omit H S in
theorem Js(hx:Ap x (Q a) EE)(hy:Ap y (Q c) EE)(e:val x=val y):a=c:=by
 have t:=Tq (by rw[<-e,<-Int.natAbs_neg,Int.neg_sub];exact hx.2) hy.2
 rw[iG,CC,MJ] at t
 have u:(a-c).natAbs<1:=Rm (CE t ⋯)
 exact(pw [.t (.b (.S .p .q)) (.k 1)] (.E .p .q) [_,_] []) u
def KK(s0 s1 s2 mo B K:Int):Prop:=(mo=s0/\K=s1-s2)\/(mo=s1/\K=2*B+s2-s0)\/(mo=s2/\K=4*B+s0-s1)
omit H S in
theorem Aq.mono(h:Aq x A B e)(c:A=C)(g:e<=f):Aq x C B f:=⟨h.1,c▸AA h.2 g⟩
theorem xW:∃K,KK s0 s1 s2 mo (mo-le) K/\Aq (zf r g b) K (mo-le) E3/\K.natAbs<=5*(mo-le).natAbs:=by
 have cr:=zg H S S.r H.h0;have cg:=zg H S S.g H.h1;have cb:=zg H S S.b H.h2
 have ar:=abC H S S.r H.h0;have ag:=abC H S S.g H.h1;have ab:=abC H S S.b H.h2
 have B:=wB H
 have wr:=(sG H H.h0).1;have wg:=(sG H H.h1).1;have wb:=(sG H H.h2).1
 have M:=t4 H S
 unfold zf
 rw[Yi S.r.1 M.1,Yi S.g.1 M.1]
 by_cases h0:val r=val (tM r g b)
 ·rw[AU h0]
  have q:=cb.sub cg (AA (B5 ab ag) ⋯) B.2.2
  have e:=Js S.r M h0
  refine⟨s1-s2,.inl ⟨e.symm,rfl⟩,q.mono ((pw [] (.E (.S (.S .p .q) (.S .p .r)) (.S .r .q)) [_,_,_] [])) ⋯,?_⟩
  have bF:=H.h1;have:=H.h2;exact(pw [.a (.L .p .q) (.L .q .r),.a (.L .p .s) (.L .s .r)] (.l (.b (.S .q .s)) (.m 5 (.b (.S .r .p)))) [_,_,_,_] []) bF this
 ·rw[Ct h0]
  by_cases h1:val g=val (tM r g b)
  ·rw[AU h1]
   have p:=(Aq.lit Yh NM).add cr (AA (B5 (Bn (show _=2*2^1074 by rw[NM,CC,Je];rfl)) ar) ⋯) B.2.2
   have pa:=p.abs B.1 ((pw [.l (.b (.S .p .q)) (.m 1 (.b (.S .p .r)))] (.l (.b (.A (.l 2 (.S .p .r)) (.S .p .q))) (.m 3 (.b (.S .p .r)))) [_,_,_] []) wr)
   have q:=p.sub cb (AA (B5 pa ab) ⋯) B.2.2
   have e:=Js S.g M h1
   refine⟨2*(mo-le)+s2-s0,.inr (.inl ⟨e.symm,rfl⟩),q.mono ((pw [] (.E (.S (.A (.l 2 (.S .p .q)) (.S .p .r)) (.S .p .s)) (.S (.A (.l 2 (.S .p .q)) .s) .r)) [_,_,_,_] [])) (AP _),?_⟩
   have ji:=H.h0;have:=H.h2;exact(pw [.a (.L .p .q) (.L .q .r),.a (.L .p .s) (.L .s .r)] (.l (.b (.S (.A (.l 2 (.S .r .p)) .s) .q)) (.m 5 (.b (.S .r .p)))) [_,_,_,_] []) ji this
  ·rw[Ct h1]
   have p:=(Aq.lit l3 Vu).add cg (AA (B5 (Bn (show _=4*2^1074 by rw[Vu,CC,Je];rfl)) ag) ⋯) B.2.2
   have pa:=p.abs B.1 ((pw [.l (.b (.S .p .q)) (.m 1 (.b (.S .p .r)))] (.l (.b (.A (.l 4 (.S .p .r)) (.S .p .q))) (.m 5 (.b (.S .p .r)))) [_,_,_] []) wg)
   have q:=p.sub cr (AA (B5 pa ar) ⋯) B.2.2
   have e:s2=mo:=by
    have t:=(iE S.r.1 S.g.1 S.b.1).or
    exact Js S.b M (t.elim (λz=>AL (Ai val z.symm) h0) λz=>z.elim (λz=>AL (Ai val z.symm) h1) λz=>Ai val z.symm)
   refine⟨4*(mo-le)+s0-s1,.inr (.inr ⟨e.symm,rfl⟩),q.mono (by lia) (AP _),?_⟩
   have lV:=H.h0;have:=H.h1;lia
theorem sH:∃K j:Int,KK s0 s1 s2 mo (mo-le) K/\Aq (HO r g b) (K+6*(mo-le)*j) (6*(mo-le)) E5/\0<=val (HO r g b)/\val (HO r g b)<=SS:=
 (xW H S).elim λK z=>(Aq.hue (z.2.1.six (wB H).2.2 (AA (z.2.1.abs (wB H).1 z.2.2) ⋯)) (wB H).1 (wB H).2.2 z.2.2 ⋯).elim λj w=>⟨K,j,z.1,w⟩
end
end
section
set_option exponentiation.threshold 3000
open PySem.Float64 PySem
def E1b:Nat:=UU+((UU+(0+EE))+EE)
def E2b:Nat:=512*UU+1152*E1b+128*E1
noncomputable def Nn(m:Int):Int:=128-(if m<0 then -m else m)
theorem sI(hx:Fn x)(hy:Fn y):sE x y=decide (val x<=val y):=by
 unfold sE
 rw[Kv hx hy]
 rcases V2 (val x) (val y) with h | h | h
 ·rw[JN.mpr h,AU (Ec h)];rfl
 ·rw[h,Q7.mpr rfl,AU (DC _)];rfl
 ·rw[NU.mpr h,Ct (Fd.mpr h)];rfl
theorem oP(h:val x≠0):Iu x=false:=by
 unfold Iu
 unfold val at h
 cases e:J6 x with
 |fin a m e'=>
  cases m with
  |zero=>rw[e] at h;exact AL (by show sgn a (0*_)=0;rw[H8];cases a<;>rfl) h
  |succ m=>rfl
 |nan=>rfl
 |inf _=>rfl
theorem l4:Fn M7:=Ku ⋯
theorem Vv: 2*val M7=128*TT:=⋯
section
variable{r g b:Al}{s0 s1 s2 mo le:Int}(H:tZ s0 s1 s2 mo le)(S:Sn r g b s0 s1 s2)
include H S
theorem apS:Ap (dS r g b) ((128+mo+le)*TT) E1:=by
 have q:=Ap.add (t4 H S) (xV H S) (by rw[oO];exact mag (n:=254) (by have VJ:=H.hi;have VK:=H.lo;have:=H.lt;exact(pw [.L .p (.j 63),.L (.j (-63)) .q,.T .q .p] (.l (.b (.A (.A (.j 128) .p) .q)) (.k 254)) [_,_] []) VJ VK this) ⋯)
 rw[oO] at q
 exact q
theorem iH:Fn (lgt r g b)/\(val (lgt r g b)*2-(128+mo+le)*TT).natAbs<=2*UU+E1:=by
 have s:=apS H S
 have n2:(val Lh).natAbs=2*2^1074:=by rw[NM,CC,Je];rfl
 have q:=ZK s.1 Yh (λz=>by rw[z] at n2;exact AL n2 ⋯) (k:=1024) ⋯ (by
  rw[n2,show 2*2^1074*2^1024*2^53=2*(2^1024*2^53)*2^1074 by ac_rfl] at ⊢
  exact Ee _ (AA (CQ s.2 (AN (n:=254) (by have g8:=H.hi;have bF:=H.lo;have:=H.lt;exact(pw [.L .p (.j 63),.L (.j (-63)) .q,.T .q .p] (.l (.b (.A (.A (.j 128) .p) .q)) (.k 254)) [_,_] []) g8 bF this) (Bn MJ))) ⋯))
 refine⟨q.1,Tq (F2 (EF 1074) ?_) s.2⟩
 have w:=q.2
 rw[n2,NM,<-Fb] at w
 rw[CS]
 exact AA w (Bn (by unfold UU;ac_rfl))
theorem iI:Ap (den r g b) (Nn (mo+le)*TT) E1b:=by
 have l:=iH H S
 have c:=Tt.mp l.2
 have hT:=Jd
 have c1:(((2*UU+E1:Nat):Int))<TT:=⋯
 have hp:(128+mo+le)*TT=128*TT+(mo+le)*TT:=by rw[<-F3];congr 1;exact(pw [] (.E (.A (.A (.j 128) .p) .q) (.A (.j 128) (.A .p .q))) [_,_] [])
 rw[hp] at c
 unfold den Nn
 rw[sI l.1 l4]
 by_cases h:val (lgt r g b)<=val M7
 ·rw[AU h]
  have k:mo+le<1:=bJ (by have:=Vv;rw[GU];exact(pw [.a (.L (.g (.n (.A (.m 2 .p) .q))) (.S (.Q .p 2) (.A (.l 128 .q) .r))) (.L (.S (.Q .p 2) (.A (.l 128 .q) .r)) (.n (.A (.m 2 .p) .q))),.T (.n (.A (.m 2 .p) .q)) .q,.L .p .s,.E (.l 2 .s) (.l 128 .q)] (.T .r .q) [_,_,_,_] [_,_]) c c1 h this) ⋯
  have s:=apS H S
  refine⟨s.1,AA ?_ (show E1<=E1b by decide +kernel)⟩
  rw[show(128-if mo+le<0 then -(mo+le) else mo+le)=128+mo+le by split<;>lia]
  exact s.2
 ·rw[Ct h]
  have k: -1<mo+le:=bJ (by have:=Vv;rw[NX,GU];exact(pw [.a (.L (.g (.n (.A (.m 2 .p) .q))) (.S (.Q .p 2) (.A (.l 128 .q) .r))) (.L (.S (.Q .p 2) (.A (.l 128 .q) .r)) (.n (.A (.m 2 .p) .q))),.T (.n (.A (.m 2 .p) .q)) .q,.n (.L .p .s),.E (.l 2 .s) (.l 128 .q)] (.T (.g .q) .r) [_,_,_,_] [_,_]) c c1 h this) ⋯
  have t:Ap Lh (256*TT) 0:=⟨Yh,by decide +kernel⟩
  have q1:=Ap.sub t (t4 H S) (by rw[show Q mo=(64+mo)*TT from rfl,<-Dj];exact AA (B5 (AN (n:=256) (by have ji:=H.hi;have lV:=H.lo;have:=H.lt;exact(pw [.L .p (.j 63),.L (.j (-63)) .q,.T .q .p] (.l (.b (.S (.j 256) (.A (.j 64) .p))) (.k 256)) [_,_] []) ji lV this) (Bn MJ)) (AP _)) ⋯)
  have q2:=Ap.sub q1 (xV H S) (by rw[show Q mo=(64+mo)*TT from rfl,show Q le=(64+le)*TT from rfl,<-Dj,<-Dj];exact AA (B5 (AN (n:=256) (by have Tu:=H.hi;have xX:=H.lo;have:=H.lt;exact(pw [.L .p (.j 63),.L (.j (-63)) .q,.T .q .p] (.l (.b (.S (.S (.j 256) (.A (.j 64) .p)) (.A (.j 64) .q))) (.k 256)) [_,_] []) Tu xX this) (Bn MJ)) (AP _)) ⋯)
  have e: 256*TT-Q mo-Q le=(128-if mo+le<0 then -(mo+le) else mo+le)*TT:=by
   rw[show Q mo=(64+mo)*TT from rfl,show Q le=(64+le)*TT from rfl,<-Dj,<-Dj]
   congr 1
   split<;>lia
  rw[e] at q2
  exact q2
omit S in
theorem ZQ: 1<=Nn (mo+le)/\Nn (mo+le)<=256/\(mo-le).natAbs<=1*(Nn (mo+le)).natAbs/\(Nn (mo+le)).natAbs<=128:=by
 have th9:=H.hi;have xY:=H.lo;have:=H.lt
 unfold Nn
 split<;>lia
theorem sJ:Aq (sat r g b) (mo-le) (Nn (mo+le)) E2b:=
 have N:=ZQ H
 quot (apR H S) (iI H S) N.1 N.2.1 (AA N.2.2.1 (Ee _ ⋯)) ⋯ ⋯
theorem l6:Fn (mul (BH (2^20)) (lgt r g b))/\EV Oy (mul (BH (2^20)) (lgt r g b))=2^12*(128+mo+le):=by
 have l:=iH H S
 have hl:(val (lgt r g b)).natAbs<=2^1076:=by
  have t:=CQ l.2 (AN (n:=254) (by have sM:=H.hi;have Ab2:=H.lo;have:=H.lt;exact(pw [.L .p (.j 63),.L (.j (-63)) .q,.T .q .p] (.l (.b (.A (.A (.j 128) .p) .q)) (.k 254)) [_,_] []) sM Ab2 this) (Bn MJ))
  rw[CC] at t
  exact AA (Rn _ ⋯) (AA t ⋯)
 have q:=Yg l.1 (i:=2^20) ⋯ (k:=1044) ⋯ (AA (AN hl (AP _)) ⋯)
 refine⟨q.1,Qb q.1 ?_⟩
 generalize val (mul (BH (2^20)) (lgt r g b))=z at q ⊢
 have e:(z-2^12*(128+mo+le)*SS)*2=(z-val (lgt r g b)*2^20)*2+(val (lgt r g b)*2-(128+mo+le)*TT)*2^20:=by
  rw[oN,Dj,Dj,Dj,show val (lgt r g b)*2^20*2=val (lgt r g b)*2*2^20 by ac_rfl,show 2^12*(128+mo+le)*(128*TT)*2=(128+mo+le)*TT*(2^12*128*2) by ac_rfl]
  exact(pw [] (.E (.S (.Q .p 2) (.Q .q (2^12*128*2))) (.A (.S (.Q .p 2) (.Q (.Q .r 2) (2^20))) (.S (.Q (.Q .r 2) (2^20)) (.Q .q (2^20))))) [_,_,_] [])
 have w:=AA (EZ _ _) (B5 (AN q.2 (AP (2:Int).natAbs)) (AN l.2 (AP ((2:Int)^20).natAbs)))
 rw[<-e,CC,Dv] at w
 exact CE w ⋯
theorem l7:Fn (mul (mul (BH (2^20)) (sat r g b)) (BH (Nn (mo+le))))/\EV Oy (mul (mul (BH (2^20)) (sat r g b)) (BH (Nn (mo+le))))=2^20*(mo-le):=by
 have N:=ZQ H
 have s:=sJ H S
 have a0:=AA (s.abs N.1 N.2.2.1) (show 1*2^1074+E2b<=2^1075 by decide +kernel)
 have q1:=Yg s.1 (i:=2^20) ⋯ (k:=1044) ⋯ (AA (AN a0 (AP _)) ⋯)
 have a1:=AA (CQ q1.2 (AN a0 (AP _))) (show 2^1075*((2:Int)^20).natAbs+2^1044<=2^1096 by decide +kernel)
 have q2:=iF q1.1 (AA N.2.2.2 ⋯) (k:=1052) ⋯ (AA (AN a1 N.2.2.2) ⋯)
 refine⟨q2.1,Qb q2.1 ?_⟩
 generalize val (mul (mul (BH (2^20)) (sat r g b)) (BH (Nn (mo+le))))=z2 at*
 generalize val (mul (BH (2^20)) (sat r g b))=z1 at*
 rw[show z2-2^20*(mo-le)*SS=(z2-z1*Nn (mo+le))+((z1-val (sat r g b)*2^20)*Nn (mo+le)+(val (sat r g b)*Nn (mo+le)-(mo-le)*SS)*2^20) by
  rw[Dj,Dj,show val (sat r g b)*2^20*Nn (mo+le)=val (sat r g b)*Nn (mo+le)*2^20 by ac_rfl,show(mo-le)*SS*2^20=2^20*(mo-le)*SS by ac_rfl];exact(pw [] (.E (.S .p .q) (.A (.S .p .r) (.A (.S .r (.Q .s (2^20))) (.S (.Q .s (2^20)) .q)))) [_,_,_,_] [])]
 have w:=AA (EZ _ _) (B5 q2.2 (AA (EZ _ _) (B5 (AN q1.2 N.2.2.2) (AN s.2 (AP ((2:Int)^20).natAbs)))))
 exact CE (Jz 2 w) ⋯
theorem sO:ZO (tm r g b) (tM r g b)=false/\Iu (dR r g b)=false/\Iu (den r g b)=false:=by
 have c:∀{x:Al}{A:Int}{e:Nat},Ap x (A*TT) e->e<2^1067->1<=A->val x≠0:=λ{x A e} h he hA z=>by
  have:=h.lo
  have:=Qt hA (show(0:Int)<=TT by decide +kernel)
  have:=Jd
  rw[z] at*
  lia
 refine⟨?_,oP (c (apR H S) ⋯ (wB H).1),oP (c (iI H S) ⋯ (ZQ H).1)⟩
 rw[Yi (xV H S).1 (t4 H S).1]
 exact Ct λe=>AL (Js (xV H S) (t4 H S) e) (by have:=H.lt;exact(pw [.T .p .q] (.n (.E .p .q)) [_,_] []) this)
end
end
section
set_option exponentiation.threshold 3000
open PySem.Float64 PySem
def Qc(l m:Nat->Nat)(i:Nat):Al:=OO ([(l 0:Int),l 1,l 2,m 0,m 1,m 2].getD i 0) 64
noncomputable def aV(l m:Nat->Nat):List Int:=[1,l 0,l 1,l 2,m 0,m 1,m 2]
theorem Yj(hl:∀k,l k<=63)(hm:∀k,m k<=63)(h:Tr x k=true):Fn (x.f (Qc l m))/\(val (x.f (Qc l m))-dot (tY k) (aV l m)).natAbs<=EE:=by
 have n:∀i,([(l 0:Int),l 1,l 2,m 0,m 1,m 2].getD i 0).natAbs<=2^53:=λi=>by
  match i with
  |0=>exact AA (hl 0) ⋯
  |1=>exact AA (hl 1) ⋯
  |2=>exact AA (hl 2) ⋯
  |3=>exact AA (hm 0) ⋯
  |4=>exact AA (hm 1) ⋯
  |5=>exact AA (hm 2) ⋯
  |_+6=>exact Co _
 have W:Wn (aV l m) BB:=⟨AP _,hl 0,hl 1,hl 2,hm 0,hm 1,hm 2,trivial⟩
 have z:=Fx.near W (λi=>AbU (n i)) (λw=>by show w*1+0=w;rw[Fc,Ei]) x (bt h).1
 refine⟨z.1,?_⟩
 have q:=ZL (Qa x.l (Yb (tY k))) (aV l m) BB W
 rw[GO,NK] at q
 have t:=Tq z.2 (Int.sub_eq_add_neg▸q)
 rw[Ga] at t
 exact AA t (Bm (bt h).2)
theorem iJ(a b:Int):(2:Int)^1073+(-TT*a+TT*b)=Q (b-a):=by
 rw[show(2:Int)^1073=64*TT by decide +kernel]
 unfold Q
 generalize TT=t
 grind
theorem seen(hl:∀k,l k<=63)(hm:∀k,m k<=63):Sn (rX.f (Qc l m)) (gX.f (Qc l m)) (bX.f (Qc l m)) (m 0-l 0) (m 1-l 1) (m 2-l 2):=by
 have hr:=Yj hl hm sk;have hg:=Yj hl hm sq;have hb:=Yj hl hm sr
 have e0:dot (tY 0) (aV l m)=Q (m 0-l 0):=by
  rw[<-iJ]
  show 2^1073*1+(-TT*(l 0:Int)+(0*_+(0*_+(TT*(m 0:Int)+(0*_+(0*_+0))))))=_
  simp only[DU,Dn,Ei,Fc]
 have e1:dot (tY 1) (aV l m)=Q (m 1-l 1):=by
  rw[<-iJ]
  show 2^1073*1+(0*_+(-TT*(l 1:Int)+(0*_+(0*_+(TT*(m 1:Int)+(0*_+0))))))=_
  simp only[DU,Dn,Ei,Fc]
 have e2:dot (tY 2) (aV l m)=Q (m 2-l 2):=by
  rw[<-iJ]
  show 2^1073*1+(0*_+(0*_+(-TT*(l 2:Int)+(0*_+(0*_+(TT*(m 2:Int)+0))))))=_
  simp only[DU,Dn,Ei,Fc]
 rw[e0] at hr;rw[e1] at hg;rw[e2] at hb
 exact⟨hr,hg,hb⟩
noncomputable def FJ(a b:Int):Int:=if b<a then b else a
noncomputable def GP(a b:Int):Int:=if a<b then b else a
theorem l8(a b:Int):FJ a b<=a/\FJ a b<=b/\(FJ a b=a\/FJ a b=b):=by
 unfold FJ;split
 ·exact⟨Ec ‹b<a›,DC b,.inr rfl⟩
 ·exact⟨DC a,DD.mp ‹¬b<a›,.inl rfl⟩
theorem l9(a b:Int):a<=GP a b/\b<=GP a b/\(GP a b=a\/GP a b=b):=by
 unfold GP;split
 ·exact⟨Ec ‹a<b›,DC b,.inr rfl⟩
 ·exact⟨DC a,DD.mp ‹¬a<b›,.inl rfl⟩
noncomputable def xZ(a:Int):Int:=if a<0 then -a else a
noncomputable def VL(X w:Int)(lamp:Nat):Int:=(X-2*(lamp:Int)*w).fmod (6*w)
def Li(X w:Int)(lamp:Nat):Aa:=decide (2*FJ (VL X w lamp) (6*w-VL X w lamp)<w)
def shr(X w:Int)(lamp:Nat):Int:=FJ w (GP 0 (xZ (VL X w lamp-3*w)-w))
theorem sP(hB: 1<=B):VL (2^20*(K+6*B*j)) (2^20*B) lamp=2^20*((K-2*(lamp:Int)*B)%(6*B)):=by
 unfold VL
 rw[NS _ (by exact(pw [.L (.j 1) .p] (.L (.j 0) (.l 6 (.l (2^20) .p))) [_] []) hB),show 2^20*(K+6*B*j)-2*(lamp:Int)*(2^20*B)=2^20*((K-2*(lamp:Int)*B)+(6*B)*j) by grind,
  show 6*(2^20*B)=2^20*(6*B) by ac_rfl,Int.mul_emod_mul_of_pos _ _ ⋯,Int.add_mul_emod_self_left]
def t5(y B:Int):Aa:=decide (2*FJ y (6*B-y)<B)
def t6(y B:Int):Int:=FJ B (GP 0 (xZ (y-3*B)-B))
theorem ma(h:VL X w lamp=2^20*y)(hw:w=2^20*B):Li X w lamp=t5 y B/\shr X w lamp=2^20*t6 y B:=by
 have mn:∀a b:Int,FJ (2^20*a) (2^20*b)=2^20*FJ a b:=λa b=>by unfold FJ;split<;>split<;>lia
 have mx:∀b:Int,GP 0 (2^20*b)=2^20*GP 0 b:=λb=>by unfold GP;split<;>split<;>lia
 have ab:∀a:Int,xZ (2^20*a)=2^20*xZ a:=λa=>by unfold xZ;split<;>split<;>lia
 have s:∀a b:Int,2^20*a-2^20*b=2^20*(a-b):=λa b=>(V8 _ _ _).symm
 have m:∀k:Int,k*(2^20*B)=2^20*(k*B):=λk=>Int.mul_left_comm _ _ _
 unfold Li shr t5 t6
 rw[h,hw,m,m,s,s,mn,ab,s,mx,mn]
 refine⟨OG.mpr ?_,rfl⟩
 lia
noncomputable def yy(K B:Int)(lamp:Nat):Int:=(K-2*(lamp:Int)*B)%(6*B)
def md(s0 s1 s2 le B K:Int):Aa:=(t5 (yy K B 0) B==(decide (s1<0)&&decide (s2<0))&&(t5 (yy K B 1) B==(decide (s0<0)&&decide (s2<0))&&t5 (yy K B 2) B==(decide (s0<0)&&decide (s1<0))))&&
 (t6 (yy K B 0) B==s0-le&&(t6 (yy K B 1) B==s1-le&&t6 (yy K B 2) B==s2-le))
def x3(s0 s1 s2:Int):Aa:=
 let mo:=GP (GP s0 s1) s2
 let le:=FJ (FJ s0 s1) s2
 cond (decide (le<mo)) ((!decide (mo=s0)||md s0 s1 s2 le (mo-le) (s1-s2))&&((!decide (mo=s1)||md s0 s1 s2 le (mo-le) (2*(mo-le)+s2-s0))&&(!decide (mo=s2)||md s0 s1 s2 le (mo-le) (4*(mo-le)+s0-s1)))) true
def Ab3:Aa:=(Cn 73).all λa=>(Cn 73).all λb=>cond (Bf 36 (a+b)&&Bf (a+b) 108) (x3 ((a:Int)-36) ((b:Int)-36) (72-a-b)) true
theorem me:Ab3=true:=⋯
theorem mf(H:tZ s0 s1 s2 mo le)(hz:s0+s1+s2=0)(h0: -36<=s0/\s0<=36)(h1: -36<=s1/\s1<=36)(h2: -36<=s2/\s2<=36)(hK:KK s0 s1 s2 mo (mo-le) K):md s0 s1 s2 le (mo-le) K=true:=by
 have c:=BW.mp (BW.mp me (s0+36).toNat (Fe.mpr ((pw [.a (.L (.j (-36)) .p) (.L .p (.j 36))] (.t (.d (.A .p (.j 36))) (.k 73)) [_] []) h0))) (s1+36).toNat (Fe.mpr ((pw [.a (.L (.j (-36)) .p) (.L .p (.j 36))] (.t (.d (.A .p (.j 36))) (.k 73)) [_] []) h1))
 rw[Lu.mpr ⟨JS (by exact(pw [.E (.A (.A .p .q) .r) (.j 0),.a (.L (.j (-36)) .r) (.L .r (.j 36))] (.l (.k 36) (.A (.d (.A .p (.j 36))) (.d (.A .q (.j 36))))) [_,_,_] []) hz h2),JS (by exact(pw [.E (.A (.A .p .q) .r) (.j 0),.a (.L (.j (-36)) .q) (.L .q (.j 36)),.a (.L (.j (-36)) .r) (.L .r (.j 36))] (.l (.A (.d (.A .p (.j 36))) (.d (.A .q (.j 36)))) (.k 108)) [_,_,_] []) hz h1 h2)⟩] at c
 have e0:(((s0+36).toNat:Nat):Int)-36=s0:=(pw [.a (.L (.j (-36)) .p) (.L .p (.j 36))] (.E (.S (.n (.d (.A .p (.j 36)))) (.j 36)) .p) [_] []) h0
 have e1:(((s1+36).toNat:Nat):Int)-36=s1:=(pw [.a (.L (.j (-36)) .p) (.L .p (.j 36))] (.E (.S (.n (.d (.A .p (.j 36)))) (.j 36)) .p) [_] []) h1
 have e2:(72:Int)-((s0+36).toNat:Nat)-((s1+36).toNat:Nat)=s2:=(pw [.E (.A (.A .p .q) .r) (.j 0),.E (.S (.n (.d (.A .p (.j 36)))) (.j 36)) .p,.E (.S (.n (.d (.A .q (.j 36)))) (.j 36)) .q] (.E (.S (.S (.j 72) (.n (.d (.A .p (.j 36))))) (.n (.d (.A .q (.j 36))))) .r) [_,_,_] []) hz e0 e1
 rw[e0,e1,e2] at c
 have c:=c
 have em:GP (GP s0 s1) s2=mo:=by
  have VJ:=H.h0;have VK:=H.h1;have g8:=H.h2;have:=H.top
  unfold GP;split<;>split<;>lia
 have el:FJ (FJ s0 s1) s2=le:=by
  have bF:=H.h0;have ji:=H.h1;have lV:=H.h2;have:=H.bot
  unfold FJ;split<;>split<;>lia
 unfold x3 at c
 dsimp only at c
 rw[em,el,AU H.lt] at c
 have c:=bt c
 have d:=bt c.2
 have u:∀{p:Prop} [Sj p] {q:Aa},(!decide p||q)=true->p->q=true:=λh hp=>by rw[AU hp] at h;exact h
 exact hK.elim (λh=>h.2▸u c.1 h.1) λh=>h.elim (λh=>h.2▸u d.1 h.1) λh=>h.2▸u d.2 h.1
structure Vw(X w:Int)(s0 s1 s2 le:Int):Prop where
 n0:Li X w 0=(decide (s1<0)&&decide (s2<0))
 n1:Li X w 1=(decide (s0<0)&&decide (s2<0))
 n2:Li X w 2=(decide (s0<0)&&decide (s1<0))
 h0:shr X w 0=2^20*(s0-le)
 h1:shr X w 1=2^20*(s1-le)
 h2:shr X w 2=2^20*(s2-le)
theorem mh(H:tZ s0 s1 s2 mo le)(hz:s0+s1+s2=0)(h0: -36<=s0/\s0<=36)(h1: -36<=s1/\s1<=36)(h2: -36<=s2/\s2<=36)(hK:KK s0 s1 s2 mo (mo-le) K):Vw (2^20*(K+6*(mo-le)*j)) (2^20*(mo-le)) s0 s1 s2 le:=by
 have c:=bt (mf H hz h0 h1 h2 hK)
 have a:=bt c.1;have a':=bt a.2;have b:=bt c.2;have b':=bt b.2
 have n:∀lamp:Nat,Li (2^20*(K+6*(mo-le)*j)) (2^20*(mo-le)) lamp=t5 (yy K (mo-le) lamp) (mo-le)/\shr (2^20*(K+6*(mo-le)*j)) (2^20*(mo-le)) lamp=2^20*t6 (yy K (mo-le) lamp) (mo-le):=λlamp=>ma (sP (Int.le_sub_left_of_add_le H.lt)) rfl
 exact⟨(n 0).1.trans (eq_of_beq a.1),(n 1).1.trans (eq_of_beq a'.1),(n 2).1.trans (eq_of_beq a'.2),(n 0).2.trans (Ai (2^20 * ·) (eq_of_beq b.1)),(n 1).2.trans (Ai (2^20 * ·) (eq_of_beq b'.1)),(n 2).2.trans (Ai (2^20 * ·) (eq_of_beq b'.2))⟩
end
section
open PySem PySem.W PyProof.Rows
def Ab4:FI:=jg (FT 85)
def MK:FI:=jg (FT 92)
def s92(i:Nat):Az:=Bb (E8 MK.body) i
noncomputable def rY(y i q:Al):Al:=Dl (Dl y (Cq 4606703976345377586 i)) (Cq 4603791717925830846 q)
noncomputable def gY(y i q:Al):Al:=Bg (Bg y (Cq 4598621754083818298 i)) (Cq 4603901015759978483 q)
noncomputable def bY(y i q:Al):Al:=Dl (Bg y (Cq 4607671262177584182 i)) (Cq 4610375502138591871 q)
noncomputable def yb(y i q r g b:Al):Lo:=[("y",.AS y),("i",.AS i),("q",.AS q),("r",.AS r),("g",.AS g),("b",.AS b)]
def sQ(x:Al):Prop:=oLt (Ek x 0)=false/\yI (Ek x Cg)=false
theorem Vx{lo:Lo}(h:s=.If (BV s) (B3 s) (lR s) (bC s))(hT:(ev n).T fr lo S (BV s)=some ⟨t,S⟩)(ht:t=false)(hB:lR s=[]):(ev (n+1)).X fr lo S s=some ⟨.next,lo,S⟩:=
 (KY (b:=false) h (ht▸hT)).trans (Ai (Xs (ev n) fr lo S) hB)
section
variable{k wr n:Nat}{y i q r g b:Al}{H:List AO}{ob:Aa}
theorem f85(hr:sQ (rY y i q))(hg:sQ (gY y i q))(hb:sQ (bY y i q)):A9 (ev (k+6)) wr (.val (.ref 85)) [.AS y,.AS i,.AS q] [] ⟨H,ob⟩=some ⟨.tup [.AS (rY y i q),.AS (gY y i q),.AS (bY y i q)],⟨H,ob⟩⟩:=by
 refine(show A9 (ev (k+6)) wr (.val (.ref 85)) [.AS y,.AS i,.AS q] [] ⟨H,ob⟩=CM (ev (k+6)) Ab4 [.AS y,.AS i,.AS q] [] wr ⟨H,ob⟩ from ⋯).trans ?_
 refine Jp (binds:=[("y",.AS y),("i",.AS i),("q",.AS q)]) (lo:=[("y",.AS y),("i",.AS i),("q",.AS q)]) (Bv:=yb y i q (rY y i q) (gY y i q) (bY y i q)) (fl:=.ret (.tup [.AS (rY y i q),.AS (gY y i q),.AS (bY y i q)])) ⋯ ⋯ ⋯ ⋯ ⋯ ?_ rfl rfl
 refine(Ak (lo1:=[("y",.AS y),("i",.AS i),("q",.AS q),("r",.AS (rY y i q))]) (S1:=⟨H,ob⟩) ⋯ ⋯).trans ((Ak (lo1:=[("y",.AS y),("i",.AS i),("q",.AS q),("r",.AS (rY y i q)),("g",.AS (gY y i q))]) (S1:=⟨H,ob⟩) ⋯ ⋯).trans ((Ak (lo1:=yb y i q (rY y i q) (gY y i q) (bY y i q)) (S1:=⟨H,ob⟩) ⋯ ⋯).trans ?_))
 generalize rY y i q=r at*
 generalize gY y i q=g at*
 generalize bY y i q=b at*
 refine(Ak ⋯ (Vx ⋯ ⋯ hr.1 ⋯)).trans ((Ak ⋯ (Vx ⋯ ⋯ hg.1 ⋯)).trans ((Ak ⋯ (Vx ⋯ ⋯ hb.1 ⋯)).trans ?_))
 refine(Ak ⋯ (Vx ⋯ ⋯ hr.2 ⋯)).trans ((Ak ⋯ (Vx ⋯ ⋯ hg.2 ⋯)).trans ((Ak ⋯ (Vx ⋯ ⋯ hb.2 ⋯)).trans ?_))
 kernel_rfl
noncomputable def mj(r g b M m su ra l:Al):Lo:=[("r",.AS r),("g",.AS g),("b",.AS b),("maxc",.AS M),("minc",.AS m),("sumc",.AS su),("rangec",.AS ra),("l",.AS l)]
def Q1(r g b M m su ra l s:Al):Lo:=A8 (mj r g b M m su ra l) [("s",.AS s)]
def ZR(r g b M m su ra l s c1 c2 c3:Al):Lo:=A8 (Q1 r g b M m su ra l s) [("rc",.AS c1),("gc",.AS c2),("bc",.AS c3)]
def iK(r g b M m su ra l s c1 c2 c3 h:Al):Lo:=A8 (ZR r g b M m su ra l s c1 c2 c3) [("h",.AS h)]
theorem p92:Xs (ev (k+10)) (Au MK n wr) [("r",.AS r),("g",.AS g),("b",.AS b)] ⟨H,ob⟩ ((E8 MK.body).take 5)=some ⟨.next,mj r g b (tM r g b) (tm r g b) (dS r g b) (dR r g b) (lgt r g b),⟨H,ob⟩⟩:=⋯
theorem q92(hz:Gh (cond (sE l M7) su (Bg (Bg Lh M) m))=false):(ev (k+10)).X (Au MK n wr) (mj r g b M m su ra l) ⟨H,ob⟩ (s92 6)=some ⟨.next,Q1 r g b M m su ra l (Cr ra (cond (sE l M7) su (Bg (Bg Lh M) m))),⟨H,ob⟩⟩:=by
 refine(KY (b:=sE l M7) (S1:=⟨H,ob⟩) ⋯ ⋯).trans ?_
 cases h:sE l M7 with
 |true=>
  rw[h] at hz
  refine(show _=some (⟨.next,Q1 r g b M m su ra l (Cr ra su),⟨H,!Float64.isZero su&&ob⟩⟩ :Rx) from ⋯).trans ?_
  rw[show Gh su=false from hz];rfl
 |false=>
  rw[h] at hz
  refine(show _=some (⟨.next,Q1 r g b M m su ra l (Cr ra (Bg (Bg Lh M) m)),⟨H,!Float64.isZero (Bg (Bg Lh M) m)&&ob⟩⟩ :Rx) from ⋯).trans ?_
  rw[show Gh (Bg (Bg Lh M) m)=false from hz];rfl
def hhC(r g M c1 c2 c3:Al):Al:=cond (ZO r M) (Bg c3 c2) (cond (ZO g M) (Bg (Dl Lh c1) c3) (Bg (Dl Vr c2) c1))
theorem h92:(ev (k+10)).X (Au MK n wr) (ZR r g b M m su ra l s c1 c2 c3) ⟨H,ob⟩ (s92 10)=some ⟨.next,iK r g b M m su ra l s c1 c2 c3 (hhC r g M c1 c2 c3),⟨H,ob⟩⟩:=by
 refine(KY (b:=ZO r M) (S1:=⟨H,ob⟩) ⋯ ⋯).trans ?_
 unfold hhC
 cases ZO r M with
 |true=>kernel_rfl
 |false=>
  refine(Ak (lo1:=iK r g b M m su ra l s c1 c2 c3 (cond (ZO g M) (Bg (Dl Lh c1) c3) (Bg (Dl Vr c2) c1))) (S1:=⟨H,ob⟩) ⋯ ?_).trans ⋯
  refine(KY (b:=ZO g M) (S1:=⟨H,ob⟩) ⋯ ⋯).trans ?_
  cases ZO g M with
  |true=>kernel_rfl
  |false=>kernel_rfl
theorem c92(hz:Gh ra=false):Xs (ev (k+10)) (Au MK n wr) (Q1 r g b M m su ra l s) ⟨H,ob⟩ (((E8 MK.body).drop 7).take 3)=some ⟨.next,ZR r g b M m su ra l s (Cr (Bg M r) ra) (Cr (Bg M g) ra) (Cr (Bg M b) ra),⟨H,ob⟩⟩:=by
 refine(show _=some (⟨.next,ZR r g b M m su ra l s (Cr (Bg M r) ra) (Cr (Bg M g) ra) (Cr (Bg M b) ra),⟨H,!Float64.isZero ra&&(!Float64.isZero ra&&(!Float64.isZero ra&&ob))⟩⟩ :Rx) from ⋯).trans ?_
 rw[hz];rfl
theorem f92(h1:ZO (tm r g b) (tM r g b)=false)(h2:Gh (dR r g b)=false)(h3:Gh (den r g b)=false):A9 (ev (k+10)) wr (.val (.ref 92)) [.AS r,.AS g,.AS b] [] ⟨H,ob⟩=some ⟨.tup [.AS (HO r g b),.AS (lgt r g b),.AS (sat r g b)],⟨H,ob⟩⟩:=by
 refine(show A9 (ev (k+10)) wr (.val (.ref 92)) [.AS r,.AS g,.AS b] [] ⟨H,ob⟩=CM (ev (k+10)) MK [.AS r,.AS g,.AS b] [] wr ⟨H,ob⟩ from ⋯).trans ?_
 have w:Xs (ev (k+10)) (Au MK H.length wr) (mj r g b (tM r g b) (tm r g b) (dS r g b) (dR r g b) (lgt r g b)) ⟨H,ob⟩ ((E8 MK.body).drop 5)=some ⟨.ret (.tup [.AS (HO r g b),.AS (lgt r g b),.AS (sat r g b)]),iK r g b (tM r g b) (tm r g b) (dS r g b) (dR r g b) (lgt r g b) (sat r g b) (ZP r g b r) (ZP r g b g) (ZP r g b b) (HO r g b),⟨H,ob⟩⟩:=by
  refine(Ak ⋯ (Vx ⋯ ⋯ h1 ⋯)).trans ?_
  refine(Ak ⋯ (q92 h3)).trans ?_
  refine Hd (show _=Xs (ev (k+10)) (Au MK H.length wr) (Q1 r g b (tM r g b) (tm r g b) (dS r g b) (dR r g b) (lgt r g b) (sat r g b)) ⟨H,ob⟩ (((E8 MK.body).drop 7).take 3++((E8 MK.body).drop 7).drop 3) by rw[H5];kernel_rfl) ((Ja (c92 h2)).trans ?_)
  refine(Ak ⋯ (h92)).trans ?_
  generalize tM r g b=M;generalize tm r g b=m;generalize dS r g b=su;generalize dR r g b=ra
  unfold HO
  generalize zf r g b=hh;generalize sat r g b=sa;generalize lgt r g b=li;generalize ZP r g b r=c1;generalize ZP r g b g=c2;generalize ZP r g b b=c3
  kernel_rfl
 refine Jp (binds:=[("r",.AS r),("g",.AS g),("b",.AS b)]) ⋯ ⋯ ⋯ ⋯ ⋯ (Hd (Ai (Xs (ev (k+10)) _ _ _) (H5 5 _).symm) ((Ja p92).trans w)) rfl rfl
end
def Qd:FI:=jg (FT 289)
def Lj(i:Nat):Az:=Bb (E8 Qd.body) i
abbrev N4(n:Nat):Prop:=n=69\/n=70\/n=71\/n=72
noncomputable def ZN(z:Nat->AO)(n:Nat):List AO:=(Cn n).map z
def HV(z:Nat->AO)(n:Nat)(c d e f:Ab AV)(rs:List AO):List AO:=ZN z n++(.cell c::.cell d::.cell e::.cell f::rs)
structure T3(α:Type) where
 a:α
 b:α
 c:α
def T3.i(t:T3 Int):AV:=.lst [.int t.a,.int t.b,.int t.c]
def T3.f(t:T3 Al):AV:=.tup [.AS t.a,.AS t.b,.AS t.c]
def yc(l m:T3 Int)(o n g:T3 Al):Lo:=[("light",l.i),("other",m.i),("own",o.f),("beyond",n.f),("grey",g.f)]
def En(l m:T3 Int):T3 Int:=⟨m.a-l.a,m.b-l.b,m.c-l.c⟩
def T3.mo(t:T3 Int):Int:=GP (GP t.a t.b) t.c
def T3.le(t:T3 Int):Int:=FJ (FJ t.a t.b) t.c
def Tv(l m:T3 Int)(o n g:T3 Al)(s:T3 Int)(mo:Int):Lo:=A8 (yc l m o n g) [("steps",s.i),("most",.int mo)]
def De(n:Nat):FD:=Au Qd n n
noncomputable def sR(o n g:Al):Al:=Dl (Cr (Bg n o) (Fk 2)) g
def Qe(o n g:T3 Al):T3 Al:=⟨sR o.a n.a g.a,sR o.b n.b g.b,sR o.c n.c g.c⟩
def sS(l m:T3 Int)(o n g:T3 Al)(s:T3 Int)(mo:Int)(y:T3 Al):Lo:=A8 (Tv l m o n g s mo) [("y",.AS y.a),("i",.AS y.b),("q",.AS y.c)]
def sT(l m:T3 Int)(o n g:T3 Al)(s:T3 Int)(mo:Int)(y r:T3 Al):Lo:=A8 (sS l m o n g s mo y) [("red",.AS r.a),("green",.AS r.b),("blue",.AS r.c)]
def Yk(l m:T3 Int)(o n g:T3 Al)(s:T3 Int)(mo:Int)(y r:T3 Al)(li sa:Al):Lo:=A8 (sT l m o n g s mo y r) [("lightness",.AS li),("saturation",.AS sa)]
noncomputable def r2:List AO:=[.raw 2]
noncomputable def r3:List AO:=[.raw 2,.raw 3]
theorem oQ{lo:Lo}(h:s=.Assign [.Tuple (C0 (BV s)) (zc (BV s)) (Jx (BV s))] (Cm s) (bC s))(ht:ae (Cm s)=none)(hE:(ev k).E fr lo S (Cm s)=some ⟨v,S1⟩)(hv:jF v=some vs):(ev (k+1)).X fr lo S s=Hl (KE fr lo S1 (C0 (BV s)) vs):=by
 refine(Ai ((ev (k+1)).X fr lo S) h).trans ?_
 show ef (ev k) fr lo S (C0 (BV s)) (Cm s)=_
 unfold ef
 rw[ht]
 rw[hE]
 show(jF v).bind (λvs=>Hl (KE fr lo S1 (C0 (BV s)) vs))=_
 rw[hv]
 rfl
section
variable{z:Nat->AO}{n:Nat}{l m s:T3 Int}{ow be gr y r:T3 Al}{ob:Aa}{mo le w:Int}{hu li sa:Al}
theorem v1(hn:N4 n):Xs (ev 115) (De n) (yc l m ow be gr) ⟨HV z n none none none none [],ob⟩ ((E8 Qd.body).take 3)=some ⟨.next,Tv l m ow be gr (En l m) (En l m).mo,⟨HV z n (some (.int (En l m).le)) (some (.int (2^20*((En l m).mo-(En l m).le)))) none none r2,obs [AM ((En l m).mo-(En l m).le)] ob⟩⟩:=by
 rcases hn with rfl | rfl | rfl | rfl<;>kernel_rfl
theorem v3(hn:N4 n)(hw:w≠0):(ev 115).X (De n) (Tv l m ow be gr s mo) ⟨HV z n (some (.int le)) (some (.int w)) none none r2,ob⟩ (Lj 3)=some ⟨.next,Tv l m ow be gr s mo,⟨HV z n (some (.int le)) (some (.int w)) none none r2,ob⟩⟩:=by
 refine Vx ⋯ ?_ (Ct hw) ⋯
 rcases hn with rfl | rfl | rfl | rfl<;>kernel_rfl
theorem v4(hn:N4 n):(ev 115).X (De n) (Tv l m ow be gr s mo) ⟨HV z n (some (.int le)) (some (.int w)) none none r2,ob⟩ (Lj 4)=some ⟨.next,sS l m ow be gr s mo (Qe ow be gr),⟨HV z n (some (.int le)) (some (.int w)) none none r3,ob⟩⟩:=by
 rcases hn with rfl | rfl | rfl | rfl<;>kernel_rfl
def iL(y:T3 Al):T3 Al:=⟨rY y.a y.b y.c,gY y.a y.b y.c,bY y.a y.b y.c⟩
theorem v5(hr:sQ (iL y).a)(hg:sQ (iL y).b)(hb:sQ (iL y).c):(ev 115).X (De n) (sS l m ow be gr s mo y) ⟨HV z n (some (.int le)) (some (.int w)) none none r3,ob⟩ (Lj 5)=some ⟨.next,sT l m ow be gr s mo y (iL y),⟨HV z n (some (.int le)) (some (.int w)) none none r3,ob⟩⟩:=
 (oQ ⋯ ⋯ ((CH (S1:=⟨HV z n (some (.int le)) (some (.int w)) none none r3,ob⟩) (S2:=⟨HV z n (some (.int le)) (some (.int w)) none none r3,ob⟩) ⋯ ⋯ ⋯ ⋯ ⋯ ⋯).trans (f85 hr hg hb)) rfl).trans ⋯
theorem v6(hn:N4 n)(h1:ZO (tm r.a r.b r.c) (tM r.a r.b r.c)=false)(h2:Gh (dR r.a r.b r.c)=false)(h3:Gh (den r.a r.b r.c)=false):
  (ev 115).X (De n) (sT l m ow be gr s mo y r) ⟨HV z n (some (.int le)) (some (.int w)) none none r3,ob⟩ (Lj 6)=some ⟨.next,Yk l m ow be gr s mo y r (lgt r.a r.b r.c) (sat r.a r.b r.c),⟨HV z n (some (.int le)) (some (.int w)) (some (.AS (HO r.a r.b r.c))) none r3,ob⟩⟩:=by
 refine(oQ ⋯ ⋯ ((CH (S1:=⟨HV z n (some (.int le)) (some (.int w)) none none r3,ob⟩) (S2:=⟨HV z n (some (.int le)) (some (.int w)) none none r3,ob⟩) ⋯ ⋯ ⋯ ⋯ ⋯ ⋯).trans (f92 h1 h2 h3)) rfl).trans ?_
 generalize HO r.a r.b r.c=hu;generalize lgt r.a r.b r.c=li;generalize sat r.a r.b r.c=sa
 rcases hn with rfl | rfl | rfl | rfl<;>kernel_rfl
noncomputable def XX(hu:Al)(w:Int):Int:=EV Me (Cq (Cq (Fk 6) hu) (Fk w))
def yd(hu:Al)(w:Int):List Aa:=[0,1,2].flatMap λ_:Nat=>[DI w,It (Cq (Cq (Fk 6) hu) (Fk w)),AM w,AM w,decide (6*w≠0)]
def trV(X w:Int):AV:=.lst [.int (VL X w 0),.int (VL X w 1),.int (VL X w 2)]
theorem v7(hn:N4 n):(ev 115).X (De n) (Yk l m ow be gr s mo y r li sa) ⟨HV z n (some (.int le)) (some (.int w)) (some (.AS hu)) none r3,ob⟩ (Lj 7)=some ⟨.next,Yk l m ow be gr s mo y r li sa,⟨HV z n (some (.int le)) (some (.int w)) (some (.AS hu)) (some (trV (XX hu w) w)) r3,obs (yd hu w) ob⟩⟩:=by
 rcases hn with rfl | rfl | rfl | rfl<;>kernel_rfl
end
section
variable{n:Nat}{fr:FD}{lo lo1:Lo}{S S1 S2:St}
theorem iM(h:s=.Assign [.Name (Bw (BV s)) (Jx (BV s))] (Cm s) (bC s))(h':Cm s=.ListComp (X3 (Cm s)) [⟨VH (Cm s),bj (Cm s),TM (Cm s),0⟩] (FH (Cm s)) (zb (Cm s)))
  (hc:MQ (ev n) fr lo S (X3 (Cm s)) [⟨VH (Cm s),bj (Cm s),TM (Cm s),0⟩] (FH (Cm s))=some ⟨v,S1⟩):(ev (n+1)).X fr lo S s=Hl (putN fr lo S1 (Bw (BV s)) v):=by
 refine(Ai ((ev (n+1)).X fr lo S) h).trans ?_
 show OZ (ev n) fr lo S (Bw (BV s)) (Cm s)=_
 unfold OZ
 rw[Ai MP h']
 show(MQ (ev n) fr lo S (X3 (Cm s)) [⟨VH (Cm s),bj (Cm s),TM (Cm s),0⟩] (FH (Cm s))).bind (λv=>Hl (putN fr lo v.S (Bw (BV s)) v.v))=_
 rw[hc]
 rfl
theorem yg(h:e=.BoolOp .And [CA (C0 e) 0,CA (C0 e) 1] (Jx e))(h1:(ev n).E fr lo S (CA (C0 e) 0)=some ⟨.bool true,S1⟩):(ev (n+1)).E fr lo S e=(ev n).E fr lo S1 (CA (C0 e) 1):=
 (Ai ((ev (n+1)).E fr lo S) h).trans (Ai (λo:Ab (Rt AV)=>o.bind λx=>(boolOf x.v).bind λb=>cond b ((ev n).E fr lo x.S (CA (C0 e) 1)) (some ⟨.bool false,x.S⟩)) h1)
theorem Ab5(h:s=.Return (some (Cm s)) (bC s))(hE:(ev n).E fr lo S (Cm s)=some ⟨v,S1⟩):(ev (n+1)).X fr lo S s=some ⟨.ret v,lo,S1⟩:=
 (Ai ((ev (n+1)).X fr lo S) h).trans (Ai (λo:Ab (Rt AV)=>o.bind λx=>some (⟨.ret x.v,lo,x.S⟩ :Rx)) hE)
theorem Ab6(h:e=.Tuple (C0 e) (zc e) (Jx e))(hn:noStar 200 (C0 e)=true)(ha:Jh (ev n) fr lo S (C0 e)=some ⟨vs,S1⟩):(ev (n+1)).E fr lo S e=some ⟨.tup vs,S1⟩:=
 (Ai ((ev (n+1)).E fr lo S) h).trans ((Ai (λz=>Af z ((Jh (ev n) fr lo S (C0 e)).bind λx=>some (⟨.tup x.v,x.S⟩ :Rt AV))) hn).trans (Ai (λo:Ab (Rt (List AV))=>o.bind λx=>some (⟨.tup x.v,x.S⟩ :Rt AV)) ha))
end
theorem ml{s:Nat}(H:List AO)(i:Nat):Src.at H i (.Gw 0 s 1)=some ((Cn s).map λ(q:Nat)=>AV.int q)[i]?:=by
 by_cases h:i<s
 ·rw[X9 h,F4,cj h] at ⊢;rfl
 ·rw[H4 (by rw[AY,GV];exact N8 h)] at ⊢
  exact Ai (λz=>some (cond z (some (AV.int (0+1*(i:Int)))) none)) (Ct (show ¬ (0:Int)<E0 0 s 1-i by rw[rs0];exact(pw [.n (.t .p .q)] (.n (.T (.j 0) (.S (.n .q) (.n .p)))) [] [_,_]) h))
section
variable{z:Nat->AO}{n:Nat}{l m s:T3 Int}{ow be gr y r:T3 Al}{ob:Aa}{mo le w X:Int}{hu li sa:Al}{nr:AV}{sh:T3 Int}{W1 W2:Int}
def e8:Expr:=Cm (Lj 8)
def fc8(n:Nat):List (Str×Nat):=(Cy (De n) (FH e8).names []).getD []
abbrev HW(z:Nat->AO)(n:Nat)(le w:Int)(hu:Al)(X:Int):List AO:=HV z n (some (.int le)) (some (.int w)) (some (.AS hu)) (some (trV X w)) r3
theorem M8{P:Nat->Prop}(h0:P 0)(h1:P 1)(h2:P 2):∀p,p<3->P p
 |0,_=>h0 | 1,_=>h1 | 2,_=>h2
 |_+3,h=>AL (H7 3 _) (N7 h)
theorem sU{r:Ev}{lo:Lo}{l:List Expr}(h:l=[CA l 0])(hT:r.T fr lo S (CA l 0)=some ⟨b,S1⟩):SE r fr lo S l=some ⟨b,S1⟩:=by
 refine(Ai (SE r fr lo S) h).trans ((Ai (λo:Ab (Rt Aa)=>o.bind λx=>cond x.v (some (⟨true,x.S⟩ :Rt Aa)) (some x)) hT).trans ?_)
 rcases b with ⟨⟩<;>rfl
theorem t8(hn:N4 n){acc:List AV}:∀q:Nat,q<3->(ev 114).T (DJ (De n) (n+6) (FH e8) (fc8 n)) [("lamp",.int q)] ⟨HW z n le w hu X++[.list acc],ob⟩ (CA (TM e8) 0)=some ⟨Li X w q,⟨HW z n le w hu X++[.list acc],obs [AM w,AM (FJ (VL X w q) (6*w-VL X w q))] ob⟩⟩:=by
 rcases hn with rfl | rfl | rfl | rfl<;>exact M8 ⋯ ⋯ ⋯
def nrV(X w:Int):AV:=.lst (([0,1,2].filter (Li X w)).map λ(q:Nat)=>.int q)
theorem v8(hn:N4 n)(hs:∀q,q<3->AM w=true/\AM (FJ (VL X w q) (6*w-VL X w q))=true):(ev 115).X (De n) (Yk l m ow be gr s mo y r li sa) ⟨HW z n le w hu X,ob⟩ (Lj 8)=some ⟨.next,A8 (Yk l m ow be gr s mo y r li sa) [("near",nrV X w)],⟨HW z n le w hu X,ob⟩⟩:=by
 have hl:(HW z n le w hu X).length=n+6:=by unfold HW HV ZN;rw[BP,AY,GV];rfl
 have c:=Ht (n:=114) (fr:=De n) (lo:=Yk l m ow be gr s mo y r li sa) (e:=e8) (S0:=⟨HW z n le w hu X,ob⟩) (H:=HW z n le w hu X) (b:=ob) (Q:=Cn 3) (w:=λq=>.int q) (fc:=fc8 n)
  ⋯ (by rcases hn with rfl | rfl | rfl | rfl<;>kernel_rfl) ⋯ (by rcases hn with rfl | rfl | rfl | rfl<;>kernel_rfl) ⋯ ⋯ (λi acc=>ml _ i) (λq _ lo acc h=>by obtain rfl | ⟨q',rfl⟩:=h<;>kernel_rfl)
  (λq hq acc=>by
   have hq:=Fe.mp hq
   have t:=t8 (z:=z) (le:=le) (w:=w) (hu:=hu) (X:=X) (ob:=ob) (acc:=acc) hn q hq
   rw[Er (AB (hs q hq).1 (AB (hs q hq).2 F0))] at t
   rw[hl]
   exact sU ⋯ t) (λq _ _ acc=>⋯) (λq _ H'=>rfl)
 exact(iM (n:=114) ⋯ ⋯ c).trans ⋯
def yh(l m:T3 Int)(o n g:T3 Al)(s:T3 Int)(mo:Int)(y r:T3 Al)(li sa:Al)(nr:AV):Lo:=A8 (Yk l m o n g s mo y r li sa) [("near",nr)]
def sV(l m:T3 Int)(o n g:T3 Al)(s:T3 Int)(mo:Int)(y r:T3 Al)(li sa:Al)(nr:AV)(sh:T3 Int):Lo:=A8 (yh l m o n g s mo y r li sa nr) [("shares",sh.i)]
def shT(X w:Int):T3 Int:=⟨shr X w 0,shr X w 1,shr X w 2⟩
theorem v9(hn:N4 n):(ev 115).X (De n) (yh l m ow be gr s mo y r li sa nr) ⟨HW z n le w hu X,ob⟩ (Lj 9)=some ⟨.next,sV l m ow be gr s mo y r li sa nr (shT X w),⟨HW z n le w hu X,obs [AM w,AM w,AM w] ob⟩⟩:=by
 rcases hn with rfl | rfl | rfl | rfl<;>kernel_rfl
def Qf(l m:T3 Int)(o n g:T3 Al)(s:T3 Int)(mo:Int)(y r:T3 Al)(li sa:Al)(nr:AV)(sh:T3 Int)(W1 W2:Int):Lo:=A8 (sV l m o n g s mo y r li sa nr sh) [("whole",.lst [.int W1,.int W2])]
noncomputable def zh(li:Al):Al:=Cq (Fk (2^20)) li
def zi(sa:Al)(k:Int):Al:=Cq (Cq (Fk (2^20)) sa) (Fk (Nn k))
theorem v10(hn:N4 n):(ev 115).X (De n) (sV l m ow be gr s mo y r li sa nr sh) ⟨HW z n le w hu X,ob⟩ (Lj 10)=some ⟨.next,Qf l m ow be gr s mo y r li sa nr sh (EV Me (zh li)) (EV Me (zi sa (mo+le))),⟨HW z n le w hu X,obs [It (zh li),DI (Nn (mo+le)),It (zi sa (mo+le))] ob⟩⟩:=by
 rcases hn with rfl | rfl | rfl | rfl<;>kernel_rfl
def zj(hu:Al):Aa:=yI (Gg hu 0)||oEq (Gg hu 0)
def zk(hu:Al):Aa:=oLt (Gg hu 1)||oEq (Gg hu 1)
def e11(i:Nat):Expr:=CA (C0 (Cm (Lj 11))) i
theorem v11(hn:N4 n)(h1:zj hu=true)(h2:zk hu=true)(hs:AM (128+mo+le)=true):(ev 115).X (De n) (Qf l m ow be gr s mo y r li sa nr sh (2^12*(128+mo+le)) w) ⟨HW z n le w hu X,ob⟩ (Lj 11)=some ⟨.next,A8 (Qf l m ow be gr s mo y r li sa nr sh (2^12*(128+mo+le)) w) [("exact",.bool true)],⟨HW z n le w hu X,ob⟩⟩:=by
 have a:(ev 113).E (De n) (Qf l m ow be gr s mo y r li sa nr sh (2^12*(128+mo+le)) w) ⟨HW z n le w hu X,ob⟩ (e11 0)=some ⟨.bool true,⟨HW z n le w hu X,ob⟩⟩:=by
  refine(show _=cond (zj hu) (some (⟨.bool (zk hu),⟨HW z n le w hu X,ob⟩⟩ :Rt AV)) (some ⟨.bool false,⟨HW z n le w hu X,ob⟩⟩) from by rcases hn with rfl | rfl | rfl | rfl<;>kernel_rfl).trans ?_
  rw[h1,h2];rfl
 have b:(ev 112).E (De n) (Qf l m ow be gr s mo y r li sa nr sh (2^12*(128+mo+le)) w) ⟨HW z n le w hu X,ob⟩ (Eb (e11 1))=some ⟨.lst [.int (2^12*(128+mo+le)),.int w],⟨HW z n le w hu X,ob⟩⟩:=by
  refine(show _=some (⟨.lst [.int (2^12*(128+mo+le)),.int w],⟨HW z n le w hu X,AM (128+mo+le)&&ob⟩⟩ :Rt AV) from by rcases hn with rfl | rfl | rfl | rfl<;>kernel_rfl).trans ?_
  rw[hs];rfl
 have c:(ev 113).E (De n) (Qf l m ow be gr s mo y r li sa nr sh (2^12*(128+mo+le)) w) ⟨HW z n le w hu X,ob⟩ (e11 1)=some ⟨.bool true,⟨HW z n le w hu X,ob⟩⟩:=
  ig (v1:=.lst [.int (2^12*(128+mo+le)),.int w]) ⋯ ⋯ ⋯ b .Eq ⋯
   (by show some (decide (2^12*(128+mo+le)=2^12*(128+mo+le))&&(decide (w=w)&&true))=_;rw[AU rfl,AU rfl];rfl)
 exact(oI ⋯ ⋯ ⋯ ⋯ ⋯ ⋯ ((yg ⋯ a).trans c)).trans ⋯
def Vy(l m:T3 Int)(o n g:T3 Al)(s:T3 Int)(mo:Int)(y r:T3 Al)(li sa:Al)(nr:AV)(sh:T3 Int)(W1 W2:Int):Lo:=A8 (Qf l m o n g s mo y r li sa nr sh W1 W2) [("exact",.bool true)]
def kO(i:Nat):Expr:=CA (C0 (Cm (Lj 12))) i
def TQ(s:T3 Int)(le:Int):T3 Int:=⟨2^20*(s.a-le),2^20*(s.b-le),2^20*(s.c-le)⟩
theorem v12(hn:N4 n)(hs:AM (s.a-le)=true/\AM (s.b-le)=true/\AM (s.c-le)=true):(ev 115).X (De n) (Vy l m ow be gr s mo y r li sa nr (TQ s le) W1 W2) ⟨HW z n le w hu X,ob⟩ (Lj 12)=some ⟨.ret (.tup [nr,.bool true]),Vy l m ow be gr s mo y r li sa nr (TQ s le) W1 W2,⟨HW z n le w hu X,ob⟩⟩:=by
 have b:(ev 111).E (De n) (Vy l m ow be gr s mo y r li sa nr (TQ s le) W1 W2) ⟨HW z n le w hu X,ob⟩ (Eb (CA (C0 (kO 1)) 1))=some ⟨(TQ s le).i,⟨HW z n le w hu X,ob⟩⟩:=by
  refine(show _=some (⟨(TQ s le).i,⟨HW z n le w hu X,obs [AM (s.a-le),AM (s.b-le),AM (s.c-le)] ob⟩⟩ :Rt AV) from by rcases hn with rfl | rfl | rfl | rfl<;>kernel_rfl).trans ?_
  rw[Er (AB hs.1 (AB hs.2.1 (AB hs.2.2 F0)))]
 have c:(ev 112).E (De n) (Vy l m ow be gr s mo y r li sa nr (TQ s le) W1 W2) ⟨HW z n le w hu X,ob⟩ (CA (C0 (kO 1)) 1)=some ⟨.bool true,⟨HW z n le w hu X,ob⟩⟩:=
  ig (v1:=(TQ s le).i) ⋯ ⋯ ⋯ b .Eq ⋯
   (by show some (decide ((TQ s le).a=(TQ s le).a)&&(decide ((TQ s le).b=(TQ s le).b)&&(decide ((TQ s le).c=(TQ s le).c)&&true)))=_;rw[AU rfl,AU rfl,AU rfl];rfl)
 exact Ab5 ⋯ (Ab6 ⋯ ⋯ (CB (S1:=⟨HW z n le w hu X,ob⟩) ⋯ ⋯ (Dg ⋯ ((yg ⋯ ⋯).trans c))))
end
section
set_option exponentiation.threshold 3000
theorem bG(h:x.natAbs<=2^40):AM x=true:=AU (CE h ⋯)
theorem smF(h:x.natAbs<=2^40):DI x=true:=AU (CE h ⋯)
theorem sW(h:Fn x):It x=true:=h.elim λ_ q=>q.elim λ_ q=>q.elim λ_ q=>by unfold It;rw[q]
theorem Yl(h:Ap x (Q s) EE)(h1: -63<=s)(h2:s<=63):sQ x:=by
 have hT:=Jd
 have a:TT<=Q s:=by have:=Jc h1;rw[show Q (-63)=TT by decide +kernel] at this;exact this
 have b:Q s<=127*TT:=by have:=Jc h2;rw[show Q 63=127*TT by decide +kernel] at this;exact this
 have c:((EE:Nat):Int)<TT:=⋯
 have lo:=h.lo;have hi:=h.hi
 have f0:Fn (0:Al):=Ku ⋯
 have v0:Mf (0:Al)=0:=⋯
 constructor
 ·rw[Kv h.1 f0,v0]
  refine Gx.mpr λw=>?_
  have:=JN.mp (AQ (eq_of_beq w))
  exact(pw [.L .p .q,.T (.n .p) .p,.L (.S .q (.n .p)) .r,.T .r (.j 0)] .f [_,_,_] [_]) a c lo this
 ·rw[Kv h.1 sA,Lg,oN]
  refine Gx.mpr λw=>?_
  have:=NU.mp (AQ (eq_of_beq w))
  exact(pw [.L .p (.l 127 .q),.T (.n .p) .q,.L .r (.A .p (.n .p)),.T (.l 128 .q) .r] .f [_,_,_] [_]) b c hi this
theorem ZS(h:Fn x)(i:Int):Gg x i=some (compare (Mf x) (i*SS)):=h.elim λ_ q=>q.elim λ_ q=>q.elim λ_ q=>Float64.cmpInt_right q i
theorem sX(h:Fn x)(h0: 0<=Mf x):zj x=true:=by
 unfold zj
 rw[ZS h,DU]
 rcases V2 0 (Mf x) with q | q | q
 ·rw[NU.mpr q];rfl
 ·rw[<-q];rfl
 ·exact((pw [.L (.j 0) .p,.T .p (.j 0)] .f [_] []) h0 q).elim
theorem sY(h:Fn x)(h0:Mf x<=SS):zk x=true:=by
 unfold zk
 rw[ZS h,GU]
 rcases V2 (Mf x) SS with q | q | q
 ·rw[JN.mpr q];rfl
 ·rw[q,Q7.mpr rfl];rfl
 ·exact((pw [.L .p .q,.T .q .p] .f [_,_] []) h0 q).elim
theorem sZ(hw: 0<w)(q:Nat): 0<=VL X w q/\VL X w q<6*w:=by
 unfold VL
 rw[NS _ (by exact(pw [.T (.j 0) .p] (.L (.j 0) (.l 6 .p)) [_] []) hw)]
 exact⟨Lx _ ((pw [.T (.j 0) .p] (.n (.E (.l 6 .p) (.j 0))) [_] []) hw),Lv _ ((pw [.T (.j 0) .p] (.T (.j 0) (.l 6 .p)) [_] []) hw)⟩
def Dm(a:Nat->Nat):T3 Al:=
 let r:=OO (a 0) 64;let g:=OO (a 1) 64;let b:=OO (a 2) 64
 let y:=Dl (Dl (Cq 4599075939470750515 r) (Cq 4603489467105573601 g)) (Cq 4592590756007337001 b)
 ⟨y,Bg (Cq 4604840546993784750 (Bg r y)) (Cq 4598535507515466056 (Bg b y)),Dl (Cq 4602318531202457272 (Bg r y)) (Cq 4601057523306793533 (Bg b y))⟩
def FG:T3 Al:=⟨tX.f λ_=>0,(iX iD tX iD).f λ_=>0,(qX iD tX iD).f λ_=>0⟩
noncomputable def AZ(a:Nat->Nat):T3 Int:=⟨a 0,a 1,a 2⟩
theorem iN(a b:Nat->Nat):iL (Qe (Dm a) (Dm b) FG)=⟨rX.f (Qc a b),gX.f (Qc a b),bX.f (Qc a b)⟩:=⋯
def M9(s:T3 Int):Nat->Aa
 |0=>decide (s.b<0)&&decide (s.c<0)
 |1=>decide (s.a<0)&&decide (s.c<0)
 |_=>decide (s.a<0)&&decide (s.b<0)
def DS(s:T3 Int):AV:=.lst (([0,1,2].filter (M9 s)).map λ(q:Nat)=>.int q)
structure mq(a b:Nat->Nat):Prop where
 ha:∀k,a k<=36
 hb:∀k,b k<=36
 sum:a 0+a 1+a 2=b 0+b 1+b 2
section
variable{z:Nat->AO}{n:Nat}{a b:Nat->Nat}{ob:Aa}{wr:Nat}
theorem oR(hn:N4 n)(hX:Xs (ev 115) (De n) (yc l m o' b' g') ⟨HV z n none none none none [],ob⟩ (E8 Qd.body)=some ⟨.ret v,Bv,S2⟩)(hz:fz 6 n S2.H v=some v):A9 (ev 115) wr (.val (.ref 289)) [l.i,m.i,o'.f,b'.f,g'.f] [] ⟨ZN z n,ob⟩=some ⟨v,⟨ZN z n,S2.ob⟩⟩:=by
 refine(show A9 (ev 115) wr (.val (.ref 289)) [l.i,m.i,o'.f,b'.f,g'.f] [] ⟨ZN z n,ob⟩=CM (ev 115) Qd [l.i,m.i,o'.f,b'.f,g'.f] [] wr ⟨ZN z n,ob⟩ from ⋯).trans ?_
 have hf:Au Qd n wr=De n:=⋯
 exact X7 (binds:=yc l m o' b' g') (Bv:=Bv) (by unfold ZN;rw[AY,GV]) ⋯ ⋯ ⋯ ⋯ (hf▸hX) rfl hz
theorem ZT:fz (k+3) n H (.tup [DS s,.bool true])=some (.tup [DS s,.bool true]):=by
 have e:fz (k+2) n H (DS s)=some (DS s):=by
  show(Gn (fz (k+1) n H) (([0,1,2].filter (M9 s)).map λ(q:Nat)=>AV.int q)).bind (λys=>some (AV.lst ys))=_
  rw[Th λx hx=>(CD.mp hx).elim λq hq=>hq.2▸rfl]
  rfl
 show((fz (k+2) n H (DS s)).bind λb=>some [b,AV.bool true]).bind (λys=>some (AV.tup ys))=_
 rw[e]
 rfl
theorem mm(a b c:Int):(FJ (FJ a b) c<=a/\a<=GP (GP a b) c)/\(FJ (FJ a b) c<=b/\b<=GP (GP a b) c)/\(FJ (FJ a b) c<=c/\c<=GP (GP a b) c):=
 have p:=l8 a b;have q:=l8 (FJ a b) c;have r:=l9 a b;have s:=l9 (GP a b) c
 ⟨⟨BA q.1 p.1,BA r.1 s.1⟩,⟨BA q.1 p.2.1,BA r.2.1 s.1⟩,q.2.1,s.2.1⟩
theorem Acb(a b c:Int):GP (GP a b) c=a\/GP (GP a b) c=b\/GP (GP a b) c=c:=
 (l9 (GP a b) c).2.2.elim (λe=>(l9 a b).2.2.elim (λf=>.inl (e.trans f)) λf=>.inr (.inl (e.trans f))) λe=>.inr (.inr e)
theorem Acd(a b c:Int):FJ (FJ a b) c=a\/FJ (FJ a b) c=b\/FJ (FJ a b) c=c:=
 (l8 (FJ a b) c).2.2.elim (λe=>(l8 a b).2.2.elim (λf=>.inl (e.trans f)) λf=>.inr (.inl (e.trans f))) λe=>.inr (.inr e)
theorem s6(L:mq a b)(h:(En (AZ a) (AZ b)).le<(En (AZ a) (AZ b)).mo):tZ ((b 0:Int)-a 0) ((b 1:Int)-a 1) ((b 2:Int)-a 2) (En (AZ a) (AZ b)).mo (En (AZ a) (AZ b)).le:=by
 have a0:=L.ha 0;have a1:=L.ha 1;have a2:=L.ha 2;have b0:=L.hb 0;have b1:=L.hb 1;have b2:=L.hb 2
 change FJ (FJ ((b 0:Int)-a 0) ((b 1:Int)-a 1)) ((b 2:Int)-a 2)<GP (GP ((b 0:Int)-a 0) ((b 1:Int)-a 1)) ((b 2:Int)-a 2) at h
 show tZ _ _ _ (GP (GP ((b 0:Int)-a 0) ((b 1:Int)-a 1)) ((b 2:Int)-a 2)) (FJ (FJ ((b 0:Int)-a 0) ((b 1:Int)-a 1)) ((b 2:Int)-a 2))
 generalize e0:(b 0:Int)-a 0=s0 at*
 generalize e1:(b 1:Int)-a 1=s1 at*
 generalize e2:(b 2:Int)-a 2=s2 at*
 have c0: -36<=s0/\s0<=36:=(pw [.l .p (.k 36),.l .q (.k 36),.E (.S (.n .q) (.n .p)) .p] (.a (.L (.j (-36)) .p) (.L .p (.j 36))) [_] [_,_]) a0 b0 e0
 have c1: -36<=s1/\s1<=36:=(pw [.l .p (.k 36),.l .q (.k 36),.E (.S (.n .q) (.n .p)) .p] (.a (.L (.j (-36)) .p) (.L .p (.j 36))) [_] [_,_]) a1 b1 e1
 have c2: -36<=s2/\s2<=36:=(pw [.l .p (.k 36),.l .q (.k 36),.E (.S (.n .q) (.n .p)) .p] (.a (.L (.j (-36)) .p) (.L .p (.j 36))) [_] [_,_]) a2 b2 e2
 have m:=mm s0 s1 s2;have tp:=Acb s0 s1 s2;have bo:=Acd s0 s1 s2
 generalize FJ (FJ s0 s1) s2=le at *;generalize GP (GP s0 s1) s2=mo at*
 exact⟨m.1,m.2.1,m.2.2,tp,bo,h,tp.elim (λe=>e▸BA c0.2 ⋯) λe=>e.elim (λe=>e▸BA c1.2 ⋯) λe=>e▸BA c2.2 ⋯,
  bo.elim (λe=>e▸BA ⋯ c0.1) λe=>e.elim (λe=>e▸BA ⋯ c1.1) λe=>e▸BA ⋯ c2.1⟩
theorem mu(hn:N4 n)(L:mq a b)(h:(En (AZ a) (AZ b)).le<(En (AZ a) (AZ b)).mo):
  A9 (ev 115) wr (.val (.ref 289)) [(AZ a).i,(AZ b).i,(Dm a).f,(Dm b).f,FG.f] [] ⟨ZN z n,ob⟩=some ⟨.tup [DS (En (AZ a) (AZ b)),.bool true],⟨ZN z n,ob⟩⟩:=by
 have H:=s6 L h
 have S:=seen (λk=>AA (L.ha k) ⋯) (λk=>AA (L.hb k) ⋯)
 have eR:=iN a b
 generalize ho:Dm a=o';generalize yP:Dm b=be;generalize hg:FG=gr
 rw[ho,yP,hg] at eR
 generalize hs:En (AZ a) (AZ b)=s at*
 have sa:s.a=(b 0:Int)-a 0:=by rw[<-hs];rfl
 have sb:s.b=(b 1:Int)-a 1:=by rw[<-hs];rfl
 have sc:s.c=(b 2:Int)-a 2:=by rw[<-hs];rfl
 rw[<-sa,<-sb,<-sc] at H S
 have hz:s.a+s.b+s.c=0:=by have:=L.sum;exact(pw [.E .p (.S (.n .p) (.n .q)),.E .q (.S (.n .r) (.n .s)),.E .r (.S (.n .t) (.n .u)),.e (.A (.A .q .s) .u) (.A (.A .p .r) .t)] (.E (.A (.A .p .q) .r) (.j 0)) [_,_,_] [_,_,_,_,_,_]) sa sb sc this
 have bd:(-36<=s.a/\s.a<=36)/\(-36<=s.b/\s.b<=36)/\(-36<=s.c/\s.c<=36):=by
  have a0:=L.ha 0;have a1:=L.ha 1;have a2:=L.ha 2;have b0:=L.hb 0;have b1:=L.hb 1;have b2:=L.hb 2
  exact(pw [.E .p (.S (.n .p) (.n .q)),.E .q (.S (.n .r) (.n .s)),.E .r (.S (.n .t) (.n .u)),.l .q (.k 36),.l .s (.k 36),.l .u (.k 36),.l .p (.k 36),.l .r (.k 36),.l .t (.k 36)] (.a (.a (.L (.j (-36)) .p) (.L .p (.j 36))) (.a (.a (.L (.j (-36)) .q) (.L .q (.j 36))) (.a (.L (.j (-36)) .r) (.L .r (.j 36))))) [_,_,_] [_,_,_,_,_,_]) sa sb sc a0 a1 a2 b0 b1 b2
 generalize rX.f (Qc a b)=r at *;generalize gX.f (Qc a b)=g at *;generalize bX.f (Qc a b)=bl at*
 have rA:=Ai T3.a eR
 have rB:=Ai T3.b eR
 have rC:=Ai T3.c eR
 have mr:=Yl S.r ((pw [.a (.a (.L (.j (-36)) .p) (.L .p (.j 36))) (.a (.a (.L (.j (-36)) .q) (.L .q (.j 36))) (.a (.L (.j (-36)) .r) (.L .r (.j 36))))] (.L (.j (-63)) .p) [_,_,_] []) bd) ((pw [.a (.a (.L (.j (-36)) .p) (.L .p (.j 36))) (.a (.a (.L (.j (-36)) .q) (.L .q (.j 36))) (.a (.L (.j (-36)) .r) (.L .r (.j 36))))] (.L .p (.j 63)) [_,_,_] []) bd);have mg:=Yl S.g ((pw [.a (.a (.L (.j (-36)) .p) (.L .p (.j 36))) (.a (.a (.L (.j (-36)) .q) (.L .q (.j 36))) (.a (.L (.j (-36)) .r) (.L .r (.j 36))))] (.L (.j (-63)) .q) [_,_,_] []) bd) ((pw [.a (.a (.L (.j (-36)) .p) (.L .p (.j 36))) (.a (.a (.L (.j (-36)) .q) (.L .q (.j 36))) (.a (.L (.j (-36)) .r) (.L .r (.j 36))))] (.L .q (.j 63)) [_,_,_] []) bd);have mb:=Yl S.b ((pw [.a (.a (.L (.j (-36)) .p) (.L .p (.j 36))) (.a (.a (.L (.j (-36)) .q) (.L .q (.j 36))) (.a (.L (.j (-36)) .r) (.L .r (.j 36))))] (.L (.j (-63)) .r) [_,_,_] []) bd) ((pw [.a (.a (.L (.j (-36)) .p) (.L .p (.j 36))) (.a (.a (.L (.j (-36)) .q) (.L .q (.j 36))) (.a (.L (.j (-36)) .r) (.L .r (.j 36))))] (.L .r (.j 63)) [_,_,_] []) bd)
 have nz:=sO H S
 refine(sH H S).elim λK q=>q.elim λj q=>?_
 have V:=mh (j:=j) H hz bd.1 bd.2.1 bd.2.2 q.1
 have B:=wB H;have N:=ZQ H
 have tu:=Aq.turn q.2.1 q.2.2.1 q.2.2.2 B.2.2 ⋯
 have li:=l6 H S;have si:=l7 H S
 have hB: 0<2^20*(s.mo-s.le):=(pw [.a (.L (.j 1) (.S .p .q)) (.a (.L (.S .p .q) (.j 256)) (.l (.b (.S .p .q)) (.k 128)))] (.T (.j 0) (.l (2^20) (.S .p .q))) [_,_] []) B
 generalize hw: 2^20*(s.mo-s.le)=w at*
 have wb:w.natAbs<=2^27:=(pw [.a (.L (.j 1) .p) (.a (.L .p (.j 256)) (.a (.l (.b (.S .q .r)) (.m 1 (.b .p))) (.l (.b .p) (.k 128)))),.E (.l (2^20) (.S .q .r)) .s] (.l (.b .s) (.k (2^27))) [_,_,_,_] []) N hw
 have x1:=v1 (z:=z) (l:=AZ a) (m:=AZ b) (ow:=o') (be:=be) (gr:=gr) (ob:=ob) hn
 rw[hs,hw,Er (AB (bG (by exact(pw [.E (.l (2^20) (.S .p .q)) .r,.l (.b .r) (.k (2^27))] (.l (.b (.S .p .q)) (.k (2^40))) [_,_,_] []) hw wb)) F0)] at x1
 have x5:=v5 (z:=z) (n:=n) (l:=AZ a) (m:=AZ b) (s:=s) (ow:=o') (be:=be) (gr:=gr) (y:=Qe o' be gr) (ob:=ob) (mo:=s.mo) (le:=s.le) (w:=w) (rA.symm▸mr) (rB.symm▸mg) (rC.symm▸mb)
 rw[eR] at x5
 have x6:=v6 (z:=z) (l:=AZ a) (m:=AZ b) (s:=s) (ow:=o') (be:=be) (gr:=gr) (y:=Qe o' be gr) (r:=⟨r,g,bl⟩) (ob:=ob) (mo:=s.mo) (le:=s.le) (w:=w) hn nz.1 nz.2.1 nz.2.2
 have x7:=v7 (z:=z) (l:=AZ a) (m:=AZ b) (s:=s) (ow:=o') (be:=be) (gr:=gr) (y:=Qe o' be gr) (r:=⟨r,g,bl⟩) (ob:=ob) (mo:=s.mo) (le:=s.le) (w:=w) (hu:=HO r g bl) (li:=lgt r g bl) (sa:=sat r g bl) hn
 have o7:obs (yd (HO r g bl) w) ob=ob:=by
  have c1:=smF (x:=w) (AA wb ⋯);have c2:=sW tu.1;have c3:=bG (x:=w) (AA wb ⋯)
  have c4:decide (6*w≠0)=true:=AU (by exact(pw [.T (.j 0) .p] (.n (.E (.l 6 .p) (.j 0))) [_] []) hB)
  exact Er (AB c1 (AB c2 (AB c3 (AB c3 (AB c4 (AB c1 (AB c2 (AB c3 (AB c3 (AB c4 (AB c1 (AB c2 (AB c3 (AB c3 (AB c4 F0)))))))))))))))
 rw[o7,show XX (HO r g bl) w=2^20*(K+6*(s.mo-s.le)*j) from tu.2] at x7
 generalize hX: 2^20*(K+6*(s.mo-s.le)*j)=X at*
 have x8:=v8 (z:=z) (l:=AZ a) (m:=AZ b) (s:=s) (ow:=o') (be:=be) (gr:=gr) (y:=Qe o' be gr) (r:=⟨r,g,bl⟩) (ob:=ob) (mo:=s.mo) (le:=s.le) (w:=w) (X:=X) (hu:=HO r g bl) (li:=lgt r g bl) (sa:=sat r g bl) hn (λq _=>⟨bG (AA wb ⋯),bG (by have:=sZ (X:=X) hB q;unfold FJ;split<;>lia)⟩)
 have e8:nrV X w=DS s:=by
  unfold nrV DS
  rw[show[0,1,2].filter (Li X w)=[0,1,2].filter (M9 s) from List.filter_congr λq hq=>by
   simp only[Bc,N1,OH] at hq
   rcases hq with rfl | rfl | rfl
   ·exact V.n0
   ·exact V.n1
   ·exact V.n2]
 rw[e8] at x8
 have x9:=v9 (z:=z) (l:=AZ a) (m:=AZ b) (s:=s) (ow:=o') (be:=be) (gr:=gr) (y:=Qe o' be gr) (r:=⟨r,g,bl⟩) (ob:=ob) (mo:=s.mo) (le:=s.le) (w:=w) (X:=X) (hu:=HO r g bl) (li:=lgt r g bl) (sa:=sat r g bl) (nr:=DS s) hn
 have cw:=bG (x:=w) (AA wb ⋯)
 rw[Er (AB cw (AB cw (AB cw F0))),show shT X w=TQ s s.le from by unfold shT TQ;rw[V.h0,V.h1,V.h2]] at x9
 have yi:=v10 (z:=z) (l:=AZ a) (m:=AZ b) (s:=s) (ow:=o') (be:=be) (gr:=gr) (y:=Qe o' be gr) (r:=⟨r,g,bl⟩) (ob:=ob) (mo:=s.mo) (le:=s.le) (w:=w) (X:=X) (hu:=HO r g bl) (li:=lgt r g bl) (sa:=sat r g bl) (nr:=DS s) (sh:=TQ s s.le) hn
 have o10:obs [It (zh (lgt r g bl)),DI (Nn (s.mo+s.le)),It (zi (sat r g bl) (s.mo+s.le))] ob=ob:=Er (AB (sW li.1) (AB (smF (AA N.2.2.2 ⋯)) (AB (sW si.1) F0)))
 rw[o10,show EV Me (zh (lgt r g bl))=2^12*(128+s.mo+s.le) from li.2,show EV Me (zi (sat r g bl) (s.mo+s.le))=w from si.2] at yi
 have x11:=v11 (z:=z) (l:=AZ a) (m:=AZ b) (s:=s) (ow:=o') (be:=be) (gr:=gr) (y:=Qe o' be gr) (r:=⟨r,g,bl⟩) (ob:=ob) (mo:=s.mo) (le:=s.le) (w:=w) (X:=X) (hu:=HO r g bl) (li:=lgt r g bl) (sa:=sat r g bl) (nr:=DS s) (sh:=TQ s s.le) hn (sX q.2.1.1 q.2.2.1) (sY q.2.1.1 q.2.2.2) (bG (by have VJ:=H.hi;have VK:=H.lo;have:=H.lt;exact(pw [.L .p (.j 63),.L (.j (-63)) .q,.T .q .p] (.l (.b (.A (.A (.j 128) .p) .q)) (.k (2^40))) [_,_] []) VJ VK this))
 have x12:=v12 (z:=z) (l:=AZ a) (m:=AZ b) (s:=s) (ow:=o') (be:=be) (gr:=gr) (y:=Qe o' be gr) (r:=⟨r,g,bl⟩) (ob:=ob) (mo:=s.mo) (le:=s.le) (w:=w) (X:=X) (hu:=HO r g bl) (li:=lgt r g bl) (sa:=sat r g bl) (nr:=DS s) (W1:=2^12*(128+s.mo+s.le)) (W2:=w) hn ⟨bG (by have g8:=(sG H H.h0).2;have bF:=H.h0;have ji:=H.hi;have lV:=H.lo;exact(pw [.a (.L .p .q) (.L .q .r),.L .r (.j 63),.L (.j (-63)) .p] (.l (.b (.S .q .p)) (.k (2^40))) [_,_,_] []) bF ji lV),bG (by have Tu:=H.h1;have xX:=H.hi;have th9:=H.lo;exact(pw [.a (.L .p .q) (.L .q .r),.L .r (.j 63),.L (.j (-63)) .p] (.l (.b (.S .q .p)) (.k (2^40))) [_,_,_] []) Tu xX th9),bG (by have xY:=H.h2;have sM:=H.hi;have:=H.lo;exact(pw [.a (.L .p .q) (.L .q .r),.L .r (.j 63),.L (.j (-63)) .p] (.l (.b (.S .q .p)) (.k (2^40))) [_,_,_] []) xY sM this)⟩
 refine oR (Bv:=Vy (AZ a) (AZ b) o' be gr s s.mo (Qe o' be gr) ⟨r,g,bl⟩ (lgt r g bl) (sat r g bl) (DS s) (TQ s s.le) (2^12*(128+s.mo+s.le)) w) (S2:=⟨HW z n s.le w (HO r g bl) X,ob⟩) hn (Hd (Ai (Xs (ev 115) _ _ _) (H5 3 _).symm) ((Ja x1).trans ?_)) ZT
 refine(Ak ⋯ (v3 hn (by exact(pw [.T (.j 0) .p] (.n (.E .p (.j 0))) [_] []) hB))).trans ((Ak ⋯ (v4 hn)).trans ((Ak ⋯ x5).trans ((Ak ⋯ x6).trans ((Ak ⋯ x7).trans ((Ak ⋯ x8).trans ((Ak ⋯ x9).trans ((Ak ⋯ yi).trans ((Ak ⋯ x11).trans (Kr ⋯ x12 rfl)))))))))
theorem v3e(hn:N4 n):(ev 115).X (De n) (Tv l m ow be gr s mo) ⟨HV z n (some (.int le)) (some (.int 0)) none none r2,ob⟩ (Lj 3)=some ⟨.ret (.tup [.lst [],.bool true]),Tv l m ow be gr s mo,⟨HV z n (some (.int le)) (some (.int 0)) none none r2,ob⟩⟩:=
 (KY (b:=true) (S1:=⟨HV z n (some (.int le)) (some (.int 0)) none none r2,ob⟩) ⋯ (by rcases hn with rfl | rfl | rfl | rfl<;>kernel_rfl)).trans ⋯
theorem mv(hn:N4 n)(L:mq a b)(h:¬ (En (AZ a) (AZ b)).le<(En (AZ a) (AZ b)).mo):
  A9 (ev 115) wr (.val (.ref 289)) [(AZ a).i,(AZ b).i,(Dm a).f,(Dm b).f,FG.f] [] ⟨ZN z n,ob⟩=some ⟨.tup [DS (En (AZ a) (AZ b)),.bool true],⟨ZN z n,ob⟩⟩:=by
 have e:En (AZ a) (AZ b)=⟨0,0,0⟩:=by
  have L:=L.sum
  change ¬ FJ (FJ ((b 0:Int)-a 0) ((b 1:Int)-a 1)) ((b 2:Int)-a 2)<GP (GP ((b 0:Int)-a 0) ((b 1:Int)-a 1)) ((b 2:Int)-a 2) at h
  have c:(b 0:Int)-a 0=0/\(b 1:Int)-a 1=0/\(b 2:Int)-a 2=0:=by
   have m:=mm ((b 0:Int)-a 0) ((b 1:Int)-a 1) ((b 2:Int)-a 2)
   have p5:(b 0:Int)-a 0+((b 1:Int)-a 1)+((b 2:Int)-a 2)=0:=(pw [.e (.A (.A .p .q) .r) (.A (.A .s .t) .u)] (.E (.A (.A (.S (.n .s) (.n .p)) (.S (.n .t) (.n .q))) (.S (.n .u) (.n .r))) (.j 0)) [] [_,_,_,_,_,_]) L
   generalize (b 0:Int)-a 0=s0 at *;generalize (b 1:Int)-a 1=s1 at *;generalize (b 2:Int)-a 2=s2 at*
   generalize FJ (FJ s0 s1) s2=le at *;generalize GP (GP s0 s1) s2=mo at*
   exact(pw [.E (.A (.A .p .q) .r) (.j 0),.n (.T .s .t),.a (.a (.L .s .p) (.L .p .t)) (.a (.a (.L .s .q) (.L .q .t)) (.a (.L .s .r) (.L .r .t)))] (.a (.E .p (.j 0)) (.a (.E .q (.j 0)) (.E .r (.j 0)))) [_,_,_,_,_] []) p5 h m
  show(⟨(b 0:Int)-a 0,(b 1:Int)-a 1,(b 2:Int)-a 2⟩ :T3 Int)=_
  rw[c.1,c.2.1,c.2.2]
 have x1:=v1 (z:=z) (l:=AZ a) (m:=AZ b) (ow:=Dm a) (be:=Dm b) (gr:=FG) (ob:=ob) hn
 rw[e] at x1 ⊢
 generalize Dm a=o' at *;generalize Dm b=be at *;generalize FG=gr at*
 have x1:Xs (ev 115) (De n) (yc (AZ a) (AZ b) o' be gr) ⟨HV z n none none none none [],ob⟩ ((E8 Qd.body).take 3)=some ⟨.next,Tv (AZ a) (AZ b) o' be gr ⟨0,0,0⟩ 0,⟨HV z n (some (.int 0)) (some (.int 0)) none none r2,ob⟩⟩:=x1.trans ⋯
 exact oR (Bv:=Tv (AZ a) (AZ b) o' be gr ⟨0,0,0⟩ 0) hn (Hd (Ai (Xs (ev 115) _ _ _) (H5 3 _).symm) ((Ja x1).trans (Kr ⋯ (v3e hn) rfl))) ⋯
theorem s7(hn:N4 n)(L:mq a b):A9 (ev 115) wr (.val (.ref 289)) [(AZ a).i,(AZ b).i,(Dm a).f,(Dm b).f,FG.f] [] ⟨ZN z n,ob⟩=some ⟨.tup [DS (En (AZ a) (AZ b)),.bool true],⟨ZN z n,ob⟩⟩:=
 (DH ((En (AZ a) (AZ b)).le<(En (AZ a) (AZ b)).mo)).elim (mu hn L) (mv hn L)
end
end
structure t9 where
 pt:Ab AV
 tol:Ab AV
 gry:Ab AV
 vws:Ab AV
 lmp:Ab AV
def HS(q:Nat->AO)(wd:AV)(nm wl:List AV)(c:t9)(l:B8)(R G B:List Nat)(ζ:Nat->AO)(rs:List AO):List AO:=
 A8 [q 0,.cell (some wd),q 2,.cell (some (.lst nm)),.cell c.pt,.cell c.tol,.cell c.gry,.cell none,.cell c.vws,.cell c.lmp,.cell (some (.loc 14)),q 11,q 12,.list wl,.list (jh (A1 l)),q 15,q 16,q 17,q 18,q 19,.list (CP R),.list (CP G),.list (bg (A1 l) B),.list (rO (A1 l) R G B)] (A8 ((Cn 42).map ζ) rs)
noncomputable def oS(q:Nat->AO)(wd:AV)(nm wl:List AV):Nat->AO
 |1=>.cell (some wd)
 |3=>.cell (some (.lst nm))
 |5=>.cell none
 |6=>.cell none
 |7=>.cell none
 |8=>.cell none
 |9=>.cell none
 |13=>.list wl
 |i=>q i
theorem yj(h:Z.length=42):HZ (oS q wd nm wl) (.cell (some (.int 6))) l R G B Z=HS q wd nm wl ⟨some (.int 6),none,none,none,none⟩ l R G B (λi=>Z.getD i .OK) []:=by
 have e:Z=(Cn 42).map λi=>Z.getD i .OK:=by
  refine Ri (by rw[AY,GV,h]) λi h1 h2=>?_
  rw[LF,Rh,HG,HU h1] at ⊢
  rfl
 unfold HZ
 conv=>lhs;rw[e]
 generalize (λi=>Z.getD i AO.OK)=ζ
 kernel_rfl
def Vz(l:B8):AV:=.lst ([0,1,2,3,4,5,6].map λp=>(Dm (l p)).f)
def yk(l:B8):List Aa:=[0,1,2,3,4,5,6].flatMap λp=>[DI (l p 0:Nat)&&true,DI (l p 1:Nat)&&true,DI (l p 2:Nat)&&true]
section
variable{q:Nat->AO}{wd:AV}{nm wl:List AV}{l:B8}{R G B:List Nat}{ζ:Nat->AO}{b:Aa}{v:Nat->AV}{x:X5}
def zl(v:Nat->AV)(l:B8)(R G B:List Nat)(x:X5):Lo:=Tn v l R G B 6 (some x)
def yl(v:Nat->AV)(l:B8)(R G B:List Nat)(x:X5):Lo:=A8 (zl v l R G B x) [("exact",.loc 66)]
theorem X26:(ev 118).X A6 (zl v l R G B x) ⟨HS q wd nm wl ⟨some (.int 6),none,none,none,none⟩ l R G B ζ [],b⟩ (Bb Ck 26)=some ⟨.next,zl v l R G B x,⟨HS q wd nm wl ⟨some (.int 6),some (Vz l),none,none,none⟩ l R G B ζ [],obs (yk l) b⟩⟩:=⋯
theorem X27:(ev 118).X A6 (zl v l R G B x) ⟨HS q wd nm wl ⟨some (.int 6),some (Vz l),none,none,none⟩ l R G B ζ [],b⟩ (Bb Ck 27)=some ⟨.next,yl v l R G B x,⟨HS q wd nm wl ⟨some (.int 6),some (Vz l),some FG.f,none,none⟩ l R G B ζ [.list []],b⟩⟩:=⋯
end
def mw:Az:=Bb Ck 28
def pb(i:Nat):Az:=Bb (B3 mw) i
def eV:Expr:=Cm (pb 1)
def rs(i k:Nat):List AO:=.list (FQ k (.bool true))::FQ i (.raw 2)
abbrev X6:=AV×AV×AV×AV×AV×AV
def Tw(v:Nat->AV)(l:B8)(R G B:List Nat)(x:X5)(g:Ab X6):Lo:=A8 (yl v l R G B x) (g.elim [] λt=>[("head",t.1),("sign",t.2.1),("due",t.2.2.1),("lit",t.2.2.2.1),("ahead",t.2.2.2.2.1),("nearest",t.2.2.2.2.2)])
noncomputable def vF(v:Nat->AV):Nat->AV | 8=>.loc 13 | i=>v i
noncomputable def w4(wf:Nat->AV):List AV:=[wf 0,wf 1,wf 2,wf 3]
theorem VA{P:Nat->Prop}(h0:P 0)(h1:P 1)(h2:P 2)(h3:P 3):∀p,p<4->P p
 |0,_=>h0 | 1,_=>h1 | 2,_=>h2 | 3,_=>h3
 |_+4,h=>AL (H7 4 _) (N7 h)
theorem oT(H:List AO):H=ZN (λi=>H.getD i .OK) H.length:=by
 show H=(Cn H.length).map λi=>H.getD i .OK
 refine Ri (by rw[AY,GV]) λi h1 h2=>?_
 rw[LF,Rh,HG,HU h1] at ⊢
 rfl
theorem s8(hH:H.length=n)(hn:N4 n)(L:mq a b):A9 (ev 115) wr (.val (.ref 289)) [(AZ a).i,(AZ b).i,(Dm a).f,(Dm b).f,FG.f] [] ⟨H,ob⟩=some ⟨.tup [DS (En (AZ a) (AZ b)),.bool true],⟨H,ob⟩⟩:=by
 have e:=s7 (z:=λi=>H.getD i .OK) (wr:=wr) (ob:=ob) hn L
 rw[<-hH,<-oT] at e
 exact e
noncomputable def GS:List Nat:=[0,1,2,3,4,5,6]
def bu(l:B8)(p:Nat):AV:=.lst (GS.map λq=>.tup [DS (En (AZ (l p)) (AZ (l q))),.bool true])
def iO(l:B8)(q:Nat):AV:=.tup [(AZ (l q)).i,(Dm (l q)).f]
def zm(l:B8):List Src:=[.loc 14,.lst (GS.map λp=>(Dm (l p)).f)]
section
variable{q:Nat->AO}{wd:AV}{nm:List AV}{wf:Nat->AV}{l:B8}{R G B:List Nat}{ζ:Nat->AO}{b:Aa}{v:Nat->AV}{x:X5}{g:Ab X6}{vws lmp:Ab AV}
noncomputable abbrev HP(q:Nat->AO)(wd:AV)(nm:List AV)(wf:Nat->AV)(l:B8)(R G B:List Nat)(ζ:Nat->AO)(p:Nat)(vws lmp:Ab AV)(i k:Nat):List AO:=HS q wd nm (w4 wf) ⟨some (.int p),some (Vz l),some FG.f,vws,lmp⟩ l R G B ζ (rs i k)
theorem p0:∀i,i<4->(ev 117).X A6 (Tw (vF v) l R G B x g) ⟨HP q wd nm wf l R G B ζ (i+3) vws lmp i (7*i),b⟩ (pb 0)=some ⟨.next,Tw (vF v) l R G B x g,⟨HP q (wf i) nm wf l R G B ζ (i+3) vws lmp i (7*i),b⟩⟩:=
 VA ⋯ ⋯ ⋯ ⋯
def fcV(n:Nat):List (Str×Nat):=(Cy A6 (FH eV).names []).getD []
abbrev HC(q:Nat->AO)(nm:List AV)(wf:Nat->AV)(l:B8)(R G B:List Nat)(ζ:Nat->AO)(vws lmp:Ab AV)(i:Nat):List AO:=HP q (wf i) nm wf l R G B ζ (i+3) vws lmp (i+1) (7*i)
theorem Ace{acc:List AV}:∀i,i<4->∀j,j<7->Src.at (HC q nm wf l R G B ζ vws lmp i++[.list acc]) j (.zip (67+i) (zm l))=some (GS.map (iO l))[j]?:=
 VA (VG ⋯ ⋯ ⋯ ⋯ ⋯ ⋯ ⋯) (VG ⋯ ⋯ ⋯ ⋯ ⋯ ⋯ ⋯)
  (VG ⋯ ⋯ ⋯ ⋯ ⋯ ⋯ ⋯) (VG ⋯ ⋯ ⋯ ⋯ ⋯ ⋯ ⋯)
theorem zat{acc:List AV}(j:Nat):∀i,i<4->Src.at (HC q nm wf l R G B ζ vws lmp i++[.list acc]) j (.zip (67+i) (zm l))=some (GS.map (iO l))[j]?:=by
 by_cases h:j<7
 ·exact λi hi=>Ace i hi j h
 ·have e:(jh (A1 l))[j]?=none:=H4 (N8 h)
  have e':(GS.map (iO l))[j]?=none:=H4 (N8 h)
  have ha:∀H:List AO,H[14]?=some (.list (jh (A1 l)))->Src.jb H j (zm l)=some none:=λH hH=>by
   show(((H[14]?).bind CW).bind λxs=>some xs[j]?).bind _=_
   rw[hH]
   show(some (jh (A1 l))[j]?).bind _=_
   rw[e]
   rfl
  rw[e']
  exact VA (tW rfl rfl (ha _ rfl)) (tW rfl rfl (ha _ rfl)) (tW rfl rfl (ha _ rfl)) (tW rfl rfl (ha _ rfl))
def loT(l:B8)(q:Nat):Lo:=[("light",(AZ (l q)).i),("triple",(Dm (l q)).f)]
theorem Acf{n:Nat}(p:Nat):∀i,i<4->Jh (ev 115) (DJ A6 (68+i) (FH eV) (fcV 0)) (loT l p) ⟨HC q nm wf l R G B ζ vws lmp i++[.list acc],b⟩ (C0 (X3 eV))=some ⟨[(AZ (l (i+3))).i,(AZ (l p)).i,(Dm (l (i+3))).f,(Dm (l p)).f,FG.f],⟨HC q nm wf l R G B ζ vws lmp i++[.list acc],b⟩⟩:=
 VA ⋯ ⋯ ⋯ ⋯
theorem p1(L:∀p q,mq (l p) (l q))(i:Nat)(hi:i<4):(ev 117).X A6 (Tw (vF v) l R G B x g) ⟨HP q (wf i) nm wf l R G B ζ (i+3) vws lmp i (7*i),b⟩ (pb 1)=some ⟨.next,Tw (vF v) l R G B x g,⟨HP q (wf i) nm wf l R G B ζ (i+3) (some (bu l (i+3))) lmp (i+1) (7*i),b⟩⟩:=by
 have hl:∀i,i<4->(HC q nm wf l R G B ζ vws lmp i).length=68+i:=VA rfl rfl rfl rfl
 have hN:N4 (69+i):=by unfold N4;exact(pw [.t .p (.k 4)] (.o (.e (.A (.k 69) .p) (.k 69)) (.o (.e (.A (.k 69) .p) (.k 70)) (.o (.e (.A (.k 69) .p) (.k 71)) (.e (.A (.k 69) .p) (.k 72))))) [] [_]) hi
 have c:=Ht (g:=λ_=>true)
  ⋯ (VA (P:=λi=>FU (ev 116) A6 (Tw (vF v) l R G B x g) ⟨HP q (wf i) nm wf l R G B ζ (i+3) vws lmp i (7*i),b⟩ (bj eV)=some ⟨.zip (67+i) (zm l),⟨HC q nm wf l R G B ζ vws lmp i,b⟩⟩) ⋯ ⋯ ⋯ ⋯ i hi) ⋯ ⋯ ⋯ ⋯ (λj acc=>zat j i hi)
  (λq _ lo acc h=>by obtain rfl | ⟨q',rfl⟩:=h<;>kernel_rfl) (λq _ acc=>⋯)
  (λp _ _ acc=>by
   rw[hl i hi]
   refine(CH ⋯ ⋯ ⋯ ⋯ (Acf (n:=0) p i hi) ⋯).trans (s8 ?_ hN (L _ _))
   rw[BP,hl i hi];exact(pw [] (.e (.A (.A (.k 68) .p) (.k 1)) (.A (.k 69) .p)) [] [_])) (λq _ H'=>ZT)
 rw[K4] at c
 refine(iM ⋯ ⋯ c).trans ?_
 exact VA (P:=λi=>Hl (putN A6 (Tw (vF v) l R G B x g) ⟨HC q nm wf l R G B ζ vws lmp i,b⟩ (Bw (BV (pb 1))) (bu l (i+3)))=some ⟨.next,Tw (vF v) l R G B x g,⟨HP q (wf i) nm wf l R G B ζ (i+3) (some (bu l (i+3))) lmp (i+1) (7*i),b⟩⟩) ⋯ ⋯ ⋯ ⋯ i hi
theorem p2:∀i,i<4->(ev 117).X A6 (Tw (vF v) l R G B x g) ⟨HP q (wf i) nm wf l R G B ζ (i+3) (some (bu l (i+3))) lmp (i+1) (7*i),b⟩ (pb 2)=some ⟨.next,Tw (vF v) l R G B x g,⟨HP q (wf i) nm wf l R G B ζ (i+3) (some (bu l (i+3))) lmp (i+1) (7*(i+1)),b⟩⟩:=
 VA ⋯ ⋯ ⋯ ⋯
end
def VB:Az:=Bb (B3 mw) 3
def db(i:Nat):Az:=Bb (B3 VB) i
noncomputable def Acg(t:bB)(c:Nat):bB:=match t with
 |[w,r,g,b]=>cond (Aw c 114) [w++[c],w,g,b] (cond (Aw c 103) [w++[c],r,w,b] [w++[c],r,g,w])
 |t=>t
def Lk(w:List Nat):bB:=w.foldl Acg [[],[82],[71],[66]]
noncomputable def Nr(lamp:Nat):List Nat:=[([114,103,98]:List Nat).getD lamp 0]
def VM(w:List Nat)(lamp:Nat):List Nat:=(Lk w).getD (lamp+1) []
def ym(x:List Nat):Aa:=Fu x [82]||(Fu x [71]||Fu x [66])
def ZU(w:List Nat)(lamp:Nat)(d:List Nat)(lit:Nat):List Nat:=cond (ym (VM w lit)) d (VM w lit++(Nr lit++([10]++(w.drop ((VM w lit).length+1)++Nr lamp))))
def ML(w:List Nat)(lamp h:Nat):List Nat:=ZU w lamp (ZU w lamp (w++(cond (Aw h 0) [] [10,32]++Nr lamp)) ((lamp+1)%3)) lamp
noncomputable def vD(v:Nat->AV)(qu:Int)(cf:Nat->AV):Nat->AV
 |4=>.int qu
 |8=>.loc 13
 |10=>.lst [cf 0,cf 1,cf 2,cf 3]
 |i=>v i
noncomputable def s9(cf:Nat->AV)(i:Nat)(t:AV):Nat->AV:=λj=>cond (Aw j i) t (cf j)
def MM(ns:Nat->AV):List AV:=[sL [82],sL [71],sL [66],ns 0,ns 1,ns 2,ns 3]
def loQ(v:Nat->AV)(l:B8)(R G B:List Nat)(x:X5)(h s:AV)(r:Ab (AV×AV×AV×AV)):Lo:=A8 (yl v l R G B x) (A8 [("head",h),("sign",s)] (r.elim [] λt=>[("due",t.1),("lit",t.2.1),("ahead",t.2.2.1),("nearest",t.2.2.2)]))
def bH(v:Nat->AV)(l:B8)(R G B:List Nat)(x:X5)(h s d li ah:AV)(n:Ab AV):Lo:=A8 (yl v l R G B x) (A8 [("head",h),("sign",s),("due",d),("lit",li),("ahead",ah)] (n.elim [] λt=>[("nearest",t)]))
noncomputable def W1:List (List Nat):=[[114],[103],[98]]
def W2:List (List Nat):=W1++(W1.flatMap λw=>[w++[114],w++[103],w++[98]])
def W3:List (List Nat):=W1++(W2.flatMap λw=>[w++[114],w++[103],w++[98]])
def WI:Nat->List (List Nat) | 0=>[[]] | 1=>W1 | 2=>W2 | _=>W3
section
variable{q:Nat->AO}{ns:Nat->AV}{wf cf:Nat->AV}{l:B8}{R G B:List Nat}{ζ:Nat->AO}{b:Aa}{v:Nat->AV}{x:X5}{g:Ab X6}{lmp:Ab AV}{qu:Int}{r:Ab (AV×AV×AV×AV)}
def HD(q:Nat->AO)(w:List Nat)(ns:Nat->AV)(wf:Nat->AV)(l:B8)(R G B:List Nat)(ζ:Nat->AO)(lamp i:Nat):List AO:=HP q (sL w) (MM ns) wf l R G B ζ (i+3) (some (bu l (i+3))) (some (.int lamp)) (i+1) (7*(i+1))
def iP(q:Nat->AO)(ns wf cf:Nat->AV)(l:B8)(R G B:List Nat)(ζ:Nat->AO)(b:Aa)(v:Nat->AV)(x:X5)(qu:Int)(r:Ab (AV×AV×AV×AV))(i lamp h:Nat)(w:List Nat):Ab Rx:=
 Xs (ev 116) A6 (loQ (vD v qu (s9 cf i (I6 (Lk w)))) l R G B x (.int h) (sL (Nr lamp)) r) ⟨HD q w ns wf l R G B ζ lamp i,b⟩ (((B3 VB).drop 1).take 2)
def iQ(q:Nat->AO)(ns wf cf:Nat->AV)(l:B8)(R G B:List Nat)(ζ:Nat->AO)(b:Aa)(v:Nat->AV)(x:X5)(qu:Int)(r:Ab (AV×AV×AV×AV))(i lamp h:Nat)(w:List Nat):Ab Rx:=
 some ⟨.next,bH (vD v qu (s9 cf i (I6 (Lk w)))) l R G B x (.int h) (sL (Nr lamp)) (sL (ML w lamp h)) (.int lamp) (sL (VM w lamp)) (r.map (·.2.2.2)),⟨HD q w ns wf l R G B ζ lamp i,b⟩⟩
def F5(q:Nat->AO)(ns wf cf:Nat->AV)(l:B8)(R G B:List Nat)(ζ:Nat->AO)(b:Aa)(v:Nat->AV)(x:X5)(qu:Int)(n:AV)(i lamp h:Nat)(w:List Nat):Ab Rx:=
 (ev 116).X A6 (bH (vD v qu (s9 cf i (I6 (Lk w)))) l R G B x (.int h) (sL (Nr lamp)) (sL (ML w lamp h)) (.int lamp) (sL (VM w lamp)) (some n)) ⟨HD q w ns wf l R G B ζ lamp i,b⟩ (db 5)
def G5(q:Nat->AO)(ns wf cf:Nat->AV)(l:B8)(R G B:List Nat)(ζ:Nat->AO)(b:Aa)(v:Nat->AV)(x:X5)(qu:Int)(n:AV)(i lamp h:Nat)(w:List Nat):Ab Rx:=
 some ⟨.next,bH (vD v qu (s9 cf i (I6 (Lk w)))) l R G B x (.int h) (sL (Nr lamp)) (sL (ML w lamp h)) (.int lamp) (sL (VM w lamp)) (some n),⟨HD q w ns wf l R G B ζ lamp i,b⟩⟩
end
section
variable{q:Nat->AO}{ns:Nat->AV}{wf:Nat->AV}{l:B8}{R G B:List Nat}{ζ:Nat->AO}{b:Aa}{v:Nat->AV}{x:X5}{g:Ab X6}{lmp:Ab AV}{qu:Int}{h s d li ah:AV}{n:Ab AV}{w:List Nat}
theorem d0:∀lamp:Nat,lamp<3->∃r,(ev 116).X A6 (Tw (vD v qu cf) l R G B x g) ⟨HD q w ns wf l R G B ζ lamp i,b⟩ (db 0)=some ⟨.next,loQ (vD v qu cf) l R G B x (.int ((qu+lamp).fmod 3)) (sL (Nr lamp)) r,⟨HD q w ns wf l R G B ζ lamp i,b⟩⟩/\(r=none->g=none):=by
 cases g with
 |none=>exact M8 ⟨none,by kernel_rfl,λ_=>rfl⟩ ⟨none,by kernel_rfl,λ_=>rfl⟩ ⟨none,by kernel_rfl,λ_=>rfl⟩
 |some t=>exact M8 ⟨some (t.2.2.1,t.2.2.2.1,t.2.2.2.2.1,t.2.2.2.2.2),by kernel_rfl,nofun⟩ ⟨some (t.2.2.1,t.2.2.2.1,t.2.2.2.2.1,t.2.2.2.2.2),by kernel_rfl,nofun⟩ ⟨some (t.2.2.1,t.2.2.2.1,t.2.2.2.2.1,t.2.2.2.2.2),by kernel_rfl,nofun⟩
theorem my{s:T3 Int}:∀lamp:Nat,lamp<3->yJ H (.int lamp) (DS s)=some (M9 s lamp):=by
 unfold DS
 cases h0:M9 s 0<;>cases h1:M9 s 1<;>cases h2:M9 s 2<;>simp only[List.filter,h0,h1,h2]<;>exact M8 (by rw[h0];rfl) (by rw[h1];rfl) (by rw[h2];rfl)
def eN:Expr:=Cm (db 3)
def fcN:List (Str×Nat):=(Cy A6 (FH eN).names []).getD []
noncomputable def GQ(R G B:List Nat):Nat->List Nat | 0=>R | 1=>G | _=>B
def tc(B:List Nat):Nat->Src | 0=>.loc 20 | 1=>.loc 21 | _=>.lst (CP B)
def jj(l:B8)(i lamp p:Nat):Aa:=M9 (En (AZ (l (i+3))) (AZ (l p))) lamp
theorem tN{acc:List AV}(lamp:Nat)(hl:lamp<3)(p:Nat)(hp:p<7):(ev 115).T (DJ A6 N (FH eN) fcN) [("one",.int p)] ⟨HD q w ns wf l R G B ζ lamp i++[.list acc],b⟩ (CA (TM eN) 0)=some ⟨jj l i lamp p,⟨HD q w ns wf l R G B ζ lamp i++[.list acc],b⟩⟩:=by
 refine KZ (S1:=⟨HD q w ns wf l R G B ζ lamp i++[.list acc],b⟩) ⋯ ⋯ ⋯ ?_ .In ⋯ (my lamp hl)
 exact VG (P:=λp=>(ev 114).E (DJ A6 N (FH eN) fcN) [("one",.int p)] ⟨HD q w ns wf l R G B ζ lamp i++[.list acc],b⟩ (Eb (CA (TM eN) 0))=some ⟨DS (En (AZ (l (i+3))) (AZ (l p))),⟨HD q w ns wf l R G B ζ lamp i++[.list acc],b⟩⟩) ⋯ ⋯ ⋯ ⋯ ⋯ ⋯ ⋯ p hp
def nrW(l:B8)(R G B:List Nat)(i lamp:Nat):AV:=.lst (((GQ R G B lamp).filter (jj l i lamp)).map λ(p:Nat)=>.int p)
theorem d3(lamp:Nat)(hl:lamp<3)(h7:∀k,(GQ R G B k).length<80/\∀p,p∈GQ R G B k->p<7):(ev 116).X A6 (bH v l R G B x h s d li ah n) ⟨HD q w ns wf l R G B ζ lamp i,b⟩ (db 3)=some ⟨.next,bH v l R G B x h s d li ah (some (nrW l R G B i lamp)),⟨HD q w ns wf l R G B ζ lamp i,b⟩⟩:=by
 have hi:∀lamp,lamp<3->FU (ev 115) A6 (bH v l R G B x h s d li ah n) ⟨HD q w ns wf l R G B ζ lamp i,b⟩ (bj eN)=some ⟨tc B lamp,⟨HD q w ns wf l R G B ζ lamp i,b⟩⟩:=M8 ⋯ ⋯ ⋯
 have ha:∀lamp,lamp<3->∀j acc,Src.at (HD q w ns wf l R G B ζ lamp i++[.list acc]) j (tc B lamp)=some ((GQ R G B lamp).map λ(p:Nat)=>AV.int p)[j]?:=M8 (λj acc=>⋯) (λj acc=>⋯) (λj acc=>⋯)
 have hz:∀lamp,lamp<3->(SD (tc B lamp) (VH eN)&&(Sx (FH eN)&&Qy (FH eN).names (FH eN).names))=true:=M8 ⋯ ⋯ ⋯
 have c:=Ht (w:=λp=>.int p)
  ⋯ (hi lamp hl) (hz lamp hl) ⋯ ⋯ (h7 lamp).1 (ha lamp hl) (λp _ lo acc h=>by obtain rfl | ⟨q',rfl⟩:=h<;>kernel_rfl) (λp hp acc=>sU ⋯ (tN lamp hl p ((h7 lamp).2 p hp))) (λp _ _ acc=>⋯) (λp _ H'=>rfl)
 refine(iM ⋯ ⋯ c).trans ?_
 cases n<;>kernel_rfl
theorem mz(h1:IG xs=some ys)(h2:Qg y ys 0=some k)(hn:xs.length<1000):IL r wr (.bi .Hj) (.lst xs) [.str y] S=some ⟨.int k,S⟩:=
 (Ai (λo:Ab (List Str)=>o.bind λys=>(Qg y ys 0).bind λi=>Af (decide (xs.length<1000)) (some (⟨.int i,S⟩ :Rt AV))) h1).trans ((Ai (λo:Ab Nat=>o.bind λi=>Af (decide (xs.length<1000)) (some (⟨.int i,S⟩ :Rt AV))) h2).trans (Ai (λz=>Af z (some (⟨.int k,S⟩ :Rt AV))) (AU hn)))
def c4:Expr:=BV (db 4)
noncomputable def Ll(a:Nat)(r:List Nat):AV:=.lst ((a::r).map λ(p:Nat)=>.int p)
theorem d4(hr:r.length<900)(h1:IG (MM ns)=some ys)(h2:Qg ⟨y.toArray⟩ ys 0=some k):(ev 116).X A6 (bH v l R G B x h s d li (sL y) (some (Ll k r))) ⟨HD q w ns wf l R G B ζ lamp i,b⟩ (db 4)=some ⟨.next,bH v l R G B x h s d li (sL y) (some (Ll k r)),⟨HD q w ns wf l R G B ζ lamp i,b⟩⟩:=by
 have e1:(ev 114).E A6 (bH v l R G B x h s d li (sL y) (some (Ll k r))) ⟨HD q w ns wf l R G B ζ lamp i,b⟩ (E4 c4)=some ⟨.lst [.int k],⟨HD q w ns wf l R G B ζ lamp i,b⟩⟩:=by
  refine(show _=Af (decide (((k::r).map λ(p:Nat)=>AV.int p).length<100000)) (some (⟨.lst (OQ ((k::r).map λ(p:Nat)=>AV.int p) none (some 1)),⟨HD q w ns wf l R G B ζ lamp i,b⟩⟩ :Rt AV)) from ⋯).trans ?_
  rw[AU (by rw[AY];exact(pw [.t .p (.k 900)] (.t (.A .p (.k 1)) (.k 100000)) [] [_]) hr)]
  have hc:DF ((k::r).map λ(p:Nat)=>AV.int p).length 1=1:=by
   unfold DF
   rw[AY]
   rw[AD ⋯]
   exact(pw [] (.e (.d (.max (.j 0) (.min (.j 1) (.n (.A .p (.k 1)))))) (.k 1)) [] [_])
  show some (⟨.lst ((((k::r).map λ(p:Nat)=>AV.int p).drop 0).take (DF ((k::r).map λ(p:Nat)=>AV.int p).length 1-0)),_⟩ :Rt AV)=_
  rw[hc]
  rfl
 have e2:(ev 114).E A6 (bH v l R G B x h s d li (sL y) (some (Ll k r))) ⟨HD q w ns wf l R G B ζ lamp i,b⟩ (Eb c4)=some ⟨.lst [.int k],⟨HD q w ns wf l R G B ζ lamp i,b⟩⟩:=
  Vg ⋯ ⋯ (Dg ⋯ ((I8 (S1:=⟨HD q w ns wf l R G B ζ lamp i,b⟩) ⋯ ⋯ ⋯ ⋯ ⋯ "index" ⋯ ⋯ ⋯).trans (mz h1 h2 (Bm rfl))))
 have t:(ev 115).T A6 (bH v l R G B x h s d li (sL y) (some (Ll k r))) ⟨HD q w ns wf l R G B ζ lamp i,b⟩ c4=some ⟨false,⟨HD q w ns wf l R G B ζ lamp i,b⟩⟩:=
  KZ ⋯ ⋯ e1 e2 .NotEq ⋯ (by show some (!(decide ((k:Int)=k)&&true))=_;rw[AU rfl];rfl)
 exact(KY ⋯ t).trans ⋯
end
theorem iR(h:cf i=t):s9 cf i t=cf:=by
 funext j
 unfold s9
 cases e:Aw j i with
 |true=>rw[Cb e];exact h.symm
 |false=>rfl
section
variable{q:Nat->AO}{ns:Nat->AV}{wf cf:Nat->AV}{l:B8}{R G B:List Nat}{ζ:Nat->AO}{b:Aa}{v:Nat->AV}{x:X5}{g:Ab X6}{qu:Int}{w:List Nat}{i:Nat}
structure iT(q:Nat->AO)(ns wf cf:Nat->AV)(l:B8)(R G B:List Nat)(ζ:Nat->AO)(b:Aa)(v:Nat->AV)(x:X5)(qu:Int)(i:Nat)(w:List Nat):Prop where
 hc:cf i=I6 (Lk w)
 hw:wf i=sL w
 zo:∀lamp,lamp<3->∀h,h<3->∀r,(r=none->i=0)->iP q ns wf cf l R G B ζ b v x qu r i lamp h w=iQ q ns wf cf l R G B ζ b v x qu r i lamp h w
 f5:∀lamp,lamp<3->∀h,h<3->∀n,F5 q ns wf cf l R G B ζ b v x qu n i lamp h w=G5 q ns wf cf l R G B ζ b v x qu n i lamp h w
 nm:∀lamp,lamp<3->∃k r ys,IG (MM ns)=some ys/\Qg ⟨(VM w lamp).toArray⟩ ys 0=some k/\(GQ R G B lamp).filter (jj l i lamp)=k::r
theorem iU(P:iT q ns wf cf l R G B ζ b v x qu i w)(h7:∀k,(GQ R G B k).length<80/\∀p,p∈GQ R G B k->p<7)(hg:g=none->i=0)(lamp:Nat)(hl:lamp<3):
  ∃g',Xs (ev 116) A6 (Tw (vD v qu cf) l R G B x g) ⟨HD q w ns wf l R G B ζ lamp i,b⟩ (B3 VB)=some ⟨.next,Tw (vD v qu cf) l R G B x (some g'),⟨HD q w ns wf l R G B ζ lamp i,b⟩⟩:=by
 refine(d0 (q:=q) (ns:=ns) (wf:=wf) (l:=l) (R:=R) (G:=G) (B:=B) (ζ:=ζ) (b:=b) (v:=v) (x:=x) (g:=g) (qu:=qu) (w:=w) (cf:=cf) (i:=i) lamp hl).elim λr hr=>?_
 have hm: 0<=(qu+(lamp:Int)).fmod 3/\(qu+(lamp:Int)).fmod 3<3:=by
  rw[NS _ ⋯]
  exact⟨Lx _ ⋯,Lv _ ⋯⟩
 have hh:=(Q5 hm.1).symm
 have h3:((qu+(lamp:Int)).fmod 3).toNat<3:=(pw [.a (.L (.j 0) .p) (.T .p (.j 3))] (.t (.d .p) (.k 3)) [_] []) hm
 generalize ((qu+(lamp:Int)).fmod 3).toNat=h at hh h3
 rw[hh] at hr
 have kO:=P.zo lamp hl h h3 r λz=>hg (hr.2 z)
 unfold iP iQ at kO
 rw[iR P.hc] at kO
 have e3:=d3 (q:=q) (ns:=ns) (wf:=wf) (l:=l) (R:=R) (G:=G) (B:=B) (ζ:=ζ) (b:=b) (v:=vD v qu cf) (x:=x) (w:=w) (i:=i) (h:=.int h) (s:=sL (Nr lamp)) (d:=sL (ML w lamp h)) (li:=.int lamp) (ah:=sL (VM w lamp)) (n:=r.map (·.2.2.2)) lamp hl h7
 refine(P.nm lamp hl).elim λk z=>z.elim λrr z=>z.elim λys z=>?_
 have en:nrW l R G B i lamp=Ll k rr:=by unfold nrW Ll;rw[z.2.2]
 rw[en] at e3
 have hlen:rr.length<900:=by
  have t:=bW (jj l i lamp) (GQ R G B lamp)
  rw[z.2.2] at t
  have:=(h7 lamp).1
  have t:rr.length+1<=(GQ R G B lamp).length:=t
  exact(pw [.t .p (.k 80),.l (.A .q (.k 1)) .p] (.t .q (.k 900)) [] [_,_]) this t
 have e4:=d4 (q:=q) (ns:=ns) (wf:=wf) (l:=l) (R:=R) (G:=G) (B:=B) (ζ:=ζ) (b:=b) (v:=vD v qu cf) (x:=x) (w:=w) (i:=i) (lamp:=lamp) (h:=.int h) (s:=sL (Nr lamp)) (d:=sL (ML w lamp h)) (li:=.int lamp) (r:=rr) hlen z.1 z.2.1
 have e5:=P.f5 lamp hl h h3 (Ll k rr)
 unfold F5 G5 at e5
 rw[iR P.hc] at e5
 refine⟨(.int h,sL (Nr lamp),sL (ML w lamp h),.int lamp,sL (VM w lamp),Ll k rr),?_⟩
 refine(Ak ⋯ hr.1).trans ?_
 refine Hd (Ai (Xs (ev 116) A6 _ _) (show(B3 VB).tail=((B3 VB).drop 1).take 2++((B3 VB).drop 1).drop 2 by rw[H5];kernel_rfl)) ((Ja kO).trans ?_)
 exact(Ak (l:=((B3 VB).drop 1).drop 2) ⋯ e3).trans ((Ak ⋯ e4).trans ((Ak ⋯ e5).trans ⋯))
theorem yn(P:iT q ns wf cf l R G B ζ b v x qu i w)(h7:∀k,(GQ R G B k).length<80/\∀p,p∈GQ R G B k->p<7)(hg:g=none->i=0):
  ∃g',(ev 117).X A6 (Tw (vD v qu cf) l R G B x g) ⟨HP q (sL w) (MM ns) wf l R G B ζ (i+3) (some (bu l (i+3))) lmp (i+1) (7*(i+1)),b⟩ VB=some ⟨.next,Tw (vD v qu cf) l R G B x (some g'),⟨HD q w ns wf l R G B ζ 2 i,b⟩⟩:=by
 refine(iU P h7 hg 0 ⋯).elim λg0 e0=>(iU (g:=some g0) P h7 nofun 1 ⋯).elim λg1 e1=>(iU (g:=some g1) P h7 nofun 2 ⋯).elim λg2 e2=>⟨g2,?_⟩
 refine Qp (src:=.Gw 0 3 1) (S1:=⟨HP q (sL w) (MM ns) wf l R G B ζ (i+3) (some (bu l (i+3))) lmp (i+1) (7*(i+1)),b⟩) ⋯ ⋯ ⋯ ?_
 refine(B0 (w:=.int 0) ⋯ ⋯ e0).trans ?_
 refine(B0 (w:=.int 1) ⋯ ⋯ e1).trans ?_
 refine(B0 (w:=.int 2) ⋯ ⋯ e2).trans ?_
 kernel_rfl
theorem Tx(L:∀p q,mq (l p) (l q))(P:iT q ns wf cf l R G B ζ b v x qu i w)(hi:i<4)(h7:∀k,(GQ R G B k).length<80/\∀p,p∈GQ R G B k->p<7)(hg:g=none->i=0):
  ∃g',Xs (ev 117) A6 (Tw (vD v qu cf) l R G B x g) ⟨HP q wd (MM ns) wf l R G B ζ (i+3) vws lmp i (7*i),b⟩ (B3 mw)=some ⟨.next,Tw (vD v qu cf) l R G B x (some g'),⟨HD q w ns wf l R G B ζ 2 i,b⟩⟩:=by
 refine(yn (lmp:=lmp) P h7 hg).elim λg' e=>⟨g',?_⟩
 have a0:=p0 (q:=q) (wd:=wd) (nm:=MM ns) (wf:=wf) (l:=l) (R:=R) (G:=G) (B:=B) (ζ:=ζ) (b:=b) (v:=vD v qu cf) (x:=x) (g:=g) (vws:=vws) (lmp:=lmp) i hi
 have a1:=p1 (q:=q) (nm:=MM ns) (wf:=wf) (R:=R) (G:=G) (B:=B) (ζ:=ζ) (b:=b) (v:=vD v qu cf) (x:=x) (g:=g) (vws:=vws) (lmp:=lmp) L i hi
 have a2:=p2 (q:=q) (nm:=MM ns) (wf:=wf) (l:=l) (R:=R) (G:=G) (B:=B) (ζ:=ζ) (b:=b) (v:=vD v qu cf) (x:=x) (g:=g) (lmp:=lmp) i hi
 have hv:vF (vD v qu cf)=vD v qu cf:=by funext j;unfold vF;split<;>rfl
 rw[hv,P.hw] at a0 a1 a2
 exact(Ak ⋯ a0).trans ((Ak ⋯ a1).trans ((Ak ⋯ a2).trans ((Ak ⋯ e).trans ⋯)))
theorem X28{ws:Nat->List Nat}(L:∀p q,mq (l p) (l q))(P:∀i,i<4->iT q ns wf cf l R G B ζ b v x qu i (ws i))(h7:∀k,(GQ R G B k).length<80/\∀p,p∈GQ R G B k->p<7):
  ∃g',(ev 118).X A6 (yl (vD v qu cf) l R G B x) ⟨HS q wd (MM ns) (w4 wf) ⟨some (.int 6),some (Vz l),some FG.f,none,none⟩ l R G B ζ [.list []],b⟩ mw=some ⟨.next,Tw (vD v qu cf) l R G B x (some g'),⟨HD q (ws 3) ns wf l R G B ζ 2 3,b⟩⟩:=by
 refine(Tx (g:=none) (wd:=wd) (vws:=none) (lmp:=none) L (P 0 ⋯) ⋯ h7 λ_=>rfl).elim λg0 e0=>(Tx (g:=some g0) (wd:=sL (ws 0)) (vws:=some (bu l 3)) (lmp:=some (.int 2)) L (P 1 ⋯) ⋯ h7 nofun).elim λg1 e1=>
  (Tx (g:=some g1) (wd:=sL (ws 1)) (vws:=some (bu l 4)) (lmp:=some (.int 2)) L (P 2 ⋯) ⋯ h7 nofun).elim λg2 e2=>(Tx (g:=some g2) (wd:=sL (ws 2)) (vws:=some (bu l 5)) (lmp:=some (.int 2)) L (P 3 ⋯) ⋯ h7 nofun).elim λg3 e3=>⟨g3,?_⟩
 refine Qp (src:=.Gw 3 7 1) (S1:=⟨HS q wd (MM ns) (w4 wf) ⟨some (.int 6),some (Vz l),some FG.f,none,none⟩ l R G B ζ [.list []],b⟩) ⋯ ⋯ ⋯ ?_
 refine(B0 (k:=79) (i:=0) (w:=.int 3) ⋯ ⋯ e0).trans ((B0 (k:=78) (i:=1) (w:=.int 4) ⋯ ⋯ e1).trans ((B0 (k:=77) (i:=2) (w:=.int 5) ⋯ ⋯ e2).trans ((B0 (k:=76) (i:=3) (w:=.int 6) ⋯ ⋯ e3).trans ?_)))
 kernel_rfl
end
def HT(q:Nat->AO)(wd:AV)(nm wl:List AV)(c:t9)(lgt:Ab AV)(l:B8)(R G B:List Nat)(ζ:Nat->AO)(rs:List AO):List AO:=
 A8 [q 0,.cell (some wd),q 2,.cell (some (.lst nm)),.cell c.pt,.cell c.tol,.cell c.gry,.cell lgt,.cell c.vws,.cell c.lmp,.cell (some (.loc 14)),q 11,q 12,.list wl,.list (jh (A1 l)),q 15,q 16,q 17,q 18,q 19,.list (CP R),.list (CP G),.list (bg (A1 l) B),.list (rO (A1 l) R G B)] (A8 ((Cn 42).map ζ) rs)
theorem cnt_cons(P:Nat->Aa)(q:Nat)(t:List Nat):cnt P (q::t)=(cond (P q) 1 0)+cnt P t:=by
 show cond (P q) (cnt P t+1) (cnt P t)=_
 induction P q using Eh with
 |true=>exact Ga _ _
 |false=>exact(Ia _).symm
theorem ZV(P Q:Nat->Aa)(x:Nat):∀t:List Nat,cnt P (FE Q x t)=cnt P (x::t)
 |[]=>rfl
 |q::t=>by
  show cnt P (cond (Q q) (q::FE Q x t) (x::q::t))=_
  induction Q q using Eh with
  |true=>show cnt P (q::FE Q x t)=_;rw[cnt_cons,ZV P Q x t,cnt_cons,cnt_cons,cnt_cons];ac_rfl
  |false=>rfl
theorem Hz(P:Nat->Aa):∀t:List Nat,(t.filter P).length=cnt P t
 |[]=>rfl
 |q::t=>by
  rw[List.filter_cons]
  show _=cond (P q) (cnt P t+1) (cnt P t)
  induction P q using Eh with
  |true=>exact Ai (· +1) (Hz P t)
  |false=>exact Hz P t
theorem Tz(P:Nat->Aa)(Q:Nat->Nat->Aa):cnt P (row Q 7)=(GS.filter P).length:=by
 rw[Hz]
 unfold GS
 show cnt P (FE (Q 6) 6 (FE (Q 5) 5 (FE (Q 4) 4 (FE (Q 3) 3 (FE (Q 2) 2 (FE (Q 1) 1 (FE (Q 0) 0 [])))))))=_
 simp only[ZV,cnt_cons]
 ac_rfl
theorem yo{lo:Lo}(h:e=.BinOp (E4 e) .Add (Eb e) (Jx e))(h1:(ev n).E fr lo S (E4 e)=some ⟨a,S1⟩)(h2:(ev n).E fr lo S1 (Eb e)=some ⟨b,S2⟩)(h3:dO a b S2=some r):(ev (n+1)).E fr lo S e=some r:=
 (Ai ((ev (n+1)).E fr lo S) h).trans ((Ai (λo:Ab (Rt AV)=>o.bind λx=>((ev n).E fr lo x.S (Eb e)).bind λy=>dO x.v y.v y.S) h1).trans ((Ai (λo:Ab (Rt AV)=>o.bind λy=>dO a y.v y.S) h2).trans h3))
def Qq:Az:=Bb Ck 29
noncomputable def zp(i:Nat):Expr:=CA (C0 (Cm (Bb (B3 Qq) 0))) i
def t29:Expr:=BV (Bb (B3 Qq) 1)
def lE(e:Expr):Expr:=CA (C0 e) 0
def cE2:Expr:=CA (C0 (Eb (Eb t29))) 0
def MN(v:Nat->AV)(l:B8)(R G B:List Nat)(x:X5)(g:X6)(th:AV)(ct:Ab AV):Lo:=A8 (Tw v l R G B x (some g)) (A8 [("three",th)] (lX "counts" ct))
def zq(l:B8)(q:Nat):Lo:=[("one",(AZ (l q)).i)]
noncomputable def cP(l:B8)(k p:Nat)(q:Nat):Aa:=if k=0 then decide (A1 l q 0<A1 l p 0) else decide (A1 l q k<=A1 l p k)
section
variable{q:Nat->AO}{wd:AV}{nm wl:List AV}{c:t9}{l:B8}{R G B:List Nat}{ζ:Nat->AO}{r:List AO}{b:Aa}{v:Nat->AV}{x:X5}{g:X6}{th:AV}{ct:Ab AV}{lgt:Ab AV}
abbrev HL(q:Nat->AO)(wd:AV)(nm wl:List AV)(c:t9)(l:B8)(R G B:List Nat)(ζ:Nat->AO)(p:Nat)(r:List AO):List AO:=HT q wd nm wl c (some (AZ (l p)).i) l R G B ζ r
theorem td{lo:Lo}(hl:lE e=.ListComp (X3 (lE e)) [⟨VH (lE e),bj (lE e),TM (lE e),0⟩] (FH (lE e)) (zb (lE e)))
  (he:e=.Call (.Name (fnX e) (Jx (E4 e))) (C0 e) (U9 e) (Jx e))(hn:Hi A6 (fnX e) (C0 e) (U9 e)=none)(hs:noStar 200 (C0 e)=true)(hf:nameA A6 lo ⟨HL q wd nm wl c l R G B ζ p r,b⟩ (fnX e)=some (.val (.builtin "len")))(ha:C0 e=[lE e])(hk:U9 e=[])
  (hi:FU (ev m) A6 lo ⟨HL q wd nm wl c l R G B ζ p r,b⟩ (bj (lE e))=some ⟨.loc 14,⟨HL q wd nm wl c l R G B ζ p r,b⟩⟩)(hz:(Sx (FH (lE e))&&Qy (FH (lE e)).names (FH (lE e)).names)=true)(hc:Cy A6 (FH (lE e)).names []=some fc)(h0:AK (FH (lE e)).names=[])
  (h2:∀N q' (lo:Lo) acc,(lo=[]\/∃zu,lo=zq l zu)->Ju (DJ A6 N (FH (lE e)) fc) lo ⟨HL q wd nm wl c l R G B ζ p r++[.list acc],b⟩ (VH (lE e)) (AZ (l q')).i=some ⟨zq l q',⟨HL q wd nm wl c l R G B ζ p r++[.list acc],b⟩⟩)
  (hF:TM (lE e)=[CA (TM (lE e)) 0])(h3:∀N q' acc,(ev m).T (DJ A6 N (FH (lE e)) fc) (zq l q') ⟨HL q wd nm wl c l R G B ζ p r++[.list acc],b⟩ (CA (TM (lE e)) 0)=some ⟨cP l k p q',⟨HL q wd nm wl c l R G B ζ p r++[.list acc],b⟩⟩)
  (h4:∀N q' acc,(ev m).E (DJ A6 N (FH (lE e)) fc) (zq l q') ⟨HL q wd nm wl c l R G B ζ p r++[.list acc],b⟩ (X3 (lE e))=some ⟨.int 1,⟨HL q wd nm wl c l R G B ζ p r++[.list acc],b⟩⟩):
  (ev (m+2)).E A6 lo ⟨HL q wd nm wl c l R G B ζ p r,b⟩ e=some ⟨.int (GS.filter (cP l k p)).length,⟨HL q wd nm wl c l R G B ζ p r,b⟩⟩:=by
 have cc:=Ht (Q:=GS)
  hl hi hz hc h0 ⋯ (λi acc=>by rfl) (λq' _ lo acc h=>h2 _ q' lo acc h) (λq' _ acc=>sU hF (h3 _ q' acc)) (λq' _ _ acc=>h4 _ q' acc) (λq _ H'=>rfl)
 have hlen:(GS.filter (cP l k p)).length<=7:=bW _ _
 refine(CH (S2:=⟨HL q wd nm wl c l R G B ζ p r,b⟩) (kv:=[]) he hn hs hf (ha▸CB (l:=[lE e]) rfl (ZC hl cc) rfl) (hk▸rfl)).trans ?_
 exact MG (Ai (λn:Nat=>some (n:Int)) (AY ..)) ((pw [.l .p (.k 7)] (.t .p (.k 1000)) [] [_]) hlen)
theorem n0:(ev 115).E A6 (MN v l R G B x g th ct) ⟨HL q wd nm wl c l R G B ζ p r,b⟩ (zp 0)=some ⟨.int (GS.filter (cP l 0 p)).length,⟨HL q wd nm wl c l R G B ζ p r,b⟩⟩:=
 td (fc:=(Cy A6 (FH (lE (zp 0))).names []).getD []) ⋯ ⋯ ⋯ ⋯ ⋯ ⋯ ⋯ ⋯ ⋯ ⋯ ⋯ (λN q' lo acc h=>by obtain rfl | ⟨zu,rfl⟩:=h<;>kernel_rfl) ⋯ (λN q' acc=>⋯) (λN q' acc=>⋯)
theorem n1:(ev 115).E A6 (MN v l R G B x g th ct) ⟨HL q wd nm wl c l R G B ζ p r,b⟩ (zp 1)=some ⟨.int (GS.filter (cP l 1 p)).length,⟨HL q wd nm wl c l R G B ζ p r,b⟩⟩:=
 td (fc:=(Cy A6 (FH (lE (zp 1))).names []).getD []) ⋯ ⋯ ⋯ ⋯ ⋯ ⋯ ⋯ ⋯ ⋯ ⋯ ⋯ (λN q' lo acc h=>by obtain rfl | ⟨zu,rfl⟩:=h<;>kernel_rfl) ⋯ (λN q' acc=>⋯) (λN q' acc=>⋯)
theorem n2{th ct:AV}:(ev 113).E A6 (MN v l R G B x g th (some ct)) ⟨HL q wd nm wl c l R G B ζ p r,b⟩ cE2=some ⟨.int (GS.filter (cP l 2 p)).length,⟨HL q wd nm wl c l R G B ζ p r,b⟩⟩:=
 td (fc:=(Cy A6 (FH (lE cE2)).names []).getD []) ⋯ ⋯ ⋯ ⋯ ⋯ ⋯ ⋯ ⋯ ⋯ ⋯ ⋯ (λN q' lo acc h=>by obtain rfl | ⟨zu,rfl⟩:=h<;>kernel_rfl) ⋯ (λN q' acc=>⋯) (λN q' acc=>⋯)
def n7(l:B8)(k p:Nat):AV:=.int (GS.filter (cP l k p)).length
def Tu(l:B8)(p:Nat):AV:=.lst [n7 l 0 p,n7 l 1 p,n7 l 2 p]
def ZW(l:B8)(p:Nat):AV:=.lst [n7 l 0 p,n7 l 1 p]
theorem te:Xs (ev 117) A6 (MN v l R G B x g (Tu l p) ct) ⟨HL q wd nm wl c l R G B ζ p r,b⟩ (B3 Qq)=some ⟨.next,MN v l R G B x g (Tu l p) (some (ZW l p)),⟨HL q wd nm wl c l R G B ζ p r,b⟩⟩:=by
 have x0:(ev 117).X A6 (MN v l R G B x g (Tu l p) ct) ⟨HL q wd nm wl c l R G B ζ p r,b⟩ (Bb (B3 Qq) 0)=some ⟨.next,MN v l R G B x g (Tu l p) (some (ZW l p)),⟨HL q wd nm wl c l R G B ζ p r,b⟩⟩:=by
  refine(Ni ⋯ ⋯ (Vg ⋯ ⋯ (CB ⋯ n0 (Dg ⋯ n1)))).trans ?_
  cases ct<;>kernel_rfl
 have a:(ev 115).E A6 (MN v l R G B x g (Tu l p) (some (ZW l p))) ⟨HL q wd nm wl c l R G B ζ p r,b⟩ (Eb t29)=some ⟨Tu l p,⟨HL q wd nm wl c l R G B ζ p r,b⟩⟩:=
  yo (a:=ZW l p) (S2:=⟨HL q wd nm wl c l R G B ζ p r,b⟩) ⋯ ⋯ (Vg ⋯ ⋯ (Dg ⋯ n2)) ⋯
 have t:(ev 116).T A6 (MN v l R G B x g (Tu l p) (some (ZW l p))) ⟨HL q wd nm wl c l R G B ζ p r,b⟩ t29=some ⟨false,⟨HL q wd nm wl c l R G B ζ p r,b⟩⟩:=
  KZ (v1:=Tu l p) ⋯ ⋯ ⋯ a .NotEq ⋯
   (by
    show some (!(decide (((GS.filter (cP l 0 p)).length:Int)=(GS.filter (cP l 0 p)).length)&&(decide (((GS.filter (cP l 1 p)).length:Int)=(GS.filter (cP l 1 p)).length)&&(decide (((GS.filter (cP l 2 p)).length:Int)=(GS.filter (cP l 2 p)).length)&&true))))=_
    rw[AU rfl,AU rfl,AU rfl];rfl)
 exact(Ak ⋯ x0).trans ((Ak ⋯ (KY ⋯ t)).trans ⋯)
end
section
variable{q:Nat->AO}{wd:AV}{nm wl:List AV}{c:t9}{l:B8}{ζ:Nat->AO}{r:List AO}{b:Aa}{v:Nat->AV}{x:X5}{g:X6}{th:AV}{ct:Ab AV}{lgt:Ab AV}
abbrev RR(l:B8):List Nat:=row (Pr (A1 l)) 7
abbrev Gv(l:B8):List Nat:=row (Pg (A1 l)) 7
abbrev FK(l:B8):List Nat:=row (Pb (A1 l)) 7
theorem bh7(p:Nat):bh (A1 l) (RR l) (Gv l) (FK l) p=Tu l p:=by
 have e0:cR (A1 l) (RR l) (A1 l p 0)=(GS.filter (cP l 0 p)).length:=Tz _ _
 have e1:cG (A1 l) (Gv l) (A1 l p 1)=(GS.filter (cP l 1 p)).length:=Tz _ _
 have e2:cB (A1 l) (FK l) (A1 l p 2)=(GS.filter (cP l 2 p)).length:=Tz _ _
 unfold bh Tu n7
 rw[e0,e1,e2]
abbrev Lr(q:Nat->AO)(wd:AV)(nm wl:List AV)(c:t9)(lgt:Ab AV)(l:B8)(ζ:Nat->AO)(i:Nat):List AO:=HT q wd nm wl c lgt l (RR l) (Gv l) (FK l) ζ (rs i 28)
theorem HA{lo:Lo}(h1:Src.at (Lr q wd nm wl c lgt l ζ 5) p (.zip 71 [.loc 14,.loc 23])=some (some (.tup [(AZ (l p)).i,bh (A1 l) (RR l) (Gv l) (FK l) p])))
  (h2:∀th,Ju A6 lo ⟨Lr q wd nm wl c lgt l ζ 5,b⟩ (BV Qq) (.tup [(AZ (l p)).i,th])=some ⟨MN v l (RR l) (Gv l) (FK l) x g th ct,⟨Lr q wd nm wl c (some (AZ (l p)).i) l ζ 5,b⟩⟩):
  forL (ev 117) A6 (.zip 71 [.loc 14,.loc 23]) (BV Qq) (B3 Qq) (k+1) p lo ⟨Lr q wd nm wl c lgt l ζ 5,b⟩=forL (ev 117) A6 (.zip 71 [.loc 14,.loc 23]) (BV Qq) (B3 Qq) k (p+1) (MN v l (RR l) (Gv l) (FK l) x g (Tu l p) (some (ZW l p))) ⟨Lr q wd nm wl c (some (AZ (l p)).i) l ζ 5,b⟩:=by
 rw[bh7] at h1
 exact B0 h1 (h2 _) te
theorem X29:(ev 118).X A6 (Tw v l (RR l) (Gv l) (FK l) x (some g)) ⟨Lr q wd nm wl c none l ζ 4,b⟩ Qq=some ⟨.next,MN v l (RR l) (Gv l) (FK l) x g (Tu l 6) (some (ZW l 6)),⟨Lr q wd nm wl c (some (AZ (l 6)).i) l ζ 5,b⟩⟩:=by
 refine Qp (src:=.zip 71 [.loc 14,.loc 23]) (S1:=⟨Lr q wd nm wl c none l ζ 5,b⟩) ⋯ ⋯ ⋯ ?_
 refine(HA (v:=v) (x:=x) (g:=g) (ct:=none) ⋯ (λth=>⋯)).trans ?_
 refine(HA (v:=v) (x:=x) (g:=g) (ct:=some (ZW l 0)) ⋯ (λth=>⋯)).trans ?_
 refine(HA (v:=v) (x:=x) (g:=g) (ct:=some (ZW l 1)) (k:=77) (p:=2) ⋯ (λth=>⋯)).trans ?_
 refine(HA (v:=v) (x:=x) (g:=g) (ct:=some (ZW l 2)) (k:=76) (p:=3) ⋯ (λth=>⋯)).trans ?_
 refine(HA (v:=v) (x:=x) (g:=g) (ct:=some (ZW l 3)) (k:=75) (p:=4) ⋯ (λth=>⋯)).trans ?_
 refine(HA (v:=v) (x:=x) (g:=g) (ct:=some (ZW l 4)) (k:=74) (p:=5) ⋯ (λth=>⋯)).trans ?_
 refine(HA (v:=v) (x:=x) (g:=g) (ct:=some (ZW l 5)) (k:=73) (p:=6) ⋯ (λth=>⋯)).trans ?_
 kernel_rfl
theorem ZY{f:Nat->Int×Int}:∀{t:List Nat},(∀p,p∈t->(P p=true->BQ (f m) (f p)=false/\BQ (f p) (f m)=true)/\(P p=false->BQ (f m) (f p)=true))->ai (.int m) (f m) (t.map λ(p:Nat)=>(AV.int p,f p))=some ((FE P m t).map λ(p:Nat)=>(AV.int p,f p))
 |[],_=>rfl
 |p::t,h=>by
  have hp:=h p (.head _)
  show cond (BQ (f m) (f p)) (some ((AV.int m,f m)::(AV.int p,f p)::t.map λ(p:Nat)=>(AV.int p,f p))) (cond (BQ (f p) (f m)) ((ai (.int m) (f m) (t.map λ(p:Nat)=>(AV.int p,f p))).bind λt'=>some ((AV.int p,f p)::t')) none)=some ((cond (P p) (p::FE P m t) (m::p::t)).map λ(p:Nat)=>(AV.int p,f p))
  cases e:P p with
  |true=>rw[(hp.1 e).1,(hp.1 e).2,ZY λy hy=>h y (.tail _ hy)];rfl
  |false=>rw[hp.2 e];rfl
theorem VC{f:Nat->Int×Int}(h:∀m p,p<m->(P m p=true->BQ (f m) (f p)=false/\BQ (f p) (f m)=true)/\(P m p=false->BQ (f m) (f p)=true)):OT (GS.map λ(p:Nat)=>(AV.int p,f p)) []=some ((row P 7).map λ(p:Nat)=>(AV.int p,f p)):=by
 have s:∀m:Nat,ai (.int m) (f m) ((row P m).map λ(p:Nat)=>(AV.int p,f p))=some ((row P (m+1)).map λ(p:Nat)=>(AV.int p,f p)):=λm=>ZY λp hp=>h m p (Dh.mp hp)
 have t:=λm ps=>Ai (λo:Ab (List (AV×(Int×Int)))=>o.bind λa=>OT ps a) (s m)
 exact(t 0 _).trans ((t 1 _).trans ((t 2 _).trans ((t 3 _).trans ((t 4 _).trans ((t 5 _).trans ((t 6 []).trans rfl))))))
def eS(i:Nat):Expr:=Eb (BV (Bb Ck i))
def zv(l:B8)(p:Nat):Int×Int:=(A1 l p 0,-(p:Int))
def zw(l:B8)(p:Nat):Int×Int:=(A1 l p 1,(p:Int))
abbrev iV(v:Nat->AV)(l:B8)(x:X5)(g:X6):Lo:=MN v l (RR l) (Gv l) (FK l) x g (Tu l 6) (some (ZW l 6))
theorem Ym:∀t:List Nat,TY (CP t) (CP t)=some true
 |[]=>rfl
 |p::t=>by
  show(some (decide ((p:Int)=p))).bind (λa=>(TY (CP t) (CP t)).bind λq=>some (a&&q))=_
  rw[Ym t,AU rfl]
  rfl
theorem srt{f:Nat->Int×Int}(h:OT (GS.map λ(p:Nat)=>(AV.int p,f p)) []=some ((row P 7).map λ(p:Nat)=>(AV.int p,f p)))
  (hE:(ev 116).E A6 (iV v l x g) ⟨Lr q wd nm wl c lgt l ζ 5,b⟩ (eS i)=(OT (GS.map λ(p:Nat)=>(AV.int p,f p)) []).bind λps=>some ⟨.lst (ps.map (·.1)),⟨Lr q wd nm wl c lgt l ζ 5,b⟩⟩):
  (ev 116).E A6 (iV v l x g) ⟨Lr q wd nm wl c lgt l ζ 5,b⟩ (eS i)=some ⟨.lst (CP (row P 7)),⟨Lr q wd nm wl c lgt l ζ 5,b⟩⟩:=by
 rw[hE,h]
 show some (⟨.lst (((row P 7).map λ(p:Nat)=>(AV.int p,f p)).map (·.1)),⟨Lr q wd nm wl c lgt l ζ 5,b⟩⟩ :Rt AV)=_
 rw[F8]
 rfl
theorem X30:(ev 118).X A6 (iV v l x g) ⟨Lr q wd nm wl c lgt l ζ 5,b⟩ (Bb Ck 30)=some ⟨.next,iV v l x g,⟨Lr q wd nm wl c lgt l ζ 5,b⟩⟩:=by
 have e:=srt (q:=q) (l:=l) (wd:=wd) (nm:=nm) (wl:=wl) (c:=c) (lgt:=lgt) (ζ:=ζ) (b:=b) (v:=v) (x:=x) (g:=g) (i:=30) (f:=zv l) (P:=Pr (A1 l)) (VC λm p hp=>by
  refine⟨λe=>⟨Gx.mpr λw=>?_,Df.mpr ?_⟩,λe=>Df.mpr ?_⟩
  ·have VJ:=Bi e;have:=Df.mp w;unfold zv at this;dsimp only at this;exact(pw [.T .p .q,.o (.T .q .p) (.a (.E .q .p) (.T (.g (.n .p)) (.g (.n .q))))] .f [_,_] [_,_]) VJ this
  ·have:=Bi e;unfold zv;dsimp only;exact(pw [.T .p .q] (.o (.T .p .q) (.a (.E .p .q) (.T (.g (.n .p)) (.g (.n .q))))) [_,_] [_,_]) this
  ·have:=Mn e;unfold zv;dsimp only;exact(pw [.t .p .q,.n (.T .p .q)] (.o (.T .q .p) (.a (.E .q .p) (.T (.g (.n .q)) (.g (.n .p))))) [_,_] [_,_]) hp this) ⋯
 have t:(ev 117).T A6 (iV v l x g) ⟨Lr q wd nm wl c lgt l ζ 5,b⟩ (BV (Bb Ck 30))=some ⟨false,⟨Lr q wd nm wl c lgt l ζ 5,b⟩⟩:=
  KZ (v1:=.loc 20) (v2:=.lst (CP (RR l))) (S1:=⟨Lr q wd nm wl c lgt l ζ 5,b⟩) ⋯ ⋯ ⋯ e .NotEq ⋯ (Ai dP (Ym (RR l)))
 exact(KY (n:=117) (b:=false) (S1:=⟨Lr q wd nm wl c lgt l ζ 5,b⟩) ⋯ t).trans ⋯
theorem X31:(ev 118).X A6 (iV v l x g) ⟨Lr q wd nm wl c lgt l ζ 5,b⟩ (Bb Ck 31)=some ⟨.next,iV v l x g,⟨Lr q wd nm wl c lgt l ζ 5,b⟩⟩:=by
 have e:=srt (q:=q) (l:=l) (wd:=wd) (nm:=nm) (wl:=wl) (c:=c) (lgt:=lgt) (ζ:=ζ) (b:=b) (v:=v) (x:=x) (g:=g) (i:=31) (f:=zw l) (P:=Pg (A1 l)) (VC λm p hp=>by
  refine⟨λe=>⟨Gx.mpr λw=>?_,Df.mpr ?_⟩,λe=>Df.mpr ?_⟩
  ·have VK:=Bi e;have:=Df.mp w;unfold zw at this;dsimp only at this;exact(pw [.t .p .q,.L .p .q,.o (.T .q .p) (.a (.E .q .p) (.T (.n .q) (.n .p)))] .f [_,_] [_,_]) hp VK this
  ·have:=Bi e;unfold zw;dsimp only;exact(pw [.t .p .q,.L .p .q] (.o (.T .p .q) (.a (.E .p .q) (.T (.n .p) (.n .q)))) [_,_] [_,_]) hp this
  ·have:=Mn e;unfold zw;dsimp only;exact(pw [.n (.L .p .q)] (.o (.T .q .p) (.a (.E .q .p) (.T (.n .p) (.n .q)))) [_,_] [_,_]) this) ⋯
 have t:(ev 117).T A6 (iV v l x g) ⟨Lr q wd nm wl c lgt l ζ 5,b⟩ (BV (Bb Ck 31))=some ⟨false,⟨Lr q wd nm wl c lgt l ζ 5,b⟩⟩:=
  KZ (v1:=.loc 21) (v2:=.lst (CP (Gv l))) (S1:=⟨Lr q wd nm wl c lgt l ζ 5,b⟩) ⋯ ⋯ ⋯ e .NotEq ⋯ (Ai dP (Ym (Gv l)))
 exact(KY (n:=117) (b:=false) (S1:=⟨Lr q wd nm wl c lgt l ζ 5,b⟩) ⋯ t).trans ⋯
theorem X32:(ev 118).X A6 (iV v l x g) ⟨Lr q wd nm wl c lgt l ζ 5,b⟩ (Bb Ck 32)=some ⟨.ret (.bool true),iV v l x g,⟨Lr q wd nm wl c lgt l ζ 5,b⟩⟩:=⋯
end
def VN(xs:List Int):Int:=123+(Cu xs).foldl (· + ·) 0
def NN(xs:List Int):Int:=837138+(Cu (xs.drop 1)).foldl (· + ·) 0
theorem TA:∀xs:List Int,Cu (xs.map AV.int)=(Cu xs).map AV.int
 |[]=>rfl
 |[_]=>rfl
 |a::_::r=>Ai (AV.int a :: ·) (TA r)
theorem ZZ:∀xs:List Int,ON (xs.map AV.int)=some xs
 |[]=>rfl
 |x::xs=>Ai (λo:Ab (List Int)=>o.bind λbs=>some (x::bs)) (ZZ xs)
def st0:Az:=Bb Ck 0
noncomputable def mA(xs:List Int):Lo:=[("script",.lst (xs.map .int))]
noncomputable def H0:List AO:=FQ 11 (.cell none)
theorem yq(hx:xs.length<=63){ys:List Int}(h:e=.BinOp (E4 e) .Add (Eb e) (Jx e))(h':Eb e=.Call (.Name (fnX (Eb e)) (Jx (E4 (Eb e)))) (C0 (Eb e)) (U9 (Eb e)) (Jx (Eb e)))(hn:Hi A6 (fnX (Eb e)) (C0 (Eb e)) (U9 (Eb e))=none)(hs:noStar 200 (C0 (Eb e))=true)
  (hf:nameA A6 (mA xs) ⟨H0,true⟩ (fnX (Eb e))=some (.val (.builtin "sum")))(hk:U9 (Eb e)=[])(h0:(ev 116).E A6 (mA xs) ⟨H0,true⟩ (E4 e)=some ⟨.int k,⟨H0,true⟩⟩)
  (ha:Jh (ev 115) A6 (mA xs) ⟨H0,true⟩ (C0 (Eb e))=some ⟨[.lst (ys.map .int)],⟨H0,decide ((xs.map AV.int).length<100000)&&true⟩⟩):(ev 117).E A6 (mA xs) ⟨H0,true⟩ e=some ⟨.int (k+ys.foldl (· + ·) 0),⟨H0,true⟩⟩:=by
 rw[AU (by rw[AY];exact(pw [.l .p (.k 63)] (.t .p (.k 100000)) [] [_]) hx)] at ha
 refine yo (b:=.int (ys.foldl (· + ·) 0)) h h0 ((CH (S2:=⟨H0,true⟩) (kv:=[]) h' hn hs hf ha (hk▸rfl)).trans ?_) rfl
 refine(show _=(ON (ys.map AV.int)).bind λis=>some (⟨.int (is.foldl (· + ·) 0),⟨H0,true⟩⟩ :Rt AV) from ⋯).trans ?_
 rw[ZZ]
 rfl
theorem X0{xs:List Int}(hx:xs.length<=63):(ev 118).X A6 (mA xs) ⟨H0,true⟩ st0=some ⟨.next,[("script",.lst (xs.map .int)),("number",.int (VN xs))],⟨H3 (.int (NN xs)),true⟩⟩:=by
 refine(ou (o:=none) ⋯ ⋯ ⋯ ⋯ ⋯
  (yq (ys:=Cu xs) (k:=123) hx ⋯ ⋯ ⋯ ⋯ ⋯ ⋯ ⋯ ?_)
  (yq (ys:=Cu (xs.drop 1)) (k:=837138) hx ⋯ ⋯ ⋯ ⋯ ⋯ ⋯ ⋯ ?_)).trans ⋯
 ·rw[<-TA];kernel_rfl
 ·rw[<-TA,N3];kernel_rfl
noncomputable def gI(ot:Int)(k:Nat):Int:=1+((ot.fdiv 12).fdiv (4^k)).fmod 4
noncomputable def jk(g:Nat->Int):AV:=.lst ([0,1,2,3,4,5,6,7,8].map λk=>.int (g k))
noncomputable def tg(sc:AV)(nu ot:Int)(gr:AV):Lo:=[("script",sc),("number",.int nu),("places",.lst [.int 0,.int (nu.fmod 3),.int ((nu.fdiv 3).fmod 5),.int ((nu.fdiv 15).fmod 7)]),("grains",gr),("quarter",.int (ot.fdiv 4)),("first",.int (ot.fmod 4))]
theorem yr:Xs (ev 118) A6 [("script",sc),("number",.int nu)] ⟨H3 (.int ot),true⟩ ((Ck.drop 1).take 3)=some ⟨.next,tg sc nu ot (jk (gI ot)),⟨H3 (.int ot),true⟩⟩:=⋯
theorem tj{nu ot:Int}(ha:nu.fmod 3=(p.a:Nat))(hb:(nu.fdiv 3).fmod 5=(p.b:Nat))(hc:(nu.fdiv 15).fmod 7=(p.c:Nat))(hf:ot.fmod 4=f):tg sc nu ot gr=y7 sc (.int nu) gr (.int (ot.fdiv 4)) p f:=by
 unfold tg
 rw[ha,hb,hc,hf]
 rfl
def lo6(sc nu gr qu:AV)(p:Pc)(f:Int)(wh:Aa):Lo:=A8 (y7 sc nu gr qu p f) [("row",.loc 12),("is_white",.bool wh)]
def H6(ot:AV)(f:Int):List AO:=A8 (H3 ot) [.dict [("_initial_size",.int f)],.acc 11 [.tup [.str " ",.str ""]]]
def H9(ot:AV)(p:Pc)(f:Int):List AO:=A8 (H3 ot) [.dict [("_initial_size",.int f)],.acc 11 (p.left.map λw=>.tup [.str " ",sL w]),.list (p.words.map sL)]
def lo9(sc nu gr qu:AV)(p:Pc)(f:Int)(wh:Aa):Lo:=A8 (lo6 sc nu gr qu p f wh) [("words",.loc 13),("left",.lst (p.left.map sL)),("cut",.lst (p.cut.map I6)),("text",sL p.text)]
section
variable{sc nu gr qu ot:AV}{p:Pc}
theorem s4:∀f:Nat,f<4->Xs (ev 118) A6 (y7 sc nu gr qu p f) ⟨H3 ot,true⟩ (seg 4 3)=some ⟨.next,lo6 sc nu gr qu p f (Aw f 0),⟨H6 ot f,true⟩⟩:=VA ⋯ ⋯ ⋯ ⋯
def F7(sc nu gr qu ot:AV)(f:Int)(wh:Aa)(p:Pc):Ab Rx:=Xs (ev 118) A6 (lo6 sc nu gr qu p f wh) ⟨H6 ot f,true⟩ (seg 7 3)
def G7(sc nu gr qu ot:AV)(f:Int)(wh:Aa)(p:Pc):Ab Rx:=some ⟨.next,lo9 sc nu gr qu p f wh,⟨H9 ot p f,true⟩⟩
def zx(sc nu gr qu ot:AV)(f:Nat)(p:Pc):Ab Rx:=Xs (ev 118) A6 (lo9 sc nu gr qu p f (Aw f 0)) ⟨H9 ot p f,true⟩ (seg 10 4)
def zy(sc nu gr qu ot:AV)(f:Nat)(p:Pc):Ab Rx:=some ⟨.next,lQ sc nu gr qu p f (Aw f 0),⟨H13 ot gr p f,true⟩⟩
noncomputable def Qr(a b:Nat):List Pc:=(Cn 7).map λc=>⟨a,b,c⟩
end
def Yn:Az:=Bb Ck 15
noncomputable def Z0:List Nat->List Nat->Nat
 |x::xs,y::ys=>cond (Aw x y) (Z0 xs ys) (cond (Aw x 114) 0 (cond (Aw x 103) 1 2))
 |x::_,[]=>cond (Aw x 114) 0 (cond (Aw x 103) 1 2)
 |[],_=>0
def wN(p:Pc)(i:Nat):List Nat:=p.words.getD i []
def lfN(p:Pc)(j:Nat):List Nat:=p.left.getD j []
def mB(p:Pc)(i j:Nat):Nat:=Z0 (lfN p j) (wN p i)
noncomputable def L9:List Nat:=[0,1,2,3,4,5,6,7,8]
def XI(p:Pc)(g:Nat->Int)(i:Nat):Int:=(L9.map λj=>g j*64^mB p i j).foldl (· + ·) 0
def Nt(sc nu qu:AV)(p:Pc)(f:Int)(wh:Aa)(g:Nat->Int):Lo:=lQ sc nu (jk g) qu p f wh
def TC(ot:AV)(p:Pc)(f:Int)(w:Ab AV)(Lt:List AV)(i:Nat):List AO:=A8 [.cell (some ot),.cell w,.cell none,.cell (some (.lst (p.names.map sL)))] (A8 (FQ 6 (.cell none)) (.cell (some (.loc 14))::(
 .dict [("_initial_size",.int f)]::.acc 11 (p.left.map λw=>.tup [.str " ",sL w])::.list (p.words.map sL)::.list Lt::FQ i (.raw 2))))
def Ack:Expr:=Cm (NF (B3 Yn))
def yt(sc nu qu ot:AV)(f:Int)(wh:Aa)(g:Nat->Int)(Lt:List AV)(b:Aa)(i:Nat)(p:Pc):Ab (Rt (List AV)):=Jh (ev 114) A6 (Nt sc nu qu p f wh g) ⟨TC ot p f (some (sL (wN p i))) Lt i,b⟩ (C0 (CA (C0 Ack) 0))
def yu(ot:AV)(f:Int)(g:Nat->Int)(Lt:List AV)(b:Aa)(i:Nat)(p:Pc):Ab (Rt (List AV)):=some ⟨[.int (XI p g i),.int 6],⟨TC ot p f (some (sL (wN p i))) Lt (i+1),obs (L9.map λj=>AM (g j)&&true) b⟩⟩
abbrev M4(n:Nat):Prop:=n=16\/n=17\/n=18\/n=19
def ua(X:Int):List Aa:=[AM (up 6 X),AM (up 6 (up 6 X))]
section
variable{z:Nat->AO}{n k wr:Nat}{b:Aa}{X:Int}
theorem J3(hn:M4 n)(hb:(((Dy X:Nat):Int)+6-1).fdiv 6=3)(h0:X≠0):A9 (ev 114) wr (.val (.ref 64)) [.int X,.int 6] [] ⟨ZN z n,b⟩=some ⟨.lst (EA (oz 6 X)),⟨ZN z n,obs (ua X) b⟩⟩:=by
 have x0:(ev 114).X (Au K6 n wr) [("a",.int X)] ⟨PW (ZN z n) 6 none none [],b⟩ (ZD 0)=some ⟨.next,[("a",.int X)],⟨PW (ZN z n) 6 (some (.loc (n+3))) none [.list (EA [0,0,0])],b⟩⟩:=by
  have a1:(ev 113).E (Au K6 n wr) [("a",.int X)] ⟨PW (ZN z n) 6 none none [],b⟩ (tU (ZD 0)).2=some (⟨.int ((((Dy X:Nat):Int)+6-1).fdiv 6),⟨PW (ZN z n) 6 none none [],b⟩⟩ :Rt AV):=by rcases hn with rfl | rfl | rfl | rfl<;>kernel_rfl
  rw[hb] at a1
  refine(oB (v:=.int 0) ⋯ ⋯ ⋯ ⋯ ⋯ (tU (ZD 0)).1 (tU (ZD 0)).2 ⋯ ⋯ ⋯ a1 ⋯).trans ?_
  rcases hn with rfl | rfl | rfl | rfl<;>kernel_rfl
 have x1:(ev 114).X (Au K6 n wr) [("a",.int X)] ⟨PW (ZN z n) 6 (some (.loc (n+3))) none [.list (EA [0,0,0])],b⟩ (ZD 1)=some ⟨.next,[("a",.int X)],⟨PW (ZN z n) 6 (some (.loc (n+3))) (some (bE n)) [.list (EA [0,0,0])],b⟩⟩:=by
  rcases hn with rfl | rfl | rfl | rfl<;>kernel_rfl
 have x2:(ev 114).X (Au K6 n wr) [("a",.int X)] ⟨PW (ZN z n) 6 (some (.loc (n+3))) (some (bE n)) [.list (EA [0,0,0])],b⟩ (ZD 2)=some ⟨.next,[("a",.int X)],⟨PW (ZN z n) 6 (some (.loc (n+3))) (some (bE n)) [.list (EA (oz 6 X))],obs (ua X) b⟩⟩:=by
  have t:(ev 113).T (Au K6 n wr) [("a",.int X)] ⟨PW (ZN z n) 6 (some (.loc (n+3))) (some (bE n)) [.list (EA [0,0,0])],b⟩ (BV (ZD 2))=some (⟨decide (X≠0),⟨PW (ZN z n) 6 (some (.loc (n+3))) (some (bE n)) [.list (EA [0,0,0])],b⟩⟩ :Rt Aa):=⋯
  rw[AU h0] at t
  refine(KY ⋯ t).trans ?_
  rcases hn with rfl | rfl | rfl | rfl<;>kernel_rfl
 refine(show A9 (ev 114) wr (.val (.ref 64)) [.int X,.int 6] [] ⟨ZN z n,b⟩=CM (ev 114) K6 [.int X,.int 6] [] wr ⟨ZN z n,b⟩ from ⋯).trans ?_
 refine X7 (binds:=[("a",.int X),("n",.int 6)]) (lo:=[("a",.int X)]) (Bv:=[("a",.int X)]) (fl:=.ret (.loc (n+3))) (S1:=⟨PW (ZN z n) 6 none none [],b⟩) (S2:=⟨PW (ZN z n) 6 (some (.loc (n+3))) (some (bE n)) [.list (EA (oz 6 X))],obs (ua X) b⟩) (by unfold ZN;rw[AY,GV]) ⋯ (by rcases hn with rfl | rfl | rfl | rfl<;>kernel_rfl) ⋯ ⋯ ?_ rfl (by rcases hn with rfl | rfl | rfl | rfl<;>kernel_rfl)
 refine(Ak ⋯ x0).trans ((Ak ⋯ x1).trans ((Ak ⋯ x2).trans ?_))
 rcases hn with rfl | rfl | rfl | rfl<;>kernel_rfl
theorem Acl(hH:H.length=n)(hn:M4 n)(hb:(((Dy X:Nat):Int)+6-1).fdiv 6=3)(h0:X≠0):A9 (ev 114) wr (.val (.ref 64)) [.int X,.int 6] [] ⟨H,b⟩=some ⟨.lst (EA (oz 6 X)),⟨H,obs (ua X) b⟩⟩:=by
 have e:=J3 (z:=λi=>H.getD i .OK) (wr:=wr) (b:=b) hn hb h0
 rw[<-hH,<-oT] at e
 exact e
end
theorem yv{d0 d1 d2:Nat}(h0:d0<64)(h1:d1<64)(h2:d2<64)(h3: 1<=d2):(((Dy ((d0+64*d1+4096*d2:Nat):Int):Nat):Int)+6-1).fdiv 6=3/\((d0+64*d1+4096*d2:Nat):Int)≠0/\oz 6 ((d0+64*d1+4096*d2:Nat):Int)=[(d0:Int),d1,d2]/\obs (ua ((d0+64*d1+4096*d2:Nat):Int)) true=true:=by
 have e:d0+64*d1+4096*d2=comb 6 [d0,d1,d2]:=by show _=d0+2^6*(d1+2^6*(d2+2^6*0));exact(pw [] (.e (.A (.A .p (.m 64 .q)) (.m 4096 .r)) (.A .p (.m (2^6) (.A .q (.m (2^6) (.A .r (.k (2^6*0)))))))) [] [_,_,_])
 have dg:=gZ (n:=6) (d2:=d2) h0 h1
 have u1:=(Nm (n:=6) (b:=[d1,d2]) h0).1
 have u2:=(Nm (n:=6) (b:=[d2]) h1).1
 rw[PY] at u2
 have s1:AM ((comb 6 [d1,d2]:Nat):Int)=true:=bG (by show d1+2^6*(d2+2^6*0)<=2^40;exact(pw [.t .p (.k 64),.t .q (.k 64)] (.l (.A .p (.m (2^6) (.A .q (.k (2^6*0))))) (.k (2^40))) [] [_,_]) h1 h2)
 have s2:=bG ((pw [.t .p (.k 64)] (.l (.b (.n .p)) (.k (2^40))) [] [_]) h2)
 rw[e]
 refine⟨?_,?_,dg,?_⟩
 ·rw[<-e]
  have n0:d0+64*d1+4096*d2≠0:=(pw [.l (.k 1) .p] (.n (.e (.A (.A .q (.m 64 .r)) (.m 4096 .p)) (.k 0))) [] [_,_,_]) h3
  have a:=(Nat.le_log2 n0).mpr (show 2^12<=d0+64*d1+4096*d2 by exact(pw [.l (.k 1) .p] (.l (.k (2^12)) (.A (.A .q (.m 64 .r)) (.m 4096 .p))) [] [_,_,_]) h3)
  have c:=(Wr n0).mpr (show d0+64*d1+4096*d2<2^18 by exact(pw [.t .p (.k 64),.t .q (.k 64),.t .r (.k 64)] (.t (.A (.A .p (.m 64 .q)) (.m 4096 .r)) (.k (2^18))) [] [_,_,_]) h0 h1 h2)
  have hb:Dy ((d0+64*d1+4096*d2:Nat):Int)=(d0+64*d1+4096*d2).log2+1:=by
   unfold Dy
   rw[AD (show ¬ (((d0+64*d1+4096*d2:Nat):Int)==0)=true from λh=>n0 (Ly.inj (eq_of_beq h)))]
   rfl
  rw[hb,NT _ ⋯]
  exact(pw [.l (.k 12) .p,.t .p (.k 18),.E (.A (.l 6 .p) .q) (.S (.A (.n (.A .p (.k 1))) (.j 6)) (.j 1)),.T .q (.j 6),.L (.j 0) .q] (.E .p (.j 3)) [_,_] [_]) a c (VY _ _) (Lv _ ⋯) (Lx _ ⋯)
 ·rw[<-e];exact(pw [.l (.k 1) .p] (.n (.E (.n (.A (.A .q (.m 64 .r)) (.m 4096 .p))) (.j 0))) [] [_,_,_]) h3
 ·unfold ua
  rw[u1,u2]
  exact Er (AB s1 (AB s2 F0))
noncomputable def dK(m:Nat->Nat)(g:Nat->Nat)(k:Nat):List Nat->Nat
 |[]=>0
 |j::t=>cond (Aw (m j) k) (g j) 0+dK m g k t
theorem iW(hm:∀j,m j<3):∀(t:List Nat)(a:Nat),(t.map λj=>((g j:Nat):Int)*64^m j).foldl (· + ·) (a:Int)=((a+(dK m g 0 t+64*dK m g 1 t+4096*dK m g 2 t):Nat):Int)
 |[],a=>by show(a:Int)=((a+0:Nat):Int);rfl
 |j::t,a=>by
  have e:(a:Int)+(g j:Nat)*64^m j=((a+(cond (Aw (m j) 0) (g j) 0+64*cond (Aw (m j) 1) (g j) 0+4096*cond (Aw (m j) 2) (g j) 0):Nat):Int):=by
   have:=hm j
   generalize m j=x at*
   match x,this with
   |0,_=>show(a:Int)+(g j:Nat)*1=((a+(g j+64*0+4096*0):Nat):Int);exact(pw [] (.E (.A (.n .p) (.Q (.n .q) 1)) (.n (.A .p (.A (.A .q (.k (64*0))) (.k (4096*0)))))) [] [_,_])
   |1,_=>show(a:Int)+(g j:Nat)*64=((a+(0+64*g j+4096*0):Nat):Int);exact(pw [] (.E (.A (.n .p) (.Q (.n .q) 64)) (.n (.A .p (.A (.A (.k 0) (.m 64 .q)) (.k (4096*0)))))) [] [_,_])
   |2,_=>show(a:Int)+(g j:Nat)*4096=((a+(0+64*0+4096*g j):Nat):Int);exact(pw [] (.E (.A (.n .p) (.Q (.n .q) 4096)) (.n (.A .p (.A (.k (0+64*0)) (.m 4096 .q))))) [] [_,_])
  show(t.map λj=>((g j:Nat):Int)*64^m j).foldl (· + ·) ((a:Int)+(g j:Nat)*64^m j)=_
  rw[e,iW hm t]
  congr 1
  exact(pw [] (.e (.A (.A .p (.A (.A .q (.m 64 .r)) (.m 4096 .s))) (.A (.A .t (.m 64 .u)) (.m 4096 .w))) (.A .p (.A (.A (.A .q .t) (.m 64 (.A .r .u))) (.m 4096 (.A .s .w))))) [] [_,_,_,_,_,_,_])
def dW(p:Pc)(g:Nat->Nat)(i k:Nat):Nat:=dK (mB p i) g k L9
noncomputable def HE(g:Nat->Nat):Nat:=g 0+g 1+g 2+g 3+g 4+g 5+g 6+g 7+g 8
def Ba(p:Pc)(g:Nat->Nat):B8
 |0,k=>cond (Aw k 0) (HE g) 0
 |1,k=>cond (Aw k 1) (HE g) 0
 |2,k=>cond (Aw k 2) (HE g) 0
 |i+3,k=>cond (Bf i 3) (cond (Bf k 2) (dW p g i k) 0) (cond (Aw k 0) (HE g) 0)
noncomputable def gC(g:Nat->Nat):Nat->Int:=λj=>(g j:Nat)
def jl(l:B8)(n:Nat):List AV:=(jh (A1 l)).take n
section
variable{sc nu qu ot:AV}{p:Pc}{f:Int}{wh:Aa}{g:Nat->Nat}{b:Aa}{w:Ab AV}
theorem X14:(ev 118).X A6 (lQ sc nu (jk (gC g)) qu p f wh) ⟨H13 ot (jk (gC g)) p f,b⟩ (Bb Ck 14)=some ⟨.next,Nt sc nu qu p f wh (gC g),⟨TC ot p f none (jl (Ba p g) 3) 0,b⟩⟩:=by
 have e:(((((((((0:Int)+gC g 0)+gC g 1)+gC g 2)+gC g 3)+gC g 4)+gC g 5)+gC g 6)+gC g 7)+gC g 8=(HE g:Nat):=by unfold gC HE;exact(pw [] (.E (.A (.A (.A (.A (.A (.A (.A (.A (.A (.j 0) (.n .p)) (.n .q)) (.n .r)) (.n .s)) (.n .t)) (.n .u)) (.n .w)) (.n .x)) (.n .y)) (.n (.A (.A (.A (.A (.A (.A (.A (.A .p .q) .r) .s) .t) .u) .w) .x) .y))) [] [_,_,_,_,_,_,_,_,_])
 have k:(ev 118).X A6 (lQ sc nu (jk (gC g)) qu p f wh) ⟨H13 ot (jk (gC g)) p f,b⟩ (Bb Ck 14)=some ⟨.next,Nt sc nu qu p f wh (gC g),⟨TC ot p f none
  [.lst [.int ((((((((((0:Int)+gC g 0)+gC g 1)+gC g 2)+gC g 3)+gC g 4)+gC g 5)+gC g 6)+gC g 7)+gC g 8),.int 0,.int 0],.lst [.int 0,.int ((((((((((0:Int)+gC g 0)+gC g 1)+gC g 2)+gC g 3)+gC g 4)+gC g 5)+gC g 6)+gC g 7)+gC g 8),.int 0],.lst [.int 0,.int 0,.int ((((((((((0:Int)+gC g 0)+gC g 1)+gC g 2)+gC g 3)+gC g 4)+gC g 5)+gC g 6)+gC g 7)+gC g 8)]] 0,b⟩⟩:=⋯
 rw[k,e]
 rfl
structure oU(sc nu qu ot:AV)(p:Pc)(f:Int)(wh:Aa)(g:Nat->Nat):Prop where
 ub:∀i,i<4->∀Lt b,yt sc nu qu ot f wh (gC g) Lt b i p=yu ot f (gC g) Lt b i p
 lt:∀i j,mB p i j<3
 pos:∀i,i<4->1<=dW p g i 2
 up:∀i k,dW p g i k<=36
 gr:∀j,g j<=4
theorem mC(P:oU sc nu qu ot p f wh g)(i:Nat)(hi:i<4){Lt:List AV}(hL:Lt.length<=1000):Xs (ev 117) A6 (Nt sc nu qu p f wh (gC g)) ⟨TC ot p f (some (sL (wN p i))) Lt i,true⟩ (B3 Yn)=some ⟨.next,Nt sc nu qu p f wh (gC g),⟨TC ot p f (some (sL (wN p i))) (Lt++[.lst [.int (dW p g i 0:Nat),.int (dW p g i 1:Nat),.int (dW p g i 2:Nat)]]) (i+1),true⟩⟩:=by
 have h15:=P.ub i hi Lt true
 unfold yt yu at h15
 have s:=λj=>bG (x:=gC g j) (AA (P.gr j) ⋯)
 rw[Er λx hx=>(CD.mp hx).elim λj hj=>hj.2▸hZ (s j)] at h15
 have eX:XI p (gC g) i=((dW p g i 0+64*dW p g i 1+4096*dW p g i 2:Nat):Int):=(iW (P.lt i) L9 0).trans (Ai (λn:Nat=>(n:Int)) (Ia _))
 have u:=P.up i
 have zz:=yv (CE (u 0) ⋯) (CE (u 1) ⋯) (CE (u 2) ⋯) (P.pos i hi)
 have hH:(TC ot p f (some (sL (wN p i))) Lt (i+1)).length=16+i:=by
  unfold TC
  show(FQ (i+1) (AO.raw 2)).length+15=16+i
  rw[List.length_replicate];exact(pw [] (.e (.A (.A .p (.k 1)) (.k 15)) (.A (.k 16) .p)) [] [_])
 have j:=Acl (X:=XI p (gC g) i) (wr:=0) (b:=true) hH (by unfold M4;exact(pw [.t .p (.k 4)] (.o (.e (.A (.k 16) .p) (.k 16)) (.o (.e (.A (.k 16) .p) (.k 17)) (.o (.e (.A (.k 16) .p) (.k 18)) (.e (.A (.k 16) .p) (.k 19))))) [] [_]) hi) (by rw[eX];exact zz.1) (by rw[eX];exact zz.2.1)
 rw[eX,zz.2.2.1,zz.2.2.2] at j
 rw[eX] at h15
 refine(Ak (lo1:=Nt sc nu qu p f wh (gC g)) (S1:=⟨TC ot p f (some (sL (wN p i))) (Lt++[.lst [.int (dW p g i 0:Nat),.int (dW p g i 1:Nat),.int (dW p g i 2:Nat)]]) (i+1),true⟩) ⋯ ?_).trans ⋯
 refine Qo ⋯ ⋯ ((I8 (S1:=⟨TC ot p f (some (sL (wN p i))) Lt i,true⟩) (S2:=⟨TC ot p f (some (sL (wN p i))) Lt (i+1),true⟩) (k:=.bi .append) (vs:=[.lst [.int (dW p g i 0:Nat),.int (dW p g i 1:Nat),.int (dW p g i 2:Nat)]]) ⋯ ⋯ ⋯ ⋯ ⋯ "append" ⋯ ⋯ (Dg ⋯ ?_)).trans (xA (A:=14) (xs:=Lt) rfl hL))
 exact(CH (n:=114) (S1:=⟨TC ot p f (some (sL (wN p i))) Lt (i+1),true⟩) (S2:=⟨TC ot p f (some (sL (wN p i))) Lt (i+1),true⟩) (f:=.val (.ref 64)) (kv:=[]) ⋯ ⋯ ⋯ ⋯ h15 ⋯).trans j
theorem tq(i:Nat)(hi:i<4):jl (Ba p g) (3+i)++[.lst [.int (dW p g i 0:Nat),.int (dW p g i 1:Nat),.int (dW p g i 2:Nat)]]=jl (Ba p g) (3+(i+1)):=
 VA (P:=λi=>jl (Ba p g) (3+i)++[.lst [.int (dW p g i 0:Nat),.int (dW p g i 1:Nat),.int (dW p g i 2:Nat)]]=jl (Ba p g) (3+(i+1))) rfl rfl rfl rfl i hi
theorem X15(P:oU sc nu qu ot p f wh g)(hw:p.words=[wN p 0,wN p 1,wN p 2,wN p 3]):(ev 118).X A6 (Nt sc nu qu p f wh (gC g)) ⟨TC ot p f none (jl (Ba p g) 3) 0,true⟩ Yn=some ⟨.next,Nt sc nu qu p f wh (gC g),⟨TC ot p f (some (sL (wN p 3))) (jh (A1 (Ba p g))) 4,true⟩⟩:=by
 have r:∀(i k:Nat)(w:Ab AV),i<4->forL (ev 117) A6 (.loc 13) (BV Yn) (B3 Yn) (k+1) i (Nt sc nu qu p f wh (gC g)) ⟨TC ot p f w (jl (Ba p g) (3+i)) i,true⟩=forL (ev 117) A6 (.loc 13) (BV Yn) (B3 Yn) k (i+1) (Nt sc nu qu p f wh (gC g)) ⟨TC ot p f (some (sL (wN p i))) (jl (Ba p g) (3+(i+1))) (i+1),true⟩:=λi k w hi=>by
  have b:=mC P i hi (Lt:=jl (Ba p g) (3+i)) (AA (List.length_take_le _ _) ((pw [.t .p (.k 4)] (.l (.A (.k 3) .p) (.k 1000)) [] [_]) hi))
  rw[tq i hi] at b
  refine B0 (w:=sL (wN p i)) ?_ ⋯ b
  show some (p.words.map sL)[i]?=_
  rw[hw]
  exact VA (P:=λi=>some (([wN p 0,wN p 1,wN p 2,wN p 3].map sL)[i]?)=some (some (sL (wN p i)))) rfl rfl rfl rfl i hi
 have e:Src.at (TC ot p f (some (sL (wN p 3))) (jl (Ba p g) 7) 4) 4 (.loc 13)=some none:=by
  show some (p.words.map sL)[4]?=_
  rw[hw]
  rfl
 refine Qp ⋯ ⋯ ⋯ ((r 0 79 none ⋯).trans ((r 1 78 _ ⋯).trans ((r 2 77 _ ⋯).trans ((r 3 76 _ ⋯).trans (NH e)))))
end
noncomputable def Qs(x:List Nat):List (List Nat)->Nat
 |[]=>0
 |y::t=>cond (Fu y x) 0 (Qs x t+1)
noncomputable def mD(p:Pc):List (Nat×Nat):=[(0,1),(0,2),(1,2)]++p.cut.flatMap λt=>(t.drop 1).map λc=>(Qs c p.names,Qs (hd0 t) p.names)
noncomputable def iY(l:List (Nat×Nat)):List AV:=l.map λt=>.tup [.int t.1,.int t.2]
def H17(ot:AV)(p:Pc)(f:Int)(Lt:List AV):List AO:=A8 [.cell (some ot),.cell (some (sL (wN p 3))),.cell (some (I6 (p.cut.getD 3 []))),.cell (some (.lst (p.names.map sL)))] (A8 (FQ 6 (.cell none)) (.cell (some (.loc 14))::(
 .dict [("_initial_size",.int f)]::.acc 11 (p.left.map λw=>.tup [.str " ",sL w])::.list (p.words.map sL)::.list Lt::A8 (FQ 4 (.raw 2)) [.list (iY (mD p))])))
def yw(sc nu qu:AV)(p:Pc)(f:Int)(wh:Aa)(g:Nat->Int):Lo:=A8 (Nt sc nu qu p f wh g) [("tied",.loc 19)]
def zC(sc nu qu ot:AV)(f:Int)(wh:Aa)(g:Nat->Int)(Lt:List AV)(b:Aa)(p:Pc):Ab Rx:=Xs (ev 118) A6 (Nt sc nu qu p f wh g) ⟨TC ot p f (some (sL (wN p 3))) Lt 4,b⟩ ((Ck.drop 16).take 2)
def zD(sc nu qu ot:AV)(f:Int)(wh:Aa)(g:Nat->Int)(Lt:List AV)(b:Aa)(p:Pc):Ab Rx:=some ⟨.next,yw sc nu qu p f wh g,⟨H17 ot p f Lt,b⟩⟩
def vL(sc nu qu:AV)(p:Pc)(f:Int)(wh:Aa)(g:Nat->Int):Nat->AV
 |0=>sc
 |1=>nu
 |2=>.lst (p.l.map λ(i:Nat)=>AV.int i)
 |3=>jk g
 |4=>qu
 |5=>.int f
 |6=>.loc 12
 |7=>.bool wh
 |8=>.loc 13
 |9=>.lst (p.left.map sL)
 |10=>.lst (p.cut.map I6)
 |11=>sL p.text
 |12=>.lst (p.left.map sL)
 |_=>.none
def qL(ot:AV)(p:Pc)(f:Int):Nat->AO
 |0=>.cell (some ot)
 |2=>.cell (some (I6 (p.cut.getD 3 [])))
 |11=>.dict [("_initial_size",.int f)]
 |12=>.acc 11 (p.left.map λw=>.tup [.str " ",sL w])
 |19=>.list (iY (mD p))
 |_=>.raw 2
section
variable{sc nu qu ot:AV}{p:Pc}{f:Int}{wh:Aa}{g:Nat->Int}{b:Aa}{l:B8}
theorem X18:(ev 118).X A6 (yw sc nu qu p f wh g) ⟨H17 ot p f (jh (A1 l)),b⟩ (Bb Ck 18)=some ⟨.next,FF (vL sc nu qu p f wh g),⟨bD (oS (qL ot p f) (sL (wN p 3)) (p.names.map sL) (p.words.map sL)) (A1 l) 0 0,b⟩⟩:=⋯
end
theorem EB{lo lo1:Lo}{S S1:St}(h:Ck.drop k=Bb Ck k::Ck.drop (k+1))(hX:(ev 118).X A6 lo S (Bb Ck k)=some ⟨.next,lo1,S1⟩):Xs (ev 118) A6 lo S (Ck.drop k)=Xs (ev 118) A6 lo1 S1 (Ck.drop (k+1)):=
 (Ai (Xs (ev 118) A6 lo S) h).trans (Ai (λo:Ab Rx=>o.bind λx=>cond x.fl.C8 (Xs (ev 118) A6 x.lo x.S (Ck.drop (k+1))) (some x)) hX)
theorem tr(l:B8):lS (A1 l) (RR l) (Gv l) (FK l) where
 lr:=B1 7
 lg:=B1 7
 lb:=B1 7
 g7:=λi hi=>getD_mem hi
 mr:=λx=>Vc x
 mg:=λx=>Vd x
 mb:=λx=>Ve x
structure iZ(q:Nat->AO)(ns wf cf:Nat->AV)(l:B8)(v:Nat->AV)(qu:Int)(ws:Nat->List Nat)(TI:List AV):Prop where
 le:∀p k,l p k<=36
 lit:∀p q,mq (l p) (l q)
 ti:q 19=.list TI
 pair:∀s,s<7->∀p,p<s->∃t,Hy l (RR l) (Gv l) (FK l) TI p s t
 one:∀s,s<7->Ky l s s=1
 pt:∀ζ x i,i<4->iT q ns wf cf l (RR l) (Gv l) (FK l) ζ true v x qu i (ws i)
theorem mE(h:∀p k,l p k<=36):obs (yk l) true=true:=by
 have s:∀p k,(DI ((l p k:Nat):Int)&&true)=true:=λp k=>hZ (smF (AA (h p k) ⋯))
 exact Er (AB (s _ _) (AB (s _ _) (AB (s _ _) (AB (s _ _) (AB (s _ _) (AB (s _ _) (AB (s _ _) (AB (s _ _) (AB (s _ _) (AB (s _ _) (AB (s _ _) (AB (s _ _) (AB (s _ _) (AB (s _ _) (AB (s _ _) (AB (s _ _) (AB (s _ _) (AB (s _ _) (AB (s _ _) (AB (s _ _) (AB (s _ _) F0)))))))))))))))))))))
theorem back{v:Nat->AV}{qu:Int}{ws:Nat->List Nat}{TI:List AV}(K:iZ q ns wf cf l v qu ws TI):
  ∃lo H,Xs (ev 118) A6 (FF (vD v qu cf)) ⟨bD (oS q wd (MM ns) (w4 wf)) (A1 l) 0 0,true⟩ (Ck.drop 19)=some ⟨.ret (.bool true),lo,⟨H,true⟩⟩:=by
 have hl:∀p k,l p k<=63:=λp k=>AA (K.le p k) ⋯
 have W:=tr l
 have m7:∀P:Nat->Nat->Aa,∀p,p∈row P 7->p<7:=λP p h=>Dh.mp h
 have h80:∀P:Nat->Nat->Aa,(row P 7).length<80:=λP=>by rw[B1];decide
 have h7:∀k,(GQ (RR l) (Gv l) (FK l) k).length<80/\∀p,p∈GQ (RR l) (Gv l) (FK l) k->p<7:=λk=>by
  unfold GQ
  split
  ·exact⟨h80 _,m7 _⟩
  ·exact⟨h80 _,m7 _⟩
  ·exact⟨h80 _,m7 _⟩
 have x19:=X19 (o:=oS q wd (MM ns) (w4 wf)) (L:=A1 l) (v:=vD v qu cf) (b:=true)
 have x20:=X20 (o:=oS q wd (MM ns) (w4 wf)) (pt:=PS 7) (L:=A1 l) (R:=RR l) (G:=Gv l) (B:=FK l) (v:=vD v qu cf) (b:=true) (h80 _)
 have x21:=X21 (o:=oS q wd (MM ns) (w4 wf)) (pt:=PS 7) (L:=A1 l) (R:=RR l) (G:=Gv l) (B:=FK l) (v:=vD v qu cf) (b:=true) (rw:=rN (FK l)) (h80 _) (h80 _) (m7 _)
 have x22:=X22 (o:=oS q wd (MM ns) (w4 wf)) (pt:=PS 7) (L:=A1 l) (R:=RR l) (G:=Gv l) (B:=FK l) (v:=vD v qu cf) (b:=true) (rw:=rN (FK l)) (pb:=.lst (Di (A1 l) 2 (FK l))) (pr:=.lst (Di (A1 l) 0 (RR l)))
 have x23:=X23 (o:=oS q wd (MM ns) (w4 wf)) (pt:=PS 7) (v:=vD v qu cf) (b:=true) (rw:=rN (FK l)) W
 have x24:=X24 (o:=oS q wd (MM ns) (w4 wf)) (pt:=PS 7) (R:=RR l) (G:=Gv l) (B:=FK l) (D:=rO (A1 l) (RR l) (Gv l) (FK l)) (b:=true) (v:=vD v qu cf) hl
 refine(X25 (o:=oS q wd (MM ns) (w4 wf)) (pt:=PS 7) (v:=vD v qu cf) (b:=true) W K.ti K.pair K.one).elim λZ y=>y.elim λx y=>?_
 have x25:=y.1
 rw[show HZ (oS q wd (MM ns) (w4 wf)) (PS 7) l (RR l) (Gv l) (FK l) []=Gs (oS q wd (MM ns) (w4 wf)) (PS 7) (A1 l) (RR l) (Gv l) (FK l) (rO (A1 l) (RR l) (Gv l) (FK l)) from DW _,show HZ (oS q wd (MM ns) (w4 wf)) (PS 7) l (RR l) (Gv l) (FK l) Z=_ from yj y.2] at x25
 generalize (λi=>Z.getD i AO.OK)=ζ at x25
 have x26:=X26 (q:=q) (wd:=wd) (nm:=MM ns) (wl:=w4 wf) (l:=l) (R:=RR l) (G:=Gv l) (B:=FK l) (ζ:=ζ) (b:=true) (v:=vD v qu cf) (x:=x)
 rw[mE K.le] at x26
 have x27:=X27 (q:=q) (wd:=wd) (nm:=MM ns) (wl:=w4 wf) (l:=l) (R:=RR l) (G:=Gv l) (B:=FK l) (ζ:=ζ) (b:=true) (v:=vD v qu cf) (x:=x)
 refine(X28 (wd:=wd) K.lit (K.pt ζ x) h7).elim λg x28=>?_
 have x29:=X29 (q:=q) (wd:=sL (ws 3)) (nm:=MM ns) (wl:=w4 wf) (c:=⟨some (.int 6),some (Vz l),some FG.f,some (bu l 6),some (.int 2)⟩) (l:=l) (ζ:=ζ) (b:=true) (v:=vD v qu cf) (x:=x) (g:=g)
 refine⟨iV (vD v qu cf) l x g,Lr q (sL (ws 3)) (MM ns) (w4 wf) ⟨some (.int 6),some (Vz l),some FG.f,some (bu l 6),some (.int 2)⟩ (some (AZ (l 6)).i) l ζ 5,?_⟩
 refine(EB (k:=19) ⋯ x19).trans ((EB (k:=20) ⋯ x20).trans ((EB (k:=21) ⋯ x21).trans ((EB (k:=22) ⋯ x22).trans ((EB (k:=23) ⋯ x23).trans ((EB (k:=24) ⋯ x24).trans ((EB (k:=25) ⋯ x25).trans ((EB (k:=26) ⋯ x26).trans ((EB (k:=27) ⋯ x27).trans ((EB (k:=28) ⋯ x28).trans ?_)))))))))
 exact(EB (k:=29) ⋯ x29).trans ((EB (k:=30) ⋯ X30).trans ((EB (k:=31) ⋯ X31).trans (Kr (l:=Ck.drop 32) ⋯ X32 rfl)))
structure Tab(p:Pc):Prop where
 f7:∀sc nu gr qu ot f wh,F7 sc nu gr qu ot f wh p=G7 sc nu gr qu ot f wh p
 zE:∀sc nu gr qu ot f,f<4->zx sc nu gr qu ot f p=zy sc nu gr qu ot f p
 ub:∀sc nu qu ot f wh g Lt b i,i<4->yt sc nu qu ot f wh g Lt b i p=yu ot f g Lt b i p
 zF:∀sc nu qu ot f wh g Lt b,zC sc nu qu ot f wh g Lt b p=zD sc nu qu ot f wh g Lt b p
noncomputable def nsP(p:Pc)(i:Nat):AV:=sL (wN p i)
noncomputable def cfP(p:Pc)(i:Nat):AV:=I6 (p.cut.getD i [])
structure Lgt(p:Pc)(g:Nat->Nat):Prop where
 lt:∀i j,mB p i j<3
 pos:∀i,i<4->1<=dW p g i 2
 up:∀i k,dW p g i k<=36
 back:∀sc nu qu ot f wh,iZ (qL ot p f) (nsP p) (nsP p) (cfP p) (Ba p g) (vL sc nu (.int qu) p f wh (gC g)) qu (wN p) (iY (mD p))
theorem yx:FF (vL sc nu (.int qu) p f wh g)=FF (vD (vL sc nu (.int qu) p f wh g) qu (cfP p)):=⋯
theorem front(hx:xs.length<=63)(ha:(VN xs).fmod 3=(p.a:Nat))(hb:((VN xs).fdiv 3).fmod 5=(p.b:Nat))(hc:((VN xs).fdiv 15).fmod 7=(p.c:Nat))(hf:(NN xs).fmod 4=(f:Nat))(h4:f<4)
  (hg:gI (NN xs)=gC g)(h1:∀j,g j<=4)(T:Tab p)(Y:Lgt p g):∃lo H,Xs (ev 118) A6 (mA xs) ⟨H0,true⟩ Ck=some ⟨.ret (.bool true),lo,⟨H,true⟩⟩:=by
 have x0:=X0 hx
 have x1:=yr (sc:=.lst (xs.map .int)) (nu:=VN xs) (ot:=NN xs)
 rw[tj ha hb hc hf,hg] at x1
 generalize AV.lst (xs.map .int)=sc at x0 x1
 have x4:=s4 (sc:=sc) (nu:=.int (VN xs)) (gr:=jk (gC g)) (qu:=.int ((NN xs).fdiv 4)) (ot:=.int (NN xs)) (p:=p) f h4
 have x7:=T.f7 sc (.int (VN xs)) (jk (gC g)) (.int ((NN xs).fdiv 4)) (.int (NN xs)) f (Aw f 0)
 have yi:=T.zE sc (.int (VN xs)) (jk (gC g)) (.int ((NN xs).fdiv 4)) (.int (NN xs)) f h4
 have x14:=X14 (sc:=sc) (nu:=.int (VN xs)) (qu:=.int ((NN xs).fdiv 4)) (ot:=.int (NN xs)) (p:=p) (f:=f) (wh:=Aw f 0) (g:=g) (b:=true)
 have x15:=X15 (sc:=sc) (nu:=.int (VN xs)) (qu:=.int ((NN xs).fdiv 4)) (ot:=.int (NN xs)) (p:=p) (f:=f) (wh:=Aw f 0) (g:=g) ⟨λi hi Lt b=>T.ub _ _ _ _ _ _ _ _ _ i hi,Y.lt,Y.pos,Y.up,h1⟩ rfl
 have x16:=T.zF sc (.int (VN xs)) (.int ((NN xs).fdiv 4)) (.int (NN xs)) f (Aw f 0) (gC g) (jh (A1 (Ba p g))) true
 have x18:=X18 (sc:=sc) (nu:=.int (VN xs)) (qu:=.int ((NN xs).fdiv 4)) (ot:=.int (NN xs)) (p:=p) (f:=f) (wh:=Aw f 0) (g:=gC g) (b:=true) (l:=Ba p g)
 rw[yx] at x18
 unfold F7 G7 at x7
 unfold zx zy at yi
 unfold zC zD at x16
 refine(back (wd:=sL (wN p 3)) (Y.back sc (.int (VN xs)) ((NN xs).fdiv 4) (.int (NN xs)) f (Aw f 0))).elim λlo z=>z.elim λH z=>⟨lo,H,?_⟩
 have sp:∀k n,Ck.drop k=(Ck.drop k).take n++Ck.drop (k+n):=λk n=>by rw[<-List.drop_drop,H5]
 have c:∀{k n:Nat}{lo lo1:Lo}{S S1:St},Xs (ev 118) A6 lo S ((Ck.drop k).take n)=some ⟨.next,lo1,S1⟩->Xs (ev 118) A6 lo S (Ck.drop k)=Xs (ev 118) A6 lo1 S1 (Ck.drop (k+n)):=λ{k n lo lo1 S S1} h=>(Ai (Xs (ev 118) A6 lo S) (sp k n)).trans (Ja h)
 exact(EB (k:=0) ⋯ x0).trans ((c (k:=1) (n:=3) x1).trans ((c (k:=4) (n:=3) x4).trans ((c (k:=7) (n:=3) x7).trans ((c (k:=10) (n:=4) yi).trans ((EB (k:=14) ⋯ x14).trans ((EB (k:=15) ⋯ x15).trans ((c (k:=16) (n:=2) x16).trans ((EB (k:=18) ⋯ x18).trans z))))))))
theorem tv{lo:Lo}(h:Xs (ev 118) A6 (mA xs) ⟨H0,true⟩ Ck=some ⟨.ret (.bool true),lo,⟨H,true⟩⟩):∃S,ak 118 xs=some ⟨.bool true,S⟩/\S.ob=true:=by
 refine⟨⟨[],true⟩,?_,rfl⟩
 refine(show ak 118 xs=CM (ev 118) y6 [.lst (xs.map .int)] [] 0 ⟨[],true⟩ from ⋯).trans ?_
 exact gV (fi:=y6) (binds:=mA xs) (lo:=mA xs) (Bv:=lo) (fl:=.ret (.bool true)) (S1:=⟨H0,true⟩) (S2:=⟨H,true⟩) ⋯ ⋯ ⋯ ⋯ h rfl rfl
theorem i0(T:∀a b c,a<3->b<5->c<7->Tab ⟨a,b,c⟩)(Y:∀a b c,a<3->b<5->c<7->∀g:Nat->Nat,(∀j,1<=g j/\g j<=4)->Lgt ⟨a,b,c⟩ g)(xs:List Int)(hx:xs.length<=63):∃S,ak 118 xs=some ⟨.bool true,S⟩/\S.ob=true:=by
 have fm:∀(x:Int)(n:Nat),0<n->∃k:Nat,x.fmod n=(k:Nat)/\k<n:=λx n hn=>by
  rw[NS _ (HF n)]
  have h0:=Lx x (show(n:Int)≠0 by exact(pw [.t (.k 0) .p] (.n (.E (.n .p) (.j 0))) [] [_]) hn)
  have h1:=Lv x (show(0:Int)<n by exact(pw [.t (.k 0) .p] (.T (.j 0) (.n .p)) [] [_]) hn)
  exact⟨(x%n).toNat,(Q5 h0).symm,by exact(pw [.L (.j 0) .p,.T .p (.n .p)] (.t (.d .p) .p) [_] [_]) h0 h1⟩
 refine(fm (VN xs) 3 ⋯).elim λa ha=>(fm ((VN xs).fdiv 3) 5 ⋯).elim λb hb=>(fm ((VN xs).fdiv 15) 7 ⋯).elim λc hc=>(fm (NN xs) 4 ⋯).elim λf hf=>?_
 have hg:∀k,∃n:Nat,gI (NN xs) k=(n:Nat)/\1<=n/\n<=4:=λk=>(fm (((NN xs).fdiv 12).fdiv (4^k)) 4 ⋯).elim λn hn=>⟨1+n,by unfold gI;rw[show(4:Int)=((4:Nat):Int) from rfl,show(((4:Nat):Int)^k)=4^k from rfl,hn.1];exact(pw [] (.E (.A (.j 1) (.n .p)) (.n (.A (.k 1) .p))) [] [_]),by exact(pw [] (.l (.k 1) (.A (.k 1) .p)) [] [_]),by exact(pw [.a (.E .p (.n .p)) (.t .p (.k 4))] (.l (.A (.k 1) .p) (.k 4)) [_] [_]) hn⟩
 have e:gI (NN xs)=gC λk=>(hg k).choose:=funext λk=>(hg k).choose_spec.1
 exact(front hx ha.1 hb.1 hc.1 hf.1 hf.2 e (λj=>(hg j).choose_spec.2.2) (T a b c ha.2 hb.2 hc.2) (Y a b c ha.2 hb.2 hc.2 _ λj=>(hg j).choose_spec.2)).elim λlo z=>z.elim λH z=>tv z
theorem TF:∀(Q:List Nat)(acc:List Int),acc.Nodup->∃is,Nc (CP Q) acc=some is/\is.Nodup/\∀x,x∈is↔x∈acc\/∃q,q∈Q/\x=((q:Nat):Int)
 |[],acc,h=>⟨acc,rfl,h,λx=>⟨.inl,λh=>h.elim id λ⟨_,h,_⟩=>nomatch h⟩⟩
 |q::Q,acc,h=>by
  have e:Nc (CP (q::Q)) acc=Nc (CP Q) (cond (acc.any λy=>decide (y=(q:Int))) acc ((q:Int)::acc)):=rfl
  rw[e]
  cases a:acc.any λy=>decide (y=(q:Int)) with
  |true=>
   refine(TF Q acc h).elim λis z=>⟨is,z.1,z.2.1,λx=>(z.2.2 x).trans ?_⟩
   refine(JP.mp a).elim λy hy=>?_
   have hy2:=Bi hy.2
   refine⟨λw=>w.elim .inl λ⟨r,h1,h2⟩=>.inr ⟨r,.tail _ h1,h2⟩,λw=>w.elim .inl λ⟨r,h1,h2⟩=>(Bc.mp h1).elim (λe=>.inl (by rw[h2,e,<-hy2];exact hy.1)) λh1=>.inr ⟨r,h1,h2⟩⟩
  |false=>
   have nq:(q:Int)∉acc:=λm=>by
    have:=List.any_eq_false.mp a _ m
    exact this (AU rfl)
   refine(TF Q ((q:Int)::acc) (EC.mpr ⟨nq,h⟩)).elim λis z=>⟨is,z.1,z.2.1,λx=>(z.2.2 x).trans ?_⟩
   refine⟨λw=>w.elim (λw=>(Bc.mp w).elim (λe=>.inr ⟨q,.head _,e⟩) .inl) λ⟨r,h1,h2⟩=>.inr ⟨r,.tail _ h1,h2⟩,λw=>w.elim (λw=>.inl (.tail _ w)) λ⟨r,h1,h2⟩=>(Bc.mp h1).elim (λe=>.inl (by rw[h2,e];exact .head _)) λh1=>.inr ⟨r,h1,h2⟩⟩
noncomputable def I7:List Int:=[0,1,2,3,4,5,6]
theorem TG:x∈I7↔∃p:Nat,p<7/\x=p:=by
 constructor
 ·intro h
  simp only[I7,Bc,N1,OH] at h
  exact⟨x.toNat,by exact(pw [.o (.E .p (.j 0)) (.o (.E .p (.j 1)) (.o (.E .p (.j 2)) (.o (.E .p (.j 3)) (.o (.E .p (.j 4)) (.o (.E .p (.j 5)) (.E .p (.j 6)))))))] (.t (.d .p) (.k 7)) [_] []) h,by exact(pw [.o (.E .p (.j 0)) (.o (.E .p (.j 1)) (.o (.E .p (.j 2)) (.o (.E .p (.j 3)) (.o (.E .p (.j 4)) (.o (.E .p (.j 5)) (.E .p (.j 6)))))))] (.E .p (.n (.d .p))) [_] []) h⟩
 ·exact λ⟨p,h,e⟩=>e▸VG (P:=λp:Nat=>(p:Int)∈I7) ⋯ ⋯ ⋯ ⋯ ⋯ ⋯ ⋯ p h
theorem Acp{Q:List Nat}(h7:∀q,q∈Q->q<7)(hf:∀p,p<7->p∈Q):∃is,Nc (CP Q) []=some is/\decide ((is.length:Int)=7)=true:=by
 refine(TF Q [] .nil).elim λis z=>⟨is,z.1,AU ?_⟩
 have a:is.length<=7:=z.2.1.length_le_of_subset (l₂:=I7) λx hx=>((z.2.2 x).mp hx).elim (λh=>nomatch h) λ⟨q,h1,h2⟩=>TG.mpr ⟨q,h7 q h1,h2⟩
 have b: 7<=is.length:=R8 (l₁:=I7) ⋯ λx hx=>(TG.mp hx).elim λp h=>(z.2.2 x).mpr (.inr ⟨p,hf p h.1,h.2⟩)
 exact(pw [.l .p (.k 7),.l (.k 7) .p] (.E (.n .p) (.j 7)) [] [_]) a b
theorem Acq{Q:List Nat}(h7:∀q,q∈Q->q<7)(hx:x<7)(hf:x∉Q):∃is,Nc (CP Q) []=some is/\decide ((is.length:Int)=7)=false:=by
 refine(TF Q [] .nil).elim λis z=>⟨is,z.1,Ct ?_⟩
 have nx:(x:Int)∉is:=λh=>((z.2.2 _).mp h).elim (λh=>nomatch h) λ⟨q,h1,h2⟩=>hf (Ly.inj h2▸h1)
 have a:((x:Int)::is).length<=7:=(EC.mpr ⟨nx,z.2.1⟩).length_le_of_subset (l₂:=I7) λy hy=>(Bc.mp hy).elim (λe=>TG.mpr ⟨x,hx,e⟩) λhy=>((z.2.2 y).mp hy).elim (λh=>nomatch h) λ⟨q,h1,h2⟩=>TG.mpr ⟨q,h7 q h1,h2⟩
 have a:is.length+1<=7:=a
 exact(pw [.l (.A .p (.k 1)) (.k 7)] (.n (.E (.n .p) (.j 7))) [] [_]) a
theorem Lm:∀{t:List Nat},PQ P t->(x∈t.drop (cnt P t)↔x∈t/\P x=false)
 |[],_=>⟨nofun,λh=>nomatch h.1⟩
 |q::t,m=>by
  have m:=FL.mp m
  show x∈(q::t).drop (cond (P q) (cnt P t+1) (cnt P t))↔_
  cases e:P q with
  |true=>
   refine(Lm m.2).trans ⟨λh=>⟨.tail _ h.1,h.2⟩,λh=>⟨(Bc.mp h.1).elim (λz=>?_) id,h.2⟩⟩
   rw[z,e] at h
   nomatch h.2
  |false=>
   have all:∀y,y∈q::t->P y=false:=λy hy=>(Bc.mp hy).elim (λz=>z▸e) λhy=>by
    cases e':P y with
    |false=>rfl
    |true=>rw[m.1 y hy e'] at e;nomatch e
   rw[cnt_none λy hy=>all y (.tail _ hy)]
   exact⟨λh=>⟨h,all x h⟩,λh=>h.1⟩
theorem Ln(h:∀q,P q=true->P' q=true):∀t:List Nat,cnt P t<=cnt P' t
 |[]=>AP _
 |q::t=>by
  rw[cnt_cons,cnt_cons]
  refine B5 ?_ (Ln h t)
  cases e:P q with
  |true=>rw[h q e];exact AP _
  |false=>exact Co _
section
variable{l:B8}
theorem tB:x∈(RR l).drop (max (k0 l (RR l) o) (k0 l (RR l) s))↔x<7/\max (l o 0) (l s 0)<=l x 0:=by
 have e:max (k0 l (RR l) o) (k0 l (RR l) s)=cnt (λq=>decide (A1 l q 0<((max (l o 0) (l s 0):Nat):Int))) (RR l):=by
  have c:∀a b:Nat,l a 0<=l b 0->k0 l (RR l) a<=k0 l (RR l) b:=λa b h=>Ln (λq z=>AU (Int.lt_of_lt_of_le (Bi z) (DL.mpr h))) _
  rcases Ru (l o 0) (l s 0) with h | h
  ·rw[JU (c _ _ h),JU h];rfl
  ·rw[JV (c _ _ h),JV h];rfl
 rw[e]
 refine(Lm (Vc _)).trans (and_congr Dh ?_)
 rw[WX]
 exact DD.trans DL
theorem tC:x∈(Gv l).drop (max (TN l (Gv l) o) (TN l (Gv l) s))↔x<7/\max (l o 1) (l s 1)<l x 1:=by
 have e:max (TN l (Gv l) o) (TN l (Gv l) s)=cnt (λq=>decide (A1 l q 1<=((max (l o 1) (l s 1):Nat):Int))) (Gv l):=by
  have c:∀a b:Nat,l a 1<=l b 1->TN l (Gv l) a<=TN l (Gv l) b:=λa b h=>Ln (λq z=>AU (BA (Bi z) (DL.mpr h))) _
  rcases Ru (l o 1) (l s 1) with h | h
  ·rw[JU (c _ _ h),JU h];rfl
  ·rw[JV (c _ _ h),JV h];rfl
 rw[e]
 refine(Lm (Vd _)).trans (and_congr Dh ?_)
 rw[WX]
 exact Fd.trans DB
theorem tD:x∈(FK l).drop (max (k2 l (FK l) o) (k2 l (FK l) s))↔x<7/\max (l o 2) (l s 2)<l x 2:=by
 have e:max (k2 l (FK l) o) (k2 l (FK l) s)=cnt (λq=>decide (A1 l q 2<=((max (l o 2) (l s 2):Nat):Int))) (FK l):=by
  have c:∀a b:Nat,l a 2<=l b 2->k2 l (FK l) a<=k2 l (FK l) b:=λa b h=>Ln (λq z=>AU (BA (Bi z) (DL.mpr h))) _
  rcases Ru (l o 2) (l s 2) with h | h
  ·rw[JU (c _ _ h),JU h];rfl
  ·rw[JV (c _ _ h),JV h];rfl
 rw[e]
 refine(Lm (Ve _)).trans (and_congr Dh ?_)
 rw[WX]
 exact Fd.trans DB
def Z2(l:B8)(o s:Nat):List Nat:=o::s::((RR l).drop (max (k0 l (RR l) o) (k0 l (RR l) s))++((Gv l).drop (max (TN l (Gv l) o) (TN l (Gv l) s))++(FK l).drop (max (k2 l (FK l) o) (k2 l (FK l) s))))
theorem Z3:Lc l (RR l) (Gv l) (FK l) o s=CP (Z2 l o s):=by
 unfold Lc ZH ZG Vl CP Z2
 rw[ED,ED,LI,LI,N3,N3,N3,FO,FO]
 rfl
theorem Lp(ho:o<7)(hs:s<7):x∈Z2 l o s↔x=o\/x=s\/(x<7/\(max (l o 0) (l s 0)<=l x 0\/max (l o 1) (l s 1)<l x 1\/max (l o 2) (l s 2)<l x 2)):=by
 unfold Z2
 rw[Bc,Bc,LH,LH,tB,tC,tD,<-and_or_left,<-and_or_left]
def oV(l:B8)(o s:Nat):Prop:=∀x,x<7->x≠o->x≠s->max (l o 0) (l s 0)<l x 0\/max (l o 1) (l s 1)<l x 1\/max (l o 2) (l s 2)<l x 2
def oW(l:B8)(o s:Nat):Prop:=∃x,x<7/\x≠o/\x≠s/\l x 0<max (l o 0) (l s 0)/\l x 1<=max (l o 1) (l s 1)/\l x 2<=max (l o 2) (l s 2)
theorem Lq:bq l o s x=true↔l x 0<=max (l o 0) (l s 0)/\l x 1<=max (l o 1) (l s 1)/\l x 2<=max (l o 2) (l s 2):=by
 unfold bq Np
 rw[HQ,HQ,Gl,Gl,Gl]
theorem Yo:Ky l o s=(GS.filter (bq l o s)).length:=by
 rw[Hz]
 unfold GS Ky
 rw[cnt_cons,cnt_cons,cnt_cons,cnt_cons,cnt_cons,cnt_cons,cnt_cons]
 rfl
theorem Jf:bq l o s o=true/\bq l o s s=true:=⟨Lq.mpr ⟨LN _ _,LN _ _,LN _ _⟩,Lq.mpr ⟨LM _ _,LM _ _,LM _ _⟩⟩
theorem i3:x∈GS↔x<7:=Fe (n:=7)
theorem nd7(P:Nat->Aa):(GS.filter P).Nodup:=List.Nodup.sublist List.filter_sublist ⋯
theorem i4:Ky l o s=Ky l s o:=by
 unfold Ky bq Np
 simp only[Nat.max_comm (l o _)]
theorem uc(e:x=a)(h1:a<7)(h2:bq l o s a=true):x∈GS.filter (bq l o s):=by rw[e];exact JR.mpr ⟨i3.mpr h1,h2⟩
theorem mF(ho:o<7)(hs:s<7)(hn:o≠s)(h:oV l o s)(ht:∀H,ja H (.tup [.int o,.int s]) TI=some true):Hy l (RR l) (Gv l) (FK l) TI o s true where
 xR:=ht
 nub:=by
  rw[Z3]
  refine Acp (λq hq=>((Lp ho hs).mp hq).elim (λe=>e▸ho) λw=>w.elim (λe=>e▸hs) (·.1)) λp hp=>(Lp ho hs).mpr ?_
  refine(DH (p=o)).elim .inl λh1=>(DH (p=s)).elim (λe=>.inr (.inl e)) λh2=>.inr (.inr ⟨hp,(h p hp h1 h2).elim (λw=>.inl (DX w)) .inr⟩)
 two:=by
  have e:(GS.filter (bq l o s)).length=2:=by
   refine Rp ((nd7 _).length_le_of_subset (l₂:=[o,s]) λx hx=>?_) (R8 (l₁:=[o,s]) (EC.mpr ⟨λm=>hn (CL.mp m),EC.mpr ⟨nofun,.nil⟩⟩) λx hx=>?_)
   ·have m:=JR.mp hx
    refine(DH (x=o)).elim (λe=>e▸.head _) λh1=>(DH (x=s)).elim (λe=>e▸.tail _ (.head _)) λh2=>?_
    have a:=h x (i3.mp m.1) h1 h2;have b:=Lq.mp m.2
    exact((pw [.o (.t (.max .p .q) .r) (.o (.t (.max .s .t) .u) (.t (.max .w .x) .y)),.a (.l .r (.max .p .q)) (.a (.l .u (.max .s .t)) (.l .y (.max .w .x)))] .f [] [_,_,_,_,_,_,_,_,_]) a b).elim
   ·exact(Bc.mp hx).elim (λe=>uc e ho Jf.1) λhx=>uc (CL.mp hx) hs Jf.2
  rw[Yo,e];rfl
 sym:=i4
theorem mG{o s:Nat}(ho:o<7)(hs:s<7)(hn:o≠s)(h:oW l o s)(ht:∀H,ja H (.tup [.int o,.int s]) TI=some false):Hy l (RR l) (Gv l) (FK l) TI o s false:=by
 refine h.elim λx hx=>⟨ht,?_,?_,i4⟩
 ·rw[Z3]
  refine Acq (x:=x) (λq hq=>((Lp ho hs).mp hq).elim (λe=>e▸ho) λw=>w.elim (λe=>e▸hs) (·.1)) hx.1 λm=>?_
  have:=(Lp ho hs).mp m
  exact(pw [.a (.t .p (.k 7)) (.a (.n (.e .p .q)) (.a (.n (.e .p .r)) (.a (.t .s (.max .t .u)) (.a (.l .w (.max .x .y)) (.l .z (.max (.v 10) (.v 11))))))),.o (.e .p .q) (.o (.e .p .r) (.a (.t .p (.k 7)) (.o (.l (.max .t .u) .s) (.o (.t (.max .x .y) .w) (.t (.max (.v 10) (.v 11)) .z)))))] .f [] [_,_,_,_,_,_,_,_,_,_,_,_]) hx this
 ·have e: 3<=(GS.filter (bq l o s)).length:=R8 (l₁:=[x,o,s]) (EC.mpr ⟨λm=>(Bc.mp m).elim hx.2.1 λm=>hx.2.2.1 (CL.mp m),EC.mpr ⟨λm=>hn (CL.mp m),EC.mpr ⟨nofun,.nil⟩⟩⟩) λy hy=>
   (Bc.mp hy).elim (λe=>uc e hx.1 (Lq.mpr ⟨DX hx.2.2.2.1,hx.2.2.2.2⟩)) λhy=>(Bc.mp hy).elim (λe=>uc e ho Jf.1) λhy=>uc (CL.mp hy) hs Jf.2
  rw[Yo]
  exact Ct (by exact(pw [.l (.k 3) .p] (.n (.E (.n .p) (.j 2))) [] [_]) e)
theorem mH(hs:s<7)(h:∀x,x<7->x≠s->l s 0<l x 0\/l s 1<l x 1\/l s 2<l x 2):Ky l s s=1:=by
 rw[Yo]
 refine Rp ((nd7 _).length_le_of_subset (l₂:=[s]) λx hx=>?_) (R8 (l₁:=[s]) (EC.mpr ⟨nofun,.nil⟩) λx hx=>uc (CL.mp hx) hs Jf.1)
 have m:=JR.mp hx
 refine(DH (x=s)).elim (λe=>e▸.head _) λh1=>?_
 have a:=h x (i3.mp m.1) h1;have b:=Lq.mp m.2
 exact((pw [.o (.t .p .q) (.o (.t .r .s) (.t .t .u)),.a (.l .q (.max .p .p)) (.a (.l .s (.max .r .r)) (.l .u (.max .t .t)))] .f [] [_,_,_,_,_,_]) a b).elim
end
def inS(p:Pc)(pt k:Nat)(j:Nat):Aa:=match pt with
 |0=>Aw k 0
 |1=>Aw k 1
 |2=>Aw k 2
 |i+3=>Aw (mB p i j) k
def yz(p:Pc)(pt k:Nat):List Aa:=L9.map (inS p pt k)
noncomputable def gB:List Aa->List Nat->Nat
 |b::s,x::t=>cond b x 0+gB s t
 |_,_=>0
noncomputable def subB:List Aa->List Aa->Aa
 |a::s,b::t=>cond a (cond b (subB s t) false) (subB s t)
 |_,_=>true
noncomputable def zG:List Aa->List Aa->Aa
 |a::s,b::t=>cond b (cond a (zG s t) true) (zG s t)
 |_,_=>false
theorem sub_le:∀{a b:List Aa}{g:List Nat},a.length=b.length->subB a b=true->gB a g<=gB b g
 |[],[],_,_,_=>AP _
 |a::s,b::t,[],_,_=>AP _
 |a::s,b::t,x::g,hl,h=>by
  have je:=He hl
  cases a<;>cases b
  ·exact GW (sub_le je h) _
  ·exact B5 (Co _) (sub_le je h)
  ·nomatch h
  ·exact GW (sub_le je h) _
theorem sub_lt:∀{a b:List Aa}{g:List Nat},a.length=b.length->a.length=g.length->(∀x,x∈g->1<=x)->subB a b=true->zG a b=true->gB a g<gB b g
 |[],[],_,_,_,_,_,h=>nomatch h
 |a::s,b::t,[],_,hg,_,_,_=>nomatch hg
 |a::s,b::t,x::g,hl,hg,h1,h,hp=>by
  have je:=He hl
  have hg2:=He hg
  have hx:=h1 x (.head _)
  have h12:=λy hy=>h1 y (.tail _ hy)
  cases a<;>cases b
  ·exact cJ (sub_lt je hg2 h12 h hp) _
  ·exact Nat.add_lt_add_of_lt_of_le hx (sub_le je h)
  ·nomatch h
  ·exact cJ (sub_lt je hg2 h12 h hp) _
def sb(p:Pc)(a b k:Nat):Aa:=subB (yz p a k) (yz p b k)
def st(p:Pc)(a b k:Nat):Aa:=cond (sb p a b k) (zG (yz p a k) (yz p b k)) false
section
variable{p:Pc}{g:Nat->Nat}
theorem GR(m:Nat->Nat)(g:Nat->Nat)(k:Nat):∀t:List Nat,dK m g k t=gB (t.map λj=>Aw (m j) k) (t.map g)
 |[]=>rfl
 |j::t=>Ai (cond (Aw (m j) k) (g j) 0 + ·) (GR m g k t)
theorem mJ:∀pt,pt<7->∀k,k<3->Ba p g pt k=gB (yz p pt k) (L9.map g):=by
 have s:HE g=gB (L9.map λ_=>true) (L9.map g):=by
  unfold HE;exact(pw [] (.e (.A (.A (.A (.A (.A (.A (.A (.A .p .q) .r) .s) .t) .u) .w) .x) .y) (.A .p (.A .q (.A .r (.A .s (.A .t (.A .u (.A .w (.A .x (.A .y (.k 0))))))))))) [] [_,_,_,_,_,_,_,_,_])
 have z: 0=gB (L9.map λ_=>false) (L9.map g):=rfl
 exact VG (M8 s z z) (M8 z s z) (M8 z z s) (M8 (GR _ _ _ _) (GR _ _ _ _) (GR _ _ _ _)) (M8 (GR _ _ _ _) (GR _ _ _ _) (GR _ _ _ _)) (M8 (GR _ _ _ _) (GR _ _ _ _) (GR _ _ _ _)) (M8 (GR _ _ _ _) (GR _ _ _ _) (GR _ _ _ _))
theorem Z4(ha:a<7)(hb:b<7)(hk:k<3)(h:sb p a b k=true):Ba p g a k<=Ba p g b k:=by
 rw[mJ a ha k hk,mJ b hb k hk]
 exact sub_le ((AY ..).trans (AY ..).symm) h
theorem JL(ha:a<7)(hb:b<7)(hk:k<3)(hg:∀j,1<=g j)(h:st p a b k=true):Ba p g a k<Ba p g b k:=by
 rw[mJ a ha k hk,mJ b hb k hk]
 unfold st at h
 cases e:sb p a b k with
 |false=>rw[e] at h;nomatch h
 |true=>
  rw[e] at h
  exact sub_lt ((AY ..).trans (AY ..).symm) ((AY ..).trans (AY ..).symm) (λx hx=>(CD.mp hx).elim λj hj=>hj.2▸hg j) e h
def oX(p:Pc)(o s:Nat):Aa:=(mD p).any λt=>Aw t.1 o&&Aw t.2 s
noncomputable def oY(o s x:Nat):Aa:=Aw x o||Aw x s
def ckT(p:Pc)(o s:Nat):Aa:=GS.all λx=>oY o s x||((st p o x 0&&st p s x 0)||((st p o x 1&&st p s x 1)||(st p o x 2&&st p s x 2)))
def ckF(p:Pc)(o s:Nat):Aa:=GS.any λx => !oY o s x&&((st p x o 0||st p x s 0)&&((sb p x o 1||sb p x s 1)&&(sb p x o 2||sb p x s 2)))
def ckO(p:Pc)(s:Nat):Aa:=GS.all λx=>Aw x s||(st p s x 0||(st p s x 1||st p s x 2))
noncomputable def jm(lamp:Nat):Nat×Nat:=match lamp with | 0=>(1,2) | 1=>(0,2) | _=>(0,1)
def VD(p:Pc)(i lamp:Nat):Nat:=Qs (VM (wN p i) lamp) p.names
def yC(p:Pc)(i lamp:Nat):Aa:=(Ob (VD p i lamp) 7&&(st p (VD p i lamp) (i+3) (jm lamp).1&&st p (VD p i lamp) (i+3) (jm lamp).2))&&
 GS.all λq=>Aw q (VD p i lamp)||(sb p (i+3) q (jm lamp).1||(sb p (i+3) q (jm lamp).2||st p (VD p i lamp) q lamp))
def Yp(p:Pc):Aa:=GS.all λs=>(Cn s).all λo=>cond (oX p o s) (ckT p o s) (ckF p o s)
def Yq(p:Pc):Aa:=GS.all (ckO p)&&[0,1,2,3].all λi=>[0,1,2].all λlamp=>yC p i lamp
end
structure Chk(p:Pc):Prop where
 pair:Yp p=true
 rest:Yq p=true
 tri:∀i,i<4->p.cut.getD i []=Lk (wN p i)
 win:∀i,i<4->wN p i∈WI i
 pos:∀i,i<4->(L9.any λj=>Aw (mB p i j) 2)=true
structure Pgs:Prop where
 zo:∀q ns wf cf l R G B ζ b v x qu r i w,i<4->w∈WI i->∀lamp,lamp<3->∀h,h<3->(r=none->i=0)->iP q ns wf cf l R G B ζ b v x qu r i lamp h w=iQ q ns wf cf l R G B ζ b v x qu r i lamp h w
 f5:∀q ns wf cf l R G B ζ b v x qu n i w,i<4->w∈WI i->∀lamp,lamp<3->∀h,h<3->F5 q ns wf cf l R G B ζ b v x qu n i lamp h w=G5 q ns wf cf l R G B ζ b v x qu n i lamp h w
theorem oZ(x:Nat):cond (Aw x 114) 0 (cond (Aw x 103) 1 2)<3:=by rcases Aw x 114 with ⟨⟩<;>rcases Aw x 103 with ⟨⟩<;>decide
theorem VE:∀x y:List Nat,Z0 x y<3
 |[],[]=>Nat.zero_lt_succ _
 |[],_::_=>Nat.zero_lt_succ _
 |x::xs,[]=>oZ x
 |x::xs,y::ys=>by
  show cond (Aw x y) (Z0 xs ys) (cond (Aw x 114) 0 (cond (Aw x 103) 1 2))<3
  rcases Aw x y with ⟨⟩
  ·exact oZ x
  ·exact VE xs ys
theorem o4(h:∀j,g j<=4):∀t:List Nat,dK m g k t<=4*t.length
 |[]=>AP _
 |j::t=>by
  have a:=o4 (m:=m) (k:=k) h t
  have b:cond (Aw (m j) k) (g j) 0<=4:=by rcases Aw (m j) k with ⟨⟩;exact Co _;exact h j
  exact(pw [.l .p (.m 4 .q),.l .r (.k 4)] (.l (.A .r .p) (.m 4 (.A .q (.k 1)))) [] [_,_,_]) a b
theorem i5(h:∀j,1<=g j):∀t:List Nat,(t.any λj=>Aw (m j) k)=true->1<=dK m g k t
 |j::t,a=>by
  rw[Wd] at a
  show 1<=cond (Aw (m j) k) (g j) 0+dK m g k t
  cases e:Aw (m j) k with
  |true=>exact AA (h j) (BG _ _)
  |false=>rw[e] at a;exact AA (i5 h t a) (H7 _ _)
theorem i6(h:∀j,m j<3):∀t:List Nat,dK m g 0 t+dK m g 1 t+dK m g 2 t=(t.map g).sum
 |[]=>rfl
 |j::t=>by
  have a:=i6 (g:=g) h t
  show cond (Aw (m j) 0) (g j) 0+dK m g 0 t+(cond (Aw (m j) 1) (g j) 0+dK m g 1 t)+(cond (Aw (m j) 2) (g j) 0+dK m g 2 t)=(g j::t.map g).sum
  rw[LK,<-a]
  have:=h j
  generalize m j=x at*
  match x,this with
  |0,_=>show g j+_+(0+_)+(0+_)=_;exact(pw [] (.e (.A (.A (.A .p .q) (.A (.k 0) .r)) (.A (.k 0) .s)) (.A .p (.A (.A .q .r) .s))) [] [_,_,_,_])
  |1,_=>show 0+_+(g j+_)+(0+_)=_;exact(pw [] (.e (.A (.A (.A (.k 0) .p) (.A .q .r)) (.A (.k 0) .s)) (.A .q (.A (.A .p .r) .s))) [] [_,_,_,_])
  |2,_=>show 0+_+(0+_)+(g j+_)=_;exact(pw [] (.e (.A (.A (.A (.k 0) .p) (.A (.k 0) .q)) (.A .r .s)) (.A .r (.A (.A .p .q) .s))) [] [_,_,_,_])
theorem mK(h:∀j,g j<=4):HE g<=36:=by
 have VJ:=h 0;have VK:=h 1;have g8:=h 2;have bF:=h 3;have ji:=h 4;have lV:=h 5;have Tu:=h 6;have xX:=h 7;have:=h 8
 unfold HE;exact(pw [.l .p (.k 4),.l .q (.k 4),.l .r (.k 4),.l .s (.k 4),.l .t (.k 4),.l .u (.k 4),.l .w (.k 4),.l .x (.k 4),.l .y (.k 4)] (.l (.A (.A (.A (.A (.A (.A (.A (.A .p .q) .r) .s) .t) .u) .w) .x) .y) (.k 36)) [] [_,_,_,_,_,_,_,_,_]) VJ VK g8 bF ji lV Tu xX this
theorem Z5(a b:Nat):decide ((a:Int)=b)=Aw a b:=by
 cases e:Aw a b with
 |true=>rw[Cb e];exact AU rfl
 |false=>exact Ct λh=>by rw[Ly.inj h,Ib] at e;nomatch e
theorem TH{o s:Nat}:∀t:List (Nat×Nat),ja H (.tup [.int o,.int s]) (iY t)=some (t.any λx=>Aw x.1 o&&Aw x.2 s)
 |[]=>rfl
 |x::t=>by
  show(some (decide ((x.1:Int)=o)&&(decide ((x.2:Int)=s)&&true))).bind (λb=>(ja H (.tup [.int o,.int s]) (iY t)).bind λc=>some (b||c))=_
  rw[TH t,Z5,Z5,NR]
  rfl
theorem Z6:∀(t:List (List Nat))(n:Nat),Qs x t<t.length->Qg ⟨x.toArray⟩ (t.map λy=>⟨y.toArray⟩) n=some (n+Qs x t)
 |[],_,h=>AL h (Ff _)
 |y::t,n,h=>by
  show cond (Fu y x) (some n) (Qg ⟨x.toArray⟩ (t.map λy=>⟨y.toArray⟩) (n+1))=some (n+cond (Fu y x) 0 (Qs x t+1))
  change cond (Fu y x) 0 (Qs x t+1)<t.length+1 at h
  cases e:Fu y x with
  |true=>rfl
  |false=>
   rw[e] at h
   exact(Z6 t (n+1) (LL h)).trans (Ai some (by show n+1+Qs x t=n+(Qs x t+1);exact(pw [] (.e (.A (.A .p (.k 1)) .q) (.A .p (.A .q (.k 1)))) [] [_,_])))
theorem NO{f:Nat->Int}:∀{t:List Nat},t.Pairwise (λa b=>f a<=f b)->k∈t->P k=true->(∀q,q∈t->P q=true->q=k\/f k<f q)->∃r,t.filter P=k::r
 |q::t,m,hk,hp,h=>by
  have m:=FL.mp m
  rw[List.filter_cons]
  cases e:P q with
  |true=>
   refine(h q (.head _) e).elim (λz=>⟨t.filter P,by rw[z];rfl⟩) λz=>?_
   exact(Bc.mp hk).elim (λw=>AL z (by rw[w];exact Int.lt_irrefl _)) λw=>AL z (DD.mpr (m.1 k w))
  |false=>
   refine(NO m.2 ((Bc.mp hk).elim (λw=>?_) id) hp λy hy=>h y (.tail _ hy)).elim λr z=>⟨r,z⟩
   rw[<-w,hp] at e
   nomatch e
section
variable{p:Pc}{g:Nat->Nat}
theorem YL(h:(a||b)=true):a=true\/b=true:=VS.mp h
theorem i7(h:GS.all P=true)(x:Nat)(hx:x<7):P x=true:=BW.mp h x (i3.mpr hx)
theorem TJ(h:Aw a b=true):a=b:=Cb h
theorem mM(hg:∀j,1<=g j)(ho:o<7)(hs:s<7)(h:ckT p o s=true):oV (Ba p g) o s:=λx hx h1 h2=>by
 have L:∀k,k<3->(st p o x k&&st p s x k)=true->max (Ba p g o k) (Ba p g s k)<Ba p g x k:=λk hk w=>Nat.max_lt.mpr ⟨JL ho hx hk hg (bt w).1,JL hs hx hk hg (bt w).2⟩
 exact(YL (i7 h x hx)).elim (λw=>(YL w).elim (λw=>AL (TJ w) h1) λw=>AL (TJ w) h2) λw=>(YL w).elim (λw=>.inl (L 0 ⋯ w)) λw=>(YL w).elim (λw=>.inr (.inl (L 1 ⋯ w))) λw=>.inr (.inr (L 2 ⋯ w))
theorem mN(hg:∀j,1<=g j)(ho:o<7)(hs:s<7)(h:ckF p o s=true):oW (Ba p g) o s:=by
 refine(JP.mp h).elim λx z=>?_
 have hx:=i3.mp z.1
 have a:=bt z.2;have b:=bt a.2;have c:=bt b.2
 have L:∀k,k<3->(sb p x o k||sb p x s k)=true->Ba p g x k<=max (Ba p g o k) (Ba p g s k):=λk hk w=>(YL w).elim (λw=>AA (Z4 hx ho hk w) (LN _ _)) λw=>AA (Z4 hx hs hk w) (LM _ _)
 have n:=VU _▸a.1
 have n2:=NQ.mp n
 refine⟨x,hx,λe=>?_,λe=>?_,(YL b.1).elim (λw=>BX (JL hx ho ⋯ hg w) (LN _ _)) λw=>BX (JL hx hs ⋯ hg w) (LM _ _),L 1 ⋯ c.1,L 2 ⋯ c.2⟩
 ·rw[e,Ib] at n2;nomatch n2.1
 ·rw[e,Ib] at n2;nomatch n2.2
theorem Z7(l:B8)(i q:Nat):∀lamp,lamp<3->(jj l i lamp q=true↔l q (jm lamp).1<l (i+3) (jm lamp).1/\l q (jm lamp).2<l (i+3) (jm lamp).2):=by
 have e:∀a b c d:Nat,(decide ((b:Int)-a<0)&&decide ((d:Int)-c<0))=true↔b<a/\d<c:=λa b c d=>by
  rw[HQ,Gl,Gl];lia
 exact M8 (e _ _ _ _) (e _ _ _ _) (e _ _ _ _)
theorem tF:∀lamp,lamp<3->(jm lamp).1<3/\(jm lamp).2<3:=M8 ⋯ ⋯ ⋯
theorem bw{l:B8}(lamp:Nat)(hl:lamp<3)(hk:k<7)(P:jj l i lamp k=true)(Q:∀q,q<7->jj l i lamp q=true->q=k\/A1 l k lamp<A1 l q lamp):∃r,(GQ (RR l) (Gv l) (FK l) lamp).filter (jj l i lamp)=k::r:=by
 match lamp,hl with
 |0,_=>exact NO (gQ 7) (Dh.mpr hk) P λq hq=>Q q (Dh.mp hq)
 |1,_=>exact NO (gR 7) (Dh.mpr hk) P λq hq=>Q q (Dh.mp hq)
 |2,_=>exact NO (gS 7) (Dh.mpr hk) P λq hq=>Q q (Dh.mp hq)
theorem yD(hg:∀j,1<=g j)(hi:i<4)(hl:lamp<3)(h:yC p i lamp=true):∃k r ys,IG (MM (nsP p))=some ys/\Qg ⟨(VM (wN p i) lamp).toArray⟩ ys 0=some k/\(GQ (RR (Ba p g)) (Gv (Ba p g)) (FK (Ba p g)) lamp).filter (jj (Ba p g) i lamp)=k::r:=by
 have a:=bt h;have b:=bt a.1;have c:=bt b.2
 have hk:=Bm b.1
 have h3:i+3<7:=(pw [.t .p (.k 4)] (.t (.A .p (.k 3)) (.k 7)) [] [_]) hi
 have o3:=tF lamp hl
 have P:=(Z7 _ _ _ lamp hl).mpr ⟨JL hk h3 o3.1 hg c.1,JL hk h3 o3.2 hg c.2⟩
 have Q:∀q,q<7->jj (Ba p g) i lamp q=true->q=VD p i lamp\/A1 (Ba p g) (VD p i lamp) lamp<A1 (Ba p g) q lamp:=λq hq w=>by
  have w:=(Z7 _ _ _ lamp hl).mp w
  exact(YL (i7 a.2 q hq)).elim (λz=>.inl (TJ z)) λz=>(YL z).elim (λz=>AL w.1 (EI.mpr (Z4 h3 hq o3.1 z))) λz=>(YL z).elim (λz=>AL w.2 (EI.mpr (Z4 h3 hq o3.2 z))) λz=>.inr (DB.mpr (JL hk hq hl hg z))
 have R:=bw lamp hl hk P Q
 exact R.elim λr e=>⟨VD p i lamp,r,p.names.map λy=>⟨y.toArray⟩,rfl,(Z6 p.names 0 hk).trans (Ai some (Ia _)),e⟩
theorem tG(C:Chk p)(W:Pgs)(hg:∀j,1<=g j/\g j<=4):Lgt p g:=by
 have h1:=λj=>(hg j).1;have h4:=λj=>(hg j).2
 have dl:∀i k,dW p g i k<=36:=λi k=>o4 h4 L9
 have lt:∀i j,mB p i j<3:=λi j=>VE _ _
 have sN:=mK h4
 have le:∀pt k,Ba p g pt k<=36:=λpt k=>by
  match pt with
  |0=>show cond (Aw k 0) (HE g) 0<=36;rcases Aw k 0 with ⟨⟩;exact Co _;exact sN
  |1=>show cond (Aw k 1) (HE g) 0<=36;rcases Aw k 1 with ⟨⟩;exact Co _;exact sN
  |2=>show cond (Aw k 2) (HE g) 0<=36;rcases Aw k 2 with ⟨⟩;exact Co _;exact sN
  |i+3=>
   show cond (Bf i 3) (cond (Bf k 2) (dW p g i k) 0) (cond (Aw k 0) (HE g) 0)<=36
   rcases Bf i 3 with ⟨⟩
   ·rcases Aw k 0 with ⟨⟩;exact Co _;exact sN
   ·rcases Bf k 2 with ⟨⟩;exact Co _;exact dl i k
 have tO:∀pt,Ba p g pt 0+Ba p g pt 1+Ba p g pt 2=HE g:=λpt=>by
  match pt with
  |0=>rfl
  |1=>show 0+HE g+0=_;exact(pw [] (.e (.A (.A (.k 0) .p) (.k 0)) .p) [] [_])
  |2=>show 0+0+HE g=_;exact(pw [] (.e (.A (.k (0+0)) .p) .p) [] [_])
  |i+3=>
   show cond (Bf i 3) (dW p g i 0) (HE g)+cond (Bf i 3) (dW p g i 1) 0+cond (Bf i 3) (dW p g i 2) 0=_
   rcases Bf i 3 with ⟨⟩
   ·rfl
   ·refine(i6 (lt i) L9).trans ?_
    unfold HE;exact(pw [] (.e (.A .p (.A .q (.A .r (.A .s (.A .t (.A .u (.A .w (.A .x (.A .y (.k 0)))))))))) (.A (.A (.A (.A (.A (.A (.A (.A .p .q) .r) .s) .t) .u) .w) .x) .y)) [] [_,_,_,_,_,_,_,_,_])
 refine⟨lt,λi hi=>i5 h1 L9 (C.pos i hi),dl,λsc nu qu ot f wh=>⟨le,λa b=>⟨le a,le b,(tO a).trans (tO b).symm⟩,rfl,λs hs o ho=>?_,λs hs=>mH hs λx hx hn=>?_,λζ x i hi=>⟨Ai I6 (C.tri i hi),rfl,λlamp hl h hh r hr=>W.zo _ _ _ _ _ _ _ _ _ _ _ _ _ _ i _ hi (C.win i hi) lamp hl h hh hr,λlamp hl h hh n=>W.f5 _ _ _ _ _ _ _ _ _ _ _ _ _ _ i _ hi (C.win i hi) lamp hl h hh,λlamp hl=>yD h1 hi hl ?_⟩⟩⟩
 ·have c:=BW.mp (i7 C.pair s hs) o (Fe.mpr ho)
  have zH:=EH ho hs
  cases e:oX p o s with
  |true=>
   rw[e] at c
   exact⟨true,mF zH hs (EG ho) (mM h1 zH hs c) λH=>(TH _).trans (Ai some e)⟩
  |false=>
   rw[e] at c
   exact⟨false,mG zH hs (EG ho) (mN h1 zH hs c) λH=>(TH _).trans (Ai some e)⟩
 ·have c:=i7 (i7 (bt C.rest).1 s hs) x hx
  exact(YL c).elim (λw=>AL (TJ w) hn) λw=>(YL w).elim (λw=>.inl (JL hs hx ⋯ h1 w)) λw=>(YL w).elim (λw=>.inr (.inl (JL hs hx ⋯ h1 w))) λw=>.inr (.inr (JL hs hx ⋯ h1 w))
 ·have c:=BW.mp (BW.mp (bt C.rest).2 i (by revert i;exact VA ⋯ ⋯ ⋯ ⋯)) lamp (M8 ⋯ ⋯ ⋯ lamp hl)
  exact c
end
theorem tH{P:Nat->Prop}(h0:P 0)(h1:P 1)(h2:P 2)(h3:P 3)(h4:P 4):∀p,p<5->P p
 |0,_=>h0 | 1,_=>h1 | 2,_=>h2 | 3,_=>h3 | 4,_=>h4
 |_+5,h=>AL (H7 5 _) (N7 h)
theorem Z8(h:c<7):(⟨a,b,c⟩ :Pc)∈Qr a b:=CD.mpr ⟨c,Fe.mpr h,rfl⟩
theorem TK{α:Type}{F G:Pc->α}(h:(Qr a b).map F=(Qr a b).map G)(hc:c<7):F ⟨a,b,c⟩=G ⟨a,b,c⟩:=LC.mp h _ (Z8 hc)
theorem yE:∀i,i<4->i∈[0,1,2,3]:=VA ⋯ ⋯ ⋯ ⋯
theorem yF{α:Type}{F G:Nat->α}(h:([0,1,2,3]:List Nat).map F=[0,1,2,3].map G)(i:Nat)(hi:i<4):F i=G i:=LC.mp h i (yE i hi)
theorem mP(hc:c<7)(h7:∀sc nu gr qu ot f wh,(Qr a b).map (F7 sc nu gr qu ot f wh)=(Qr a b).map (G7 sc nu gr qu ot f wh))
  (h10:∀sc nu gr qu ot,(([0,1,2,3]:List Nat).map λf=>(Qr a b).map (zx sc nu gr qu ot f))=[0,1,2,3].map λf=>(Qr a b).map (zy sc nu gr qu ot f))
  (h15:∀sc nu qu ot f wh g Lt b',(([0,1,2,3]:List Nat).map λi=>(Qr a b).map (yt sc nu qu ot f wh g Lt b' i))=[0,1,2,3].map λi=>(Qr a b).map (yu ot f g Lt b' i))
  (h16:∀sc nu qu ot f wh g Lt b',(Qr a b).map (zC sc nu qu ot f wh g Lt b')=(Qr a b).map (zD sc nu qu ot f wh g Lt b')):Tab ⟨a,b,c⟩ where
 f7:=λsc nu gr qu ot f wh=>TK (h7 sc nu gr qu ot f wh) hc
 zE:=λsc nu gr qu ot f hf=>TK (yF (h10 sc nu gr qu ot) f hf) hc
 ub:=λsc nu qu ot f wh g Lt b' i hi=>TK (yF (h15 sc nu qu ot f wh g Lt b') i hi) hc
 zF:=λsc nu qu ot f wh g Lt b'=>TK (h16 sc nu qu ot f wh g Lt b') hc
def tI(p:Pc):Aa:=([0,1,2,3]:List Nat).all λi=>(p.cut.getD i []==Lk (wN p i))&&((WI i).contains (wN p i)&&L9.any λj=>Aw (mB p i j) 2)
theorem tJ(hc:c<7)(h:((Qr a b).all λp=>Yp p&&(Yq p&&tI p))=true):Chk ⟨a,b,c⟩:=by
 have x:=bt (BW.mp h _ (Z8 hc));have y:=bt x.2
 have z:=λi hi=>bt (BW.mp y.2 i (yE i hi))
 exact⟨x.1,y.1,λi hi=>eq_of_beq (z i hi).1,λi hi=>Wa.mp (bt (z i hi).2).1,λi hi=>(bt (z i hi).2).2⟩
theorem tK(h12:∀q ns wf cf l R G B ζ b v x qu i,i<4->∀lamp,lamp<3->∀h,h<3->∀r,(r=none->i=0)->(WI i).map (iP q ns wf cf l R G B ζ b v x qu r i lamp h)=(WI i).map (iQ q ns wf cf l R G B ζ b v x qu r i lamp h))
  (h5:∀q ns wf cf l R G B ζ b v x qu n i,i<4->∀lamp,lamp<3->∀h,h<3->(WI i).map (F5 q ns wf cf l R G B ζ b v x qu n i lamp h)=(WI i).map (G5 q ns wf cf l R G B ζ b v x qu n i lamp h)):Pgs where
 zo:=λq ns wf cf l R G B ζ b v x qu r i w hi hw lamp hl h hh hr=>LC.mp (h12 q ns wf cf l R G B ζ b v x qu i hi lamp hl h hh r hr) w hw
 f5:=λq ns wf cf l R G B ζ b v x qu n i w hi hw lamp hl h hh=>LC.mp (h5 q ns wf cf l R G B ζ b v x qu n i hi lamp hl h hh) w hw
section
def yG(p:Pc):Aa:=[0,1,2,3].all λi=>(p.cut.getD i []==Lk (wN p i))&&((WI i).contains (wN p i)&&L9.any λj=>Aw (mB p i j) 2)
structure Yt(a b:Nat):Prop where
 f7:∀sc nu gr qu ot f wh,(Qr a b).map (F7 sc nu gr qu ot f wh)=(Qr a b).map (G7 sc nu gr qu ot f wh)
 zE:∀sc nu gr qu ot,(([0,1,2,3]:List Nat).map λf=>(Qr a b).map (zx sc nu gr qu ot f))=[0,1,2,3].map λf=>(Qr a b).map (zy sc nu gr qu ot f)
 ub:∀sc nu qu ot f wh g Lt b',(([0,1,2,3]:List Nat).map λi=>(Qr a b).map (yt sc nu qu ot f wh g Lt b' i))=[0,1,2,3].map λi=>(Qr a b).map (yu ot f g Lt b' i)
 zF:∀sc nu qu ot f wh g Lt b',(Qr a b).map (zC sc nu qu ot f wh g Lt b')=(Qr a b).map (zD sc nu qu ot f wh g Lt b')
 ck:((Qr a b).all λp=>Yp p&&(Yq p&&yG p))=true
theorem y00:Yt 0 0:=⟨⋯,⋯,⋯,⋯,⋯⟩
theorem y01:Yt 0 1:=⟨⋯,⋯,⋯,⋯,⋯⟩
theorem y02:Yt 0 2:=⟨⋯,⋯,⋯,⋯,⋯⟩
theorem y03:Yt 0 3:=⟨⋯,⋯,⋯,⋯,⋯⟩
theorem y04:Yt 0 4:=⟨⋯,⋯,⋯,⋯,⋯⟩
theorem y10:Yt 1 0:=⟨⋯,⋯,⋯,⋯,⋯⟩
theorem y11:Yt 1 1:=⟨⋯,⋯,⋯,⋯,⋯⟩
theorem y12:Yt 1 2:=⟨⋯,⋯,⋯,⋯,⋯⟩
theorem y13:Yt 1 3:=⟨⋯,⋯,⋯,⋯,⋯⟩
theorem y14:Yt 1 4:=⟨⋯,⋯,⋯,⋯,⋯⟩
theorem y20:Yt 2 0:=⟨⋯,⋯,⋯,⋯,⋯⟩
theorem y21:Yt 2 1:=⟨⋯,⋯,⋯,⋯,⋯⟩
theorem y22:Yt 2 2:=⟨⋯,⋯,⋯,⋯,⋯⟩
theorem y23:Yt 2 3:=⟨⋯,⋯,⋯,⋯,⋯⟩
theorem y24:Yt 2 4:=⟨⋯,⋯,⋯,⋯,⋯⟩
end
theorem yT:∀a,a<3->∀b,b<5->Yt a b:=M8 (P:=λa=>∀b,b<5->Yt a b) (tH y00 y01 y02 y03 y04) (tH y10 y11 y12 y13 y14) (tH y20 y21 y22 y23 y24)
section
structure Wt(lamp h:Nat):Prop where
 n:∀q ns wf cf l R G B ζ b v x qu,(WI 0).map (iP q ns wf cf l R G B ζ b v x qu none 0 lamp h)=(WI 0).map (iQ q ns wf cf l R G B ζ b v x qu none 0 lamp h)
 a0:∀q ns wf cf l R G B ζ b v x qu t,(WI 0).map (iP q ns wf cf l R G B ζ b v x qu (some t) 0 lamp h)=(WI 0).map (iQ q ns wf cf l R G B ζ b v x qu (some t) 0 lamp h)
 a1:∀q ns wf cf l R G B ζ b v x qu t,(WI 1).map (iP q ns wf cf l R G B ζ b v x qu (some t) 1 lamp h)=(WI 1).map (iQ q ns wf cf l R G B ζ b v x qu (some t) 1 lamp h)
 a2:∀q ns wf cf l R G B ζ b v x qu t,(WI 2).map (iP q ns wf cf l R G B ζ b v x qu (some t) 2 lamp h)=(WI 2).map (iQ q ns wf cf l R G B ζ b v x qu (some t) 2 lamp h)
 a3:∀q ns wf cf l R G B ζ b v x qu t,(WI 3).map (iP q ns wf cf l R G B ζ b v x qu (some t) 3 lamp h)=(WI 3).map (iQ q ns wf cf l R G B ζ b v x qu (some t) 3 lamp h)
theorem w00:Wt 0 0:=⟨⋯,⋯,⋯,⋯,⋯⟩
theorem w01:Wt 0 1:=⟨⋯,⋯,⋯,⋯,⋯⟩
theorem w02:Wt 0 2:=⟨⋯,⋯,⋯,⋯,⋯⟩
theorem w10:Wt 1 0:=⟨⋯,⋯,⋯,⋯,⋯⟩
theorem w11:Wt 1 1:=⟨⋯,⋯,⋯,⋯,⋯⟩
theorem Acr:Wt 1 2:=⟨⋯,⋯,⋯,⋯,⋯⟩
theorem w20:Wt 2 0:=⟨⋯,⋯,⋯,⋯,⋯⟩
theorem w21:Wt 2 1:=⟨⋯,⋯,⋯,⋯,⋯⟩
theorem w22:Wt 2 2:=⟨⋯,⋯,⋯,⋯,⋯⟩
end
theorem w12:∀q ns wf cf l R G B ζ b v x qu i,i<4->∀lamp,lamp<3->∀h,h<3->∀r,(r=none->i=0)->(WI i).map (iP q ns wf cf l R G B ζ b v x qu r i lamp h)=(WI i).map (iQ q ns wf cf l R G B ζ b v x qu r i lamp h):=by
 intro q ns wf cf l R G B ζ b v x qu i hi lamp hl h hh r hr
 have w:=M8 (P:=λlamp=>∀h,h<3->Wt lamp h) (M8 w00 w01 w02) (M8 w10 w11 Acr) (M8 w20 w21 w22) lamp hl h hh
 cases r with
 |none=>
  cases hr rfl
  exact w.n ..
 |some t=>exact VA (P:=λi=>(WI i).map (iP q ns wf cf l R G B ζ b v x qu (some t) i lamp h)=(WI i).map (iQ q ns wf cf l R G B ζ b v x qu (some t) i lamp h)) (w.a0 ..) (w.a1 ..) (w.a2 ..) (w.a3 ..) i hi
section
noncomputable def sg2(lamp:Nat):List Nat:=([114,103,98,114].drop lamp).take 2
def zI:List (List Nat):=[]::W3
def ud(w:List Nat)(lamp h:Nat):AV:=.tup [.int (((C7 10 (ML w lamp h)).getLastD []).length:Nat),sL (ML w lamp h)]
def pgA(w:List Nat)(lamp h:Nat):List AV:=[sL w,sL (sg2 lamp),.int h]
def i8(lo:Lo)(o:Ab (Rt AV)):Ab Rx:=(o.bind λx=>(Ua (ev 114) A6 lo x (gN (BV (db 5))) (Eb (BV (db 5)))).bind λy=>some (⟨y.v.2,y.S⟩ :Rt Aa)).bind λx=>cond x.v (Xs (ev 115) A6 lo x.S (B3 (db 5))) (Xs (ev 115) A6 lo x.S (lR (db 5)))
def loP5(wf cf:Nat->AV)(l:B8)(R G B:List Nat)(v:Nat->AV)(x:X5)(qu:Int)(n:AV)(i lamp h:Nat)(w d:List Nat)(tw ah:AV):Lo:=bH (vD v qu (s9 cf i tw)) l R G B x (.int h) (sL (Nr lamp)) (sL d) (.int lamp) ah (some n)
structure Vt(lamp h:Nat):Prop where
 p:∀H b,zI.map (λw=>IK (ev 113) 279 (pgA w lamp h) ⟨H,b⟩)=zI.map λw=>some ⟨ud w lamp h,⟨H,b⟩⟩
 k0:∀q ns wf cf l R G B ζ b v x qu n w d tw ah,(ev 116).X A6 (loP5 wf cf l R G B v x qu n 0 lamp h w d tw ah) ⟨HD q w ns wf l R G B ζ lamp 0,b⟩ (db 5)=i8 (loP5 wf cf l R G B v x qu n 0 lamp h w d tw ah) (IK (ev 113) 279 (pgA w lamp h) ⟨HD q w ns wf l R G B ζ lamp 0,b⟩)
 e0:∀q ns wf cf l R G B ζ b v x qu n,(WI 0).map (λw=>i8 (loP5 wf cf l R G B v x qu n 0 lamp h w (ML w lamp h) (I6 (Lk w)) (sL (VM w lamp))) (some ⟨ud w lamp h,⟨HD q w ns wf l R G B ζ lamp 0,b⟩⟩))=(WI 0).map (G5 q ns wf cf l R G B ζ b v x qu n 0 lamp h)
 kb:∀q ns wf cf l R G B ζ b v x qu n w d tw ah,(ev 116).X A6 (loP5 wf cf l R G B v x qu n 1 lamp h w d tw ah) ⟨HD q w ns wf l R G B ζ lamp 1,b⟩ (db 5)=i8 (loP5 wf cf l R G B v x qu n 1 lamp h w d tw ah) (IK (ev 113) 279 (pgA w lamp h) ⟨HD q w ns wf l R G B ζ lamp 1,b⟩)
 e1:∀q ns wf cf l R G B ζ b v x qu n,(WI 1).map (λw=>i8 (loP5 wf cf l R G B v x qu n 1 lamp h w (ML w lamp h) (I6 (Lk w)) (sL (VM w lamp))) (some ⟨ud w lamp h,⟨HD q w ns wf l R G B ζ lamp 1,b⟩⟩))=(WI 1).map (G5 q ns wf cf l R G B ζ b v x qu n 1 lamp h)
 k2:∀q ns wf cf l R G B ζ b v x qu n w d tw ah,(ev 116).X A6 (loP5 wf cf l R G B v x qu n 2 lamp h w d tw ah) ⟨HD q w ns wf l R G B ζ lamp 2,b⟩ (db 5)=i8 (loP5 wf cf l R G B v x qu n 2 lamp h w d tw ah) (IK (ev 113) 279 (pgA w lamp h) ⟨HD q w ns wf l R G B ζ lamp 2,b⟩)
 e2:∀q ns wf cf l R G B ζ b v x qu n,(WI 2).map (λw=>i8 (loP5 wf cf l R G B v x qu n 2 lamp h w (ML w lamp h) (I6 (Lk w)) (sL (VM w lamp))) (some ⟨ud w lamp h,⟨HD q w ns wf l R G B ζ lamp 2,b⟩⟩))=(WI 2).map (G5 q ns wf cf l R G B ζ b v x qu n 2 lamp h)
 k3:∀q ns wf cf l R G B ζ b v x qu n w d tw ah,(ev 116).X A6 (loP5 wf cf l R G B v x qu n 3 lamp h w d tw ah) ⟨HD q w ns wf l R G B ζ lamp 3,b⟩ (db 5)=i8 (loP5 wf cf l R G B v x qu n 3 lamp h w d tw ah) (IK (ev 113) 279 (pgA w lamp h) ⟨HD q w ns wf l R G B ζ lamp 3,b⟩)
 e3:∀q ns wf cf l R G B ζ b v x qu n,(WI 3).map (λw=>i8 (loP5 wf cf l R G B v x qu n 3 lamp h w (ML w lamp h) (I6 (Lk w)) (sL (VM w lamp))) (some ⟨ud w lamp h,⟨HD q w ns wf l R G B ζ lamp 3,b⟩⟩))=(WI 3).map (G5 q ns wf cf l R G B ζ b v x qu n 3 lamp h)
theorem Acs:Vt 0 0:=⟨⋯,⋯,⋯,⋯,⋯,⋯,⋯,⋯,⋯⟩
theorem Acu:Vt 0 1:=⟨⋯,⋯,⋯,⋯,⋯,⋯,⋯,⋯,⋯⟩
theorem Acv:Vt 0 2:=⟨⋯,⋯,⋯,⋯,⋯,⋯,⋯,⋯,⋯⟩
theorem Acw:Vt 1 0:=⟨⋯,⋯,⋯,⋯,⋯,⋯,⋯,⋯,⋯⟩
theorem Acx:Vt 1 1:=⟨⋯,⋯,⋯,⋯,⋯,⋯,⋯,⋯,⋯⟩
theorem Acy:Vt 1 2:=⟨⋯,⋯,⋯,⋯,⋯,⋯,⋯,⋯,⋯⟩
theorem Acz:Vt 2 0:=⟨⋯,⋯,⋯,⋯,⋯,⋯,⋯,⋯,⋯⟩
theorem AcA:Vt 2 1:=⟨⋯,⋯,⋯,⋯,⋯,⋯,⋯,⋯,⋯⟩
theorem AcB:Vt 2 2:=⟨⋯,⋯,⋯,⋯,⋯,⋯,⋯,⋯,⋯⟩
end
theorem w40:∀i,i<4->∀w,w∈WI i->w∈zI:=VA (P:=λi=>∀w,w∈WI i->w∈zI) ⋯ ⋯ ⋯ ⋯
theorem w5:∀q ns wf cf l R G B ζ b v x qu n i,i<4->∀lamp,lamp<3->∀h,h<3->(WI i).map (F5 q ns wf cf l R G B ζ b v x qu n i lamp h)=(WI i).map (G5 q ns wf cf l R G B ζ b v x qu n i lamp h):=by
 intro q ns wf cf l R G B ζ b v x qu n i hi lamp hl h hh
 have y:=M8 (P:=λlamp=>∀h,h<3->Vt lamp h) (M8 Acs Acu Acv) (M8 Acw Acx Acy) (M8 Acz AcA AcB) lamp hl h hh
 have k:=VA (P:=λi=>∀q ns wf cf l R G B ζ b v x qu n w d tw ah,(ev 116).X A6 (loP5 wf cf l R G B v x qu n i lamp h w d tw ah) ⟨HD q w ns wf l R G B ζ lamp i,b⟩ (db 5)=i8 (loP5 wf cf l R G B v x qu n i lamp h w d tw ah) (IK (ev 113) 279 (pgA w lamp h) ⟨HD q w ns wf l R G B ζ lamp i,b⟩)) y.k0 y.kb y.k2 y.k3 i hi
 have e:=VA (P:=λi=>∀q ns wf cf l R G B ζ b v x qu n,(WI i).map (λw=>i8 (loP5 wf cf l R G B v x qu n i lamp h w (ML w lamp h) (I6 (Lk w)) (sL (VM w lamp))) (some ⟨ud w lamp h,⟨HD q w ns wf l R G B ζ lamp i,b⟩⟩))=(WI i).map (G5 q ns wf cf l R G B ζ b v x qu n i lamp h)) y.e0 y.e1 y.e2 y.e3 i hi
 exact(LA λw hw=>(k ..).trans (Ai (i8 _) (LC.mp (y.p _ b) w (w40 i hi w hw)))).trans (e ..)
theorem plain_all(xs:List Int)(h:xs.length<=63):∃S,ak 118 xs=some ⟨.bool true,S⟩/\S.ob=true:=
 i0 (λa b _ ha hb hc=>have y:=yT a ha b hb;mP hc y.f7 y.zE y.ub y.zF) (λa b _ ha hb hc _ hg=>tG (tJ hc (yT a ha b hb).ck) (tK w12 w5) hg) xs h
end
end
end Internal.Mine
theorem PySem.Challenge.cw_jc0041_01_holds : PySem.Challenge.rw_jc0041_01.Holds :=
 Internal.Mine.gM Internal.Mine.plain_all
