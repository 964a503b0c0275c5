import PyProof.Rows.All
import Wide.All
import OpenK.AllK
import Wide.FinOn
import Flt.Calls
import Lean
import PySem.Challenge.RW_jc0041_01
set_option maxRecDepth 100000
set_option maxHeartbeats 4000000
set_option Elab.async false
set_option linter.all false
set_option tactic.hygienic false
set_option backward.match.sparseCases false
set_option compiler.extract_closed false
set_option bootstrap.genMatcherCode false
set_option genCtorIdx false
set_option genSizeOf false
set_option genInjectivity false
namespace Internal.Mine
local macro_rules | `(⋯) => `(by first | kernel_rfl | decide | decide +kernel | (intros; kernel_rfl))
open Array renaming length_toList->Dt,toList_append->Lv,perm_iff_toList_perm->Q0,eq_empty_of_size_eq_zero->VO,getElem?_toList->Q1,toList_inj->NP,getElem?_eq_getElem->VP,size_setIfInBounds->VQ,toArray_toList->VR,getD_eq_getD_getElem?->bH
open Bool renaming false_ne_true->BI,eq_false_iff->Gx,casesOn->Ei,and_eq_true->HQ,and_eq_true_iff->Lw,or_eq_false_iff->NQ,and_true->NR,or_eq_true_iff->VS,and_false->Q2,not_eq_true'->VT,noConfusion->VU,rec->JN,or_false->VV
open Int renaming le_trans->BA,natAbs_mul->CC,natAbs_add_le->E0,ofNat_le->DM,sub_mul->Dj,natCast_nonneg->HF,zero_mul->DW,le_of_lt->Ed,mul_le_mul_of_nonneg_right->Qr,zero_add->Dn,ofNat_lt->DB,le_refl->DC,add_zero->Ej,mul_assoc->Fc,fmod_eq_emod_of_nonneg->NS,fdiv_eq_ediv_of_nonneg->NT,not_lt->DD,compare_eq_lt->JO,mul_one->Fd,emod_lt_of_pos->Lx,natAbs_natCast->Ly,add_mul->F2,not_le->Fe,one_mul->GU,mul_comm->HR,emod_nonneg->Lz,compare_eq_gt->NU,toNat_natCast->NV,toNat_of_nonneg->Q3,neg_nonneg_of_nonpos->VW,natAbs_sub_le->Q4,compare_eq_eq->Q5,natAbs_pos->NW,mul_ediv_add_emod->VX,add_le_add_right->VY,sub_le_sub_right->VZ,natCast_mul->Q6,ofNat_natAbs_of_nonpos->bI,lt_of_mul_lt_mul_right->bJ,lt_of_le_of_lt->V0,lt_trichotomy->V1,mul_add->NX,neg_mul->NY,dvd_of_emod_eq_zero->bK,eq_ofNat_of_zero_le->bL,ofNat->LA,le_total->Q7,le_of_eq->Q8,natCast_pow->V2,sub_nonneg_of_le->bN,natAbs_of_nonneg->bO,pow_add->Q9,ediv_mul_cancel->bP,add_assoc->V3,lt_trans->V4,sub_self->V5,mul_zero->V6,mul_sub->V7
open List renaming length_map->AY,mem_cons->Bc,length_append->BO,append->A8,all_eq_true->BV,mem_singleton->CL,mem_cons_self->CT,mem_cons_of_mem->Ee,lookup_cons->Dk,casesOn->B9,getD_eq_getElem?_getD->HG,mem_map->CD,append_nil->DX,getElem?_eq_getElem->HU,pairwise_cons->FK,range->Cn,append_assoc->FL,forIn_cons->FO,replicate->FP,nodup_cons->ED,lookup->C2,take_append_drop->H4,getElem?_eq_none->H5,getElem?_map->F3,length_range->GV,mem_range->Ff,map_cons->EF,length_set->F4,getElem?_eq_some_iff->NZ,mem_append_right->LB,filterMap_cons->LC,map_congr_left->LD,map_map->F6,any_eq_true->JP,length_cons->JQ,mem_flatMap->JR,getElem?_append_left->Ra,mem_filter->JS,mem_append_left->N0,size_toArray->LF,map_inj_left->LH,getElem_map->LI,mem_append->LJ,map_append->LK,getElem?_set_ne->Rb,forIn_nil->LL,not_mem_nil->N1,toList_toArray->Rc,sum_cons->LM,getElem_range->Rd,filterMap_map->Rf,take_succ_eq_append_getElem->bQ,take_of_length_le->V8,contains_iff_mem->V9,length_drop->Rg,ext_getElem->Rh,map_drop->N2,length_nil->Ri,getElem?_concat_length->bR,getElem?_eq_none_iff->bS,take_length->Wa,range_succ_eq_map->bT,getElem?_set_self->bU,length_filter_le->bV,dropLast_eq_take->bW,mem_of_getElem?->bZ,nodup_nil->Wb,getElem?_range->b7,mem_map_of_mem->b8,length_reverse->b9,any_cons->Wc,contains_cons->cj,zip_cons_cons->cq,toArray->Wd,rec->N3,Perm->Rj,drop->Rk
open Nat renaming le_trans->AA,le_refl->AP,le_of_ble_eq_true->Bn,eq_of_beq_eq_true->Cb,beq->Aw,lt_of_lt_of_le->BW,le_add_right->BF,le_of_eq->Bo,lt_of_le_of_lt->CE,lt_succ_self->CF,add_le_add->B5,mul_le_mul_right->Ef,div_add_mod->Du,zero_le->Co,ble->Bf,mul_comm->Dv,le_succ->Dw,mul_le_mul_left->JA,mod_lt->Dx,two_pow_pos->EG,add_le_add_left->GW,one_mul->C3,le_of_lt->DY,ble_eq_true_of_le->JT,not_lt_zero->F8,mul_assoc->Fg,lt_of_succ_lt_succ->LN,lt_trans->EH,ne_of_lt->EI,not_le_of_lt->H7,lt_irrefl->F9,le_succ_of_le->JU,le_add_left->H8,add_comm->Ga,max_eq_right->JV,lt_of_mul_lt_mul_right->Rl,not_lt->EJ,max_eq_left->JW,le_mul_of_pos_right->Rm,le_max_right->LO,zero_add->Ia,beq_refl->Ib,zero_mul->Ic,le_max_left->LP,lt_succ_of_lt->N5,le_of_mul_le_mul_right->We,add_le_add_right->Rn,le_of_not_lt->N6,lt_add_of_pos_right->Wf,pow_add->JX,succ->Gb,eq_of_testBit_eq->Wg,add_mul->LQ,casesOn->LR,testBit_and->Ro,le_antisymm->Rp,testBit_two_pow_mul_add->cu,succ_pos->N7,mul_lt_mul_of_pos_left->cy,mul_right_comm->Wh,cast->Ie,shiftRight_eq_div_pow->cz,le_of_succ_le->Wi,le_of_lt_succ->Wj,mul_one->N8,succ_le_succ->Wk,testBit_shiftRight->cA,le_mul_of_pos_left->cC,lt_or_ge->Rq,le_total->Rr,le_of_sub_eq_zero->cD,pow_le_pow_right->cF,add_right_cancel->cH,testBit_or->Wl,mul_le_mul->Wm,add_lt_add_left->cI,add_eq_zero_iff->cJ,blt_eq->Ru,sub_self->Wo,sub_zero->Wp,log2_lt->Wq,blt->N9
open PyProof.Rows renaming kwAll_nil->JY,lt_int->Rv,bubble->Rw,seqObj->DZ,step_dedup->LS,tail_any->Ig,listUpdate_at->Ry,accN->Cc,IsTup->Ek,subscriptTail->Wr
open PySem renaming wpAny_bind->Ac,wpAny_pure->An,Value->Ad,wpAny->Ae,Shared->Aj,wpAny_mono->AJ,wpAny_holding->BE,Addr->Ah,Around->AG,wpAny_newObj_type->Ew,wpAny_of_eq->Ci,wpAny_standAt->DN,Builtin->Bk,NameKind->BX,builtinsNs->C4,mainGlobals->DO,model->AW,wpAny_field->D0,wpAt_of_wpAny->JB,wpAny_seqItems->FQ,partValue->CU,wpAny_updateSeq->EK,Heap->Ay,Stmt->Az,builtinKind->Dp,seqIndex?->Cp,sizeLine->BY,ks_wpAt_execs_cons->Ih,wpAny_call_entry->GY,wpAny_call->DE,slot_listiter_next->JZ,wpAny_isInstance->Ii,plainId_quiet->Gc,wpAny_callSpecial?_slot->Oa,wpAny_attempt->GZ,keywordEach->Fh,typeIs_int->EL,wpAny_specialOf->J0,slot_list_getitem->LU,arm_isTrue_BoolOp->LV,wpAny_rule->Gd,Program->Dq,codeAny_builtin->LW,methodCallPos->J1,codeAny_call_builtin->Rz,checkBoundCall->LX,wpAny_newTuple->LY,wpAny_listPart->LZ,sizeLine_eq->Ij,FuncBody->EM,typeOf->CR,Scope->BQ,checkBuiltinCall->Ob,entryFor_of_tree->Oc,Arguments->Ge,ks_wpAt_Return_some->RA,argsOk->C5,swappedStores->L4,backToKw->Fi,wpAny_setField_rec->RB,isInstance->Ik,call_meets->Il,Fin->G3,wpAny_pyIter_list->RC,slot_list_setitem->RD,wpAny_truthy_bool->RE,newFunctionEnv->Od,methodCallForm->Oe,wpAny_typeOf->L5,Keyword->EN,codeAny->EO,argBest->ER,clipAt->DF,wpAny_pyIter_listiter->Ws,slot_list_append->RF,typeIs_str->J2,specialOf->Im,storeName->Io,rawInt->D1,wpAny_newList->Of,behindInMarks->Og,wpAny_letTemporaryGo->Wu,wpAny_loadName_local->Wv,wpAny_letGo->L6,starEach->G4,codeAny_of_tree->RG,wpAt_bind->RH,isSubtype->J4,call_function_tree->Ww,wpAny_loadPart->RI,wpAny_setField->RJ,wpAt->L8,closureFor->Ma,methodCall->Mb,entryFor->Ip,FuncData->Iq,nsFind->ES,getMethod_builtin->Wx,entry_list_append->Wy,subscripted->Oh,OsState->G6,splitId->G8,World->DG,wpAny_getItem_list_slice->cK,annotationsOf->RK,arm_eval_Call->RL,Comprehension->RM,pyIter->Fj,codeAny_call_builtin_at->cL,wpAny_listSubscript_int->cM,sub_int_bytearray->cN,arm_allTrue_cons->Wz,args_list_append->WA,codeAmong->Mc,isTrue->RN,wpAny_mkText->RO,fastLookup->Oi,wpAny_load->Oj,letOwnedTupleGo->WB,wpAny_execs_nil->WC,wpAny_bindName->WD,wpAny_tryCatch->WE,unsupported->RP,GenState->Md,compareOp->Ol,getMethod->Om,notedBy->J5,sub_int_bytes->cO,wpAny_add_int->WG,evalPart_none->WH,refuseLoop->RQ,assignEach->RS,call->RT,sub_int_str->cQ,cStatics->Oo,getItem->Me,swapsWith->RU,DictEntry->RV,ScopeKind->RW,slicePick->RX,backTo->J6,CmpOp->G9,CmpOf->Ha,IsZip->Ir,table->It
open PySem.AutoFloatOps renaming lt_0->cS,gt_0->cT
open PySem.Builtin renaming bitAnd->Gf,bitXor->Oq,bitNot->Ot,divisionGoesByPylong->cU
open PySem.Builtin.List renaming listFitsIndex->Ou,listSubscript?->WJ,listTooLong->WK,listSameRef->cV
open PySem.Builtin.Range renaming rangeSize->E4,small->RY,rangeFitsLong->cW
open PySem.Builtin.Str renaming occurrences->Ov,strKind->RZ
open PySem.Challenge renaming rw_jc0041_01->WL,pw_jc0041_01->cX
open PySem.F renaming plain_sum_loop->J8,slot_list_getattribute->R1,slot_str_split->R2,called_range->R3,ks_slot_super_ga->WM,args_str_split_2->WN,entry_str_split->WO,args_list_getattribute_2->cY,slot_tuple_iterator_next->cZ,slot_list_extend->c5,slot_list_insert->c6,plain_list_iadd->c8,entry_range_new->c9,slot_list_index->da,entry_sum_loop->dc,plainAttrs_str->de,plain_list_new->df,slot_str_join->dh,entry_zip_new->di,store_object->dj,called_zip->dk
open PySem.Float64 renaming sub->Bg,mul->Cq,div->Cr,add->Dl,ofInt->DH,isZero->Gg,cmpInt->Gh,cmp->Em,isFinite->Iu,nearestOf->Mf,ofInt->BG,val->Mg,dist->BN,ofFrac->WQ,nearestOf->Ow,isZero->Iv,decode->J9,shift->Iw,fmod->ET
open PySem.Heap renaming get?_push_size->Bp,get?_push_of_some->B6,get?_update_other->JC,get?_update_self->KC,lt_size->Ex,SameBut->Hb,ExtBut->Hc,size_push->Mh,IsSliceOf->WR
open PySem.Obj renaming mapSeq->C6,data_mapFields->R4,isFreed_of_fields->dm
open PySem.Str renaming ofString->Gi,ofString_eq_toList->dq,join->R5
open PySem.Txt renaming split->Ka,slice->Ox,join->Oy
open PySem.Value renaming ref->Bq,none->D2,type->Fk,str->EU,int->Kb,casesOn->R6,builtin->R7
open PySem.W renaming looks_findIn->Dr,findIn->A7,Looks->AR,emptyDict->Cs,Frag->AI,clsIn->Iy,looks_mroIn->Iz,callWith_of->IA,tabObj->D3,check_slot->Mi,typeIn->EV,looks_clsIn->Oz,methodObj->OA,specialIn->OB,hasDictIn->OC,ownOf->WS,instObj->Mj,alongIn->Mk,mroIn->IB
open _root_ renaming And.intro->Fl,And.left->Fo,Classical.em->DI,Classical.byContradiction->dr,Eq.trans->Hd,Exists.elim->AH,Exists.imp->WT,ForInStep.yield->Gj,List.Nodup.length_le_of_subset->R8,List.cons.inj->Gk,Nat.succ.inj->He,Option.casesOn->BK,Option.bind_some->Gy,Option.some.inj->AQ,Prod.mk.inj->Hf,Pure.pure->R9,PySem.Around.under_plainId->Kc,PySem.AutoSeq1.wpAny_loadPart'->dt,PySem.Builtin.Int.intBits->Dy,PySem.Builtin.SmallTypes.nextOf->Sa,PySem.Calls.spliced_cons->IC,PySem.Calls.spliced_nil->Ml,PySem.Code.quiet_builtin->du,PySem.Data.seq->Sb,PySem.Env.kindOf->Sg,PySem.Expr.casesOn->Hg,PySem.Flt.toInt->EW,PySem.Flt.Over->dv,PySem.Heap.SameBut.update->Mm,PySem.Manifest.signature?->dw,PySem.Moved.trans->WU,PySem.NameKind.local->Sh,PySem.StrLaws.glued_eq_join->WV,PySem.Value.ref.inj->CV,PySem.W.KasT.kasWp_bind->OD,PySem.W.Looks.ld->D4,PySem.W.Looks.at->Kd,PySem.callAny.viaDunder->dA,Option->Ab,congrArg->Ai,of_decide_eq_true->Bi,Bool->Aa,decide_eq_true->AU,UInt64->Al,if_neg->AD,decide_eq_false->Ct,absurd->AL,Array->AE,if_pos->Bh,String->A3,decide_eq_true_eq->Gl,beq_self_eq_true->Ke,of_decide_eq_false->Mn,ForInStep->En,decide_eq_decide->OE,decide_eq_false_iff_not->WW,False->Cd,beq_false_of_ne->Si,Unit->Ce,PUnit->EX,or_false->OF,Decidable->Sj
noncomputable section
section
set_option genInjectivity false
set_option genSizeOf false
namespace Ar
inductive X where
 |v (i:Nat) | c (k:Nat) | ci (k:Int) | add (a b:X) | sub (a b:X) | mn (k:Nat) (a:X) | mi (k:Int) (a:X) | rn (a:X) (k:Nat) | ri (a:X) (k:Int)
 |neg (a:X) | abs (a:X) | tn (a:X) | ca (a:X) | min (a b:X) | max (a b:X)
noncomputable def tI:List Int->Nat->Int
 |[],_=>0
 |a::l,i=>match i with | 0=>a | i+1=>tI l i
noncomputable def oY:List Nat->Nat->Nat
 |[],_=>0
 |a::l,i=>match i with | 0=>a | i+1=>oY l i
mutual
def X.N(is:List Int)(ns:List Nat):X->Nat
 |.v i=>oY ns i
 |.c k=>k
 |.ci _=>0
 |.add a b=>a.N is ns+b.N is ns
 |.sub a b=>a.N is ns-b.N is ns
 |.mn k a=>k*a.N is ns
 |.mi _ _=>0
 |.rn a k=>a.N is ns*k
 |.ri _ _=>0
 |.neg _=>0
 |.abs a=>(a.Z is ns).natAbs
 |.tn a=>(a.Z is ns).toNat
 |.ca _=>0
 |.min a b=>Min.min (a.N is ns) (b.N is ns)
 |.max a b=>Max.max (a.N is ns) (b.N is ns)
def X.Z(is:List Int)(ns:List Nat):X->Int
 |.v i=>tI is i
 |.c _=>0
 |.ci k=>k
 |.add a b=>a.Z is ns+b.Z is ns
 |.sub a b=>a.Z is ns-b.Z is ns
 |.mn _ _=>0
 |.mi k a=>k*a.Z is ns
 |.rn _ _=>0
 |.ri a k=>a.Z is ns*k
 |.neg a => -a.Z is ns
 |.abs _=>0
 |.tn _=>0
 |.ca a=>((a.N is ns:Nat):Int)
 |.min a b=>Min.min (a.Z is ns) (b.Z is ns)
 |.max a b=>Max.max (a.Z is ns) (b.Z is ns)
end
structure Lf where
 l:List Int
 k:Int
noncomputable def OG:List Int->List Int->List Int
 |[],m=>m
 |a::l,m=>match m with | []=>a::l | b::m=>(a+b)::OG l m
def Lf.add(p q:Lf):Lf:=⟨OG p.l q.l,p.k+q.k⟩
def Lf.mul(x:Int)(p:Lf):Lf:=⟨p.l.map (x * ·),x*p.k⟩
def Lf.sub(p q:Lf):Lf:=p.add (q.mul (-1))
noncomputable def un:Nat->Aa->List Int
 |0,z=>cond z [1] [0,1]
 |i+1,z=>0::0::un i z
abbrev Alt:=List Lf×Lf
noncomputable def con(k:Int):Lf:=⟨[],k⟩
noncomputable def a1(f:Lf->List Alt)(xs:List Alt):List Alt:=xs.flatMap λp=>(f p.2).map λq=>(q.1++p.1,q.2)
noncomputable def a2(f:Lf->Lf->List Alt)(xs ys:List Alt):List Alt:=xs.flatMap λp=>ys.flatMap λq=>(f p.2 q.2).map λr=>(r.1++(p.1++q.1),r.2)
def X.al:X->Aa->List Alt
 |.v i,z=>[([],⟨un i z,0⟩)]
 |.c k,z=>[([],con (cond z 0 k))]
 |.ci k,z=>[([],con (cond z k 0))]
 |.add a b,z=>a2 (λp q=>[([],p.add q)]) (a.al z) (b.al z)
 |.sub a b,z=>a2 (λp q=>cond z [([],p.sub q)] [([p.sub q],p.sub q),([q.sub p],con 0)]) (a.al z) (b.al z)
 |.mn k a,z=>a1 (λp=>[([],p.mul (cond z 0 k))]) (a.al z)
 |.mi k a,z=>a1 (λp=>[([],p.mul (cond z k 0))]) (a.al z)
 |.rn a k,z=>a1 (λp=>[([],p.mul (cond z 0 k))]) (a.al z)
 |.ri a k,z=>a1 (λp=>[([],p.mul (cond z k 0))]) (a.al z)
 |.neg a,z=>a1 (λp=>[([],p.mul (cond z (-1) 0))]) (a.al z)
 |.abs a,z=>cond z [([],con 0)] (a1 (λp=>[([p],p),([p.mul (-1)],p.mul (-1))]) (a.al true))
 |.tn a,z=>cond z [([],con 0)] (a1 (λp=>[([p],p),([p.mul (-1)],con 0)]) (a.al true))
 |.ca a,z=>cond z (a.al false) [([],con 0)]
 |.min a b,z=>a2 (λp q=>[([q.sub p],p),([p.sub q],q)]) (a.al z) (b.al z)
 |.max a b,z=>a2 (λp q=>[([q.sub p],q),([p.sub q],p)]) (a.al z) (b.al z)
inductive Fm where
 |le (z:Aa) (a b:X) | lt (z:Aa) (a b:X) | eq (z:Aa) (a b:X) | no (f:Fm) | an (f g:Fm) | o (f g:Fm) | im (f g:Fm) | fl
def Fm.P(is:List Int)(ns:List Nat):Fm->Prop
 |.le true a b=>a.Z is ns<=b.Z is ns
 |.le false a b=>a.N is ns<=b.N is ns
 |.lt true a b=>a.Z is ns<b.Z is ns
 |.lt false a b=>a.N is ns<b.N is ns
 |.eq true a b=>a.Z is ns=b.Z is ns
 |.eq false a b=>a.N is ns=b.N is ns
 |.no f=>¬f.P is ns
 |.an f g=>f.P is ns/\g.P is ns
 |.o f g=>f.P is ns\/g.P is ns
 |.im f g=>f.P is ns->g.P is ns
 |.fl=>Cd
noncomputable def cr(xs ys:List (List Lf)):List (List Lf):=xs.flatMap λp=>ys.map λq=>p++q
def cm(z:Aa)(a b:X)(f:Lf->Lf->List (List Lf)):List (List Lf):=(a.al z).flatMap λp=>(b.al z).flatMap λq=>(f p.2 q.2).map λr=>r++(p.1++q.1)
def Fm.dn:Fm->Aa->List (List Lf)
 |.le z a b,t=>cm z a b λp q=>cond t [[q.sub p]] [[(p.sub q).add (con (-1))]]
 |.lt z a b,t=>cm z a b λp q=>cond t [[(q.sub p).add (con (-1))]] [[p.sub q]]
 |.eq z a b,t=>cm z a b λp q=>cond t [[q.sub p,p.sub q]] [[(p.sub q).add (con (-1))],[(q.sub p).add (con (-1))]]
 |.no f,t=>f.dn (!t)
 |.an f g,t=>cond t (cr (f.dn true) (g.dn true)) (f.dn false++g.dn false)
 |.o f g,t=>cond t (f.dn true++g.dn true) (cr (f.dn false) (g.dn false))
 |.im f g,t=>cond t (f.dn false++g.dn true) (cr (f.dn true) (g.dn false))
 |.fl,t=>cond t [] [[]]
def mM:List Int->Int | []=>0 | a::_=>a
noncomputable def psI:Int->Aa | .ofNat n => !Nat.beq n 0 | .negSucc _=>false
def zH:Int->Aa | .ofNat _=>false | .negSucc _=>true
def zrI:Int->Aa | .ofNat n=>Aw n 0 | .negSucc _=>false
def zI:List Int->Aa | []=>true | _::_=>false
def Lf.tl(p:Lf):Lf:=⟨p.l.tail,p.k⟩
noncomputable def fm:Nat->List Lf->Aa
 |0,cs=>cs.any λc=>zI c.l&&zH c.k
 |n+1,cs=>fm n ((cs.filter λc=>zrI (mM c.l)).map Lf.tl++(cs.filter λc=>psI (mM c.l)).flatMap λp=>(cs.filter λc=>zH (mM c.l)).map λq=>(p.tl.mul (-mM q.l)).add (q.tl.mul (mM p.l)))
noncomputable def nonneg:Nat->List Lf
 |0=>[]
 |q+1=>⟨un q false,0⟩::nonneg q
noncomputable def dot(ρ:Nat->Int):Nat->List Int->Int
 |_,[]=>0
 |k,a::l=>a*ρ k+dot ρ (k+1) l
def Lf.ev(ρ:Nat->Int)(k:Nat)(p:Lf):Int:=dot ρ k p.l+p.k
theorem Yq{ρ:Nat->Int}:∀{l m:List Int}{k:Nat},dot ρ k (OG l m)=dot ρ k l+dot ρ k m
 |[],m,k=>(Dn _).symm
 |a::l,[],k=>(Ej _).symm
 |a::l,b::m,k=>by
  show(a+b)*ρ k+dot ρ (k+1) (OG l m)=(a*ρ k+dot ρ (k+1) l)+(b*ρ k+dot ρ (k+1) m)
  rw[Yq,F2];ac_rfl
theorem Yr{ρ:Nat->Int}{x:Int}:∀{l:List Int}{k:Nat},dot ρ k (l.map (x * ·))=x*dot ρ k l
 |[],_=>(V6 x).symm
 |a::l,k=>by
  show x*a*ρ k+dot ρ (k+1) (l.map (x * ·))=x*(a*ρ k+dot ρ (k+1) l)
  rw[Yr,NX,Fc]
section
variable{ρ:Nat->Int}{k:Nat}{p q:Lf}
theorem Sk:(p.add q).ev ρ k=p.ev ρ k+q.ev ρ k:=by
 show dot ρ k (OG p.l q.l)+(p.k+q.k)=(dot ρ k p.l+p.k)+(dot ρ k q.l+q.k)
 rw[Yq];ac_rfl
theorem ID{x:Int}:(p.mul x).ev ρ k=x*p.ev ρ k:=by
 show dot ρ k (p.l.map (x * ·))+x*p.k=x*(dot ρ k p.l+p.k)
 rw[Yr,NX]
theorem Sl:(p.mul (-1)).ev ρ k = -p.ev ρ k:=ID.trans (Int.neg_one_mul _)
theorem Gm:(p.sub q).ev ρ k=p.ev ρ k-q.ev ρ k:=Sk.trans (Ai (p.ev ρ k + ·) Sl)
theorem IE{x:Int}:(con x).ev ρ k=x:=Dn x
theorem mN:p.ev ρ k=mM p.l*ρ k+p.tl.ev ρ (k+1):=by
 cases p with
 |mk l x=>cases l with
  |nil=>show(0:Int)+x=0*ρ k+(0+x);rw[DW,Dn,Dn]
  |cons a l=>exact V3 _ _ _
theorem ps{i:Int}(h:psI i=true): 0<i:=by
 cases i with
 |ofNat n=>cases n with
  |zero=>cases h
  |succ n=>exact Int.natCast_pos.mpr (N7 n)
 |negSucc n=>cases h
theorem ng{i:Int}(h:zH i=true):i<0:=by
 cases i with
 |ofNat n=>cases h
 |negSucc n=>exact Int.negSucc_lt_zero n
theorem zr{i:Int}(h:zrI i=true):i=0:=by
 cases i with
 |ofNat n=>cases n with
  |zero=>rfl
  |succ n=>cases h
 |negSucc n=>cases h
end
def Ys(ρ:Nat->Int)(k:Nat)(cs:List Lf):Prop:=∀c∈cs,0<=c.ev ρ k
theorem Ys.app{ρ:Nat->Int}{k:Nat}{a b:List Lf}(h:Ys ρ k a)(h':Ys ρ k b):Ys ρ k (a++b):=λc m=>(LJ.mp m).elim (h c) (h' c)
theorem Ys.cons{ρ:Nat->Int}{k:Nat}{a:Lf}{b:List Lf}(h: 0<=a.ev ρ k)(h':Ys ρ k b):Ys ρ k (a::b):=λc m=>(Bc.mp m).elim (λe=>e▸h) (h' c)
theorem Ys.nil{ρ:Nat->Int}{k:Nat}:Ys ρ k []:=λ_ m=>nomatch m
theorem mP{ρ:Nat->Int}:∀{n k:Nat}{cs:List Lf},fm n cs=true->Ys ρ k cs->Cd
 |0,k,cs,h,o=>by
  refine(JP.mp h).elim λc q=>?_
  have t:=(HQ _ _).mp q.2
  have u:=o c q.1
  cases c with
  |mk l x=>cases l with
   |nil=>exact AL (ng t.2) (DD.mpr ((Dn x)▸u))
   |cons a l=>cases t.1
 |n+1,k,cs,h,o=>by
  refine mP (ρ:=ρ) (n:=n) (k:=k+1) h (Ys.app (ρ:=ρ) (λc m=>?_) λc m=>?_)
  ·refine(CD.mp m).elim λd q=>q.2▸?_
   have t:=JS.mp q.1
   have u:=o d t.1
   rw[mN,zr t.2,DW,Dn] at u
   exact u
  ·refine(JR.mp m).elim λd q=>(CD.mp q.2).elim λe r=>r.2▸?_
   have t:=JS.mp q.1;have t':=JS.mp r.1
   have u:=o d t.1;have u':=o e t'.1
   have x:=ps t.2;have y:=ng t'.2
   rw[mN] at u u'
   rw[Sk,ID,ID]
   generalize mM d.l=a at *;generalize mM e.l=b at*
   have z:=Int.add_nonneg (Int.mul_nonneg (VW (Ed y)) u) (Int.mul_nonneg (Ed x) u')
   rw[NX,NX] at z
   have w: -b*(a*ρ k)+a*(b*ρ k)=0:=by rw[NY,<-Fc,<-Fc,HR b a];exact Int.add_left_neg _
   rw[show -b*(a*ρ k) + -b*d.tl.ev ρ (k+1)+(a*(b*ρ k)+a*e.tl.ev ρ (k+1))=(-b*(a*ρ k)+a*(b*ρ k))+(-b*d.tl.ev ρ (k+1)+a*e.tl.ev ρ (k+1)) by ac_rfl,w,Dn] at z
   exact z
noncomputable def env:List Int->List Nat->Nat->Int
 |is,_,0=>tI is 0
 |_,ns,1=>oY ns 0
 |is,ns,n+2=>env is.tail ns.tail n
theorem oZ:∀{l:List Int}{i:Nat},tI l (i+1)=tI l.tail i
 |[],0=>rfl | [],_+1=>rfl | _::_,_=>rfl
theorem o4:∀{l:List Nat}{i:Nat},oY l (i+1)=oY l.tail i
 |[],0=>rfl | [],_+1=>rfl | _::_,_=>rfl
theorem dB{is:List Int}{ns:List Nat}:∀{l:List Int}{k:Nat},dot (env is ns) (k+2) l=dot (env is.tail ns.tail) k l
 |[],_=>rfl
 |a::l,k=>by
  show a*env is.tail ns.tail k+dot (env is ns) (k+1+2) l=_
  rw[dB];rfl
theorem WX:∀{i:Nat}{z:Aa}{is:List Int}{ns:List Nat},dot (env is ns) 0 (un i z)=cond z (tI is i) (oY ns i)
 |0,true,is,ns=>(Ej _).trans (GU _)
 |0,false,is,ns=>by
  show(0:Int)*_+(1*((oY ns 0:Nat):Int)+0)=_
  rw[DW,Dn,Ej,GU];rfl
 |i+1,z,is,ns=>by
  show(0:Int)*_+(0*_+dot (env is ns) (0+2) (un i z))=_
  rw[DW,Dn,DW,Dn,dB,WX,oZ,o4]
section
variable{is:List Int}{ns:List Nat}
abbrev ρ0(is:List Int)(ns:List Nat):Nat->Int:=env is ns
def dC(is:List Int)(ns:List Nat)(x:Int)(xs:List Alt):Prop:=∃q∈xs,Ys (env is ns) 0 q.1/\x=q.2.ev (env is ns) 0
theorem Mo{x:Int}{p:Lf}(h:x=p.ev (env is ns) 0):dC is ns x [([],p)]:=⟨_,CL.mpr rfl,.nil,h⟩
theorem dD{x:Int}{p q:Lf}{l:List Alt}(h:x=p.ev (env is ns) 0)(h': 0<=q.ev (env is ns) 0):dC is ns x (([q],p)::l):=⟨_,CT,.cons h' .nil,h⟩
theorem dE{x:Int}{p q:Lf}{a:Alt}(h:x=p.ev (env is ns) 0)(h': 0<=q.ev (env is ns) 0):dC is ns x [a,([q],p)]:=⟨_,Ee _ (CL.mpr rfl),.cons h' .nil,h⟩
theorem Kf{x y:Int}{f:Lf->List Alt}{xs:List Alt}(h:dC is ns x xs)(hf:∀p:Lf,x=p.ev (env is ns) 0->dC is ns y (f p)):dC is ns y (a1 f xs):=
 h.elim λp a=>(hf p.2 a.2.2).elim λq b=>⟨(q.1++p.1,q.2),JR.mpr ⟨p,a.1,CD.mpr ⟨q,b.1,rfl⟩⟩,.app b.2.1 a.2.1,b.2.2⟩
theorem OH{x y w:Int}{f:Lf->Lf->List Alt}{xs ys:List Alt}(h:dC is ns x xs)(h':dC is ns y ys)(hf:∀p q:Lf,x=p.ev (env is ns) 0->y=q.ev (env is ns) 0->dC is ns w (f p q)):dC is ns w (a2 f xs ys):=
 h.elim λp a=>h'.elim λq b=>(hf p.2 q.2 a.2.2 b.2.2).elim λr c=>⟨(r.1++(p.1++q.1),r.2),JR.mpr ⟨p,a.1,JR.mpr ⟨q,b.1,CD.mpr ⟨r,c.1,rfl⟩⟩⟩,.app c.2.1 (.app a.2.1 b.2.1),c.2.2⟩
def X.val(is:List Int)(ns:List Nat)(x:X)(z:Aa):Int:=cond z (x.Z is ns) (x.N is ns)
theorem WY{a b:Int}(h:a<=b): 0<=b-a:=bN h
theorem DP:∀(x:X)(z:Aa),dC is ns (x.val is ns z) (x.al z)
 |.v i,z=>Mo (by cases z<;>exact(WX.trans rfl).symm.trans (Ej _).symm)
 |.c k,z=>Mo (by cases z<;>exact IE.symm)
 |.ci k,z=>Mo (by cases z<;>exact IE.symm)
 |.add a b,z=>OH (DP a z) (DP b z) λp q e e'=>Mo (by rw[Sk,<-e,<-e'];cases z<;>rfl)
 |.sub a b,true=>OH (DP a true) (DP b true) λp q e e'=>Mo (by rw[Gm,<-e,<-e'];rfl)
 |.sub a b,false=>OH (DP a false) (DP b false) λp q e e'=>(Rr (b.N is ns) (a.N is ns)).elim
   (λh=>dD (by rw[Gm,<-e,<-e'];exact Int.natCast_sub h) (by rw[Gm,<-e,<-e'];exact WY (DM.mpr h)))
   λh=>dE (by rw[IE];exact Ai Ie (Nat.sub_eq_zero_of_le h)) (by rw[Gm,<-e,<-e'];exact WY (DM.mpr h))
 |.mn k a,z=>Kf (DP a z) λp e=>Mo (by rw[ID,<-e];cases z with | true=>exact(DW _).symm | false=>rfl)
 |.mi k a,z=>Kf (DP a z) λp e=>Mo (by rw[ID,<-e];cases z with | true=>rfl | false=>exact(DW _).symm)
 |.rn a k,z=>Kf (DP a z) λp e=>Mo (by rw[ID,<-e];cases z with | true=>exact(DW _).symm | false=>exact(Q6 (a.N is ns) k).trans (HR _ _))
 |.ri a k,z=>Kf (DP a z) λp e=>Mo (by rw[ID,<-e];cases z with | true=>exact HR _ _ | false=>exact(DW _).symm)
 |.neg a,z=>Kf (DP a z) λp e=>Mo (by rw[ID,<-e];cases z with | true=>exact(Int.neg_one_mul _).symm | false=>exact(DW _).symm)
 |.abs a,true=>Mo IE.symm
 |.abs a,false=>Kf (DP a true) λp e=>(Q7 0 (a.Z is ns)).elim
   (λh=>dD (.trans (bO h) e) (BA h (Q8 e)))
   λh=>dE (by rw[Sl,<-e];exact bI h) (by rw[Sl,<-e];exact VW h)
 |.tn a,true=>Mo IE.symm
 |.tn a,false=>Kf (DP a true) λp e=>(Q7 0 (a.Z is ns)).elim
   (λh=>dD (.trans (Q3 h) e) (BA h (Q8 e)))
   λh=>dE (by rw[IE];exact Ai Ie (Int.toNat_of_nonpos h)) (by rw[Sl,<-e];exact VW h)
 |.ca a,true=>DP a false
 |.ca a,false=>Mo IE.symm
 |.min a b,z=>OH (DP a z) (DP b z) λp q e e'=>(Q7 (a.val is ns z) (b.val is ns z)).elim
   (λh=>dD (by rw[<-e];cases z with | true=>exact Int.min_eq_left h | false=>exact Ai Ie (Nat.min_eq_left (DM.mp h))) (by rw[Gm,<-e,<-e'];exact WY h))
   λh=>dE (by rw[<-e'];cases z with | true=>exact Int.min_eq_right h | false=>exact Ai Ie (Nat.min_eq_right (DM.mp h))) (by rw[Gm,<-e,<-e'];exact WY h)
 |.max a b,z=>OH (DP a z) (DP b z) λp q e e'=>(Q7 (a.val is ns z) (b.val is ns z)).elim
   (λh=>dD (by rw[<-e'];cases z with | true=>exact Int.max_eq_right h | false=>exact Ai Ie (JV (DM.mp h))) (by rw[Gm,<-e,<-e'];exact WY h))
   λh=>dE (by rw[<-e];cases z with | true=>exact Int.max_eq_left h | false=>exact Ai Ie (JW (DM.mp h))) (by rw[Gm,<-e,<-e'];exact WY h)
def One(is:List Int)(ns:List Nat)(ds:List (List Lf)):Prop:=∃d∈ds,Ys (env is ns) 0 d
theorem One.l{a b:List (List Lf)}(h:One is ns a):One is ns (a++b):=h.elim λd q=>⟨d,N0 _ q.1,q.2⟩
theorem One.r{a b:List (List Lf)}(h:One is ns b):One is ns (a++b):=h.elim λd q=>⟨d,LB _ q.1,q.2⟩
theorem One.cr{a b:List (List Lf)}(h:One is ns a)(h':One is ns b):One is ns (cr a b):=h.elim λd q=>h'.elim λe r=>⟨d++e,JR.mpr ⟨d,q.1,CD.mpr ⟨e,r.1,rfl⟩⟩,.app q.2 r.2⟩
theorem One.cm{z:Aa}{a b:X}{f:Lf->Lf->List (List Lf)}(h:∀p q:Lf,a.val is ns z=p.ev (env is ns) 0->b.val is ns z=q.ev (env is ns) 0->One is ns (f p q)):One is ns (cm z a b f):=
 (DP a z).elim λp s=>(DP b z).elim λq t=>(h p.2 q.2 s.2.2 t.2.2).elim λd u=>⟨d++(p.1++q.1),JR.mpr ⟨p,s.1,JR.mpr ⟨q,t.1,CD.mpr ⟨d,u.1,rfl⟩⟩⟩,.app u.2 (.app s.2.1 t.2.1)⟩
theorem jl{p:Lf}(h: 0<=p.ev (env is ns) 0):One is ns [[p]]:=⟨_,CL.mpr rfl,.cons h .nil⟩
theorem jm{p q:Lf}{a b:Int}(e:a=p.ev (env is ns) 0)(e':b=q.ev (env is ns) 0)(h:b<=a): 0<=(p.sub q).ev (env is ns) 0:=by rw[Gm,<-e,<-e'];exact WY h
theorem jn{p q:Lf}{a b:Int}(e:a=p.ev (env is ns) 0)(e':b=q.ev (env is ns) 0)(h:b<a): 0<=((p.sub q).add (con (-1))).ev (env is ns) 0:=by
 rw[Sk,Gm,IE,<-e,<-e'];exact bN (Int.add_one_le_iff.mpr (Int.sub_pos_of_lt h))
theorem jo{z:Aa}{a b:X}:(a.val is ns z=b.val is ns z->One is ns (Fm.dn (.eq z a b) true))/\(a.val is ns z≠b.val is ns z->One is ns (Fm.dn (.eq z a b) false)):=
 ⟨λh=>.cm λp q e e'=>⟨_,CL.mpr rfl,.cons (jm e' e (Q8 h)) (.cons (jm e e' (Q8 h.symm)) .nil)⟩,
  λh=>.cm λp q e e'=>(Int.lt_or_gt_of_ne h).elim (λh=>⟨_,Ee _ (CL.mpr rfl),.cons (jn e' e h) .nil⟩) λh=>⟨_,CT,.cons (jn e e' h) .nil⟩⟩
theorem jq{z:Aa}{a b:X}:(a.val is ns z<=b.val is ns z->One is ns (Fm.dn (.le z a b) true))/\(¬a.val is ns z<=b.val is ns z->One is ns (Fm.dn (.le z a b) false)):=
 ⟨λh=>.cm λp q e e'=>jl (jm e' e h),λh=>.cm λp q e e'=>jl (jn e e' (Fe.mp h))⟩
theorem jr{z:Aa}{a b:X}:(a.val is ns z<b.val is ns z->One is ns (Fm.dn (.lt z a b) true))/\(¬a.val is ns z<b.val is ns z->One is ns (Fm.dn (.lt z a b) false)):=
 ⟨λh=>.cm λp q e e'=>jl (jn e' e h),λh=>.cm λp q e e'=>jl (jm e e' (DD.mp h))⟩
theorem Fp:∀f:Fm,(f.P is ns->One is ns (f.dn true))/\(¬f.P is ns->One is ns (f.dn false))
 |.le true a b=>⟨jq (z:=true).1,jq (z:=true).2⟩
 |.le false a b=>⟨λh=>jq.1 (DM.mpr h),λh=>jq.2 λw=>h (DM.mp w)⟩
 |.lt true a b=>⟨jr (z:=true).1,jr (z:=true).2⟩
 |.lt false a b=>⟨λh=>jr.1 (DB.mpr h),λh=>jr.2 λw=>h (DB.mp w)⟩
 |.eq true a b=>⟨jo (z:=true).1,jo (z:=true).2⟩
 |.eq false a b=>⟨λh=>jo.1 (Ai Ie h),λh=>jo.2 λw=>h (Int.ofNat_inj.mp w)⟩
 |.no f=>⟨λh=>(Fp f).2 h,λh=>(Fp f).1 (Classical.not_not.mp h)⟩
 |.an f g=>⟨λh=>.cr ((Fp f).1 h.1) ((Fp g).1 h.2),λh=>(DI (f.P is ns)).elim (λx=>.r ((Fp g).2 λy=>h ⟨x,y⟩)) λx=>.l ((Fp f).2 x)⟩
 |.o f g=>⟨λh=>h.elim (λx=>.l ((Fp f).1 x)) λx=>.r ((Fp g).1 x),λh=>.cr ((Fp f).2 λx=>h (.inl x)) ((Fp g).2 λx=>h (.inr x))⟩
 |.im f g=>⟨λh=>(DI (f.P is ns)).elim (λx=>.r ((Fp g).1 (h x))) λx=>.l ((Fp f).2 x),λh=>.cr ((Fp f).1 (dr λx=>h λy=>AL y x)) ((Fp g).2 λx=>h λ_=>x)⟩
 |.fl=>⟨nofun,λ_=>⟨_,CL.mpr rfl,.nil⟩⟩
theorem mQ:∀{q:Nat},Ys (env is ns) 0 (nonneg q)
 |0=>.nil
 |q+1=>.cons (by rw[show(Lf.mk (un q false) 0).ev (env is ns) 0=dot (env is ns) 0 (un q false)+0 from rfl,WX];exact Int.ofNat_nonneg _) mQ
def dec(n q:Nat)(f:Fm):Aa:=(f.dn false).all λd=>fm (n+n) (d++nonneg q)
theorem pv(n q:Nat)(f:Fm)(is:List Int)(ns:List Nat)(h:dec n q f=true):f.P is ns:=
 dr λw=>((Fp f).2 w).elim λd r=>mP (BV.mp h d r.1) (.app r.2 mQ)
end
noncomputable def mx(a b:Nat):Nat:=cond (Bf a b) b a
def X.top:X->Nat
 |.v i=>i+1
 |.c _=>0 | .ci _=>0
 |.add a b=>mx a.top b.top | .sub a b=>mx a.top b.top | .min a b=>mx a.top b.top | .max a b=>mx a.top b.top
 |.mn _ a=>a.top | .mi _ a=>a.top | .rn a _=>a.top | .ri a _=>a.top
 |.neg a=>a.top | .abs a=>a.top | .tn a=>a.top | .ca a=>a.top
def Fm.top:Fm->Nat
 |.le _ a b=>mx a.top b.top | .lt _ a b=>mx a.top b.top | .eq _ a b=>mx a.top b.top
 |.no f=>f.top | .an f g=>mx f.top g.top | .o f g=>mx f.top g.top | .im f g=>mx f.top g.top | .fl=>0
def Ps(is:List Int)(ns:List Nat):List Fm->Fm->Prop
 |[],g=>g.P is ns
 |h::t,g=>h.P is ns->Ps is ns t g
theorem mR{is:List Int}{ns:List Nat}{g:Fm}:∀{hs:List Fm},(hs.foldr .im g).P is ns->Ps is ns hs g
 |[],h=>h
 |_::_,h=>λx=>mR (h x)
theorem pw(hs:List Fm)(g:Fm)(is:List Int)(ns:List Nat)(h:dec (hs.foldr .im g).top (hs.foldr .im g).top (hs.foldr .im g)=true:=by kernel_rfl):Ps is ns hs g:=mR (pv _ _ _ is ns h)
noncomputable abbrev Fm.l:=Fm.le false
noncomputable abbrev Fm.L:=Fm.le true
noncomputable abbrev Fm.t:=Fm.lt false
noncomputable abbrev Fm.T:=Fm.lt true
noncomputable abbrev Fm.e:=Fm.eq false
noncomputable abbrev Fm.E:=Fm.eq true
noncomputable abbrev Fm.n:=Fm.no
noncomputable abbrev Fm.a:=Fm.an
noncomputable abbrev Fm.i:=Fm.im
noncomputable abbrev Fm.f:=Fm.fl
noncomputable abbrev X.A:=X.add
noncomputable abbrev X.S:=X.sub
noncomputable abbrev X.k:=X.c
noncomputable abbrev X.j:=X.ci
noncomputable abbrev X.m:=X.mn
noncomputable abbrev X.l:=X.mi
noncomputable abbrev X.R:=X.rn
noncomputable abbrev X.Q:=X.ri
noncomputable abbrev X.g:=X.neg
noncomputable abbrev X.b:=X.abs
noncomputable abbrev X.d:=X.tn
noncomputable abbrev X.n:=X.ca
noncomputable abbrev X.p:=X.v 0
noncomputable abbrev X.q:=X.v 1
noncomputable abbrev X.r:=X.v 2
noncomputable abbrev X.s:=X.v 3
noncomputable abbrev X.t:=X.v 4
noncomputable abbrev X.u:=X.v 5
noncomputable abbrev X.w:=X.v 6
noncomputable abbrev X.x:=X.v 7
noncomputable abbrev X.y:=X.v 8
noncomputable abbrev X.z:=X.v 9
end Ar
end
open Ar (pw)
@[elab_as_elim] theorem rE{α:Sort u}{a b:α}{M:α->Prop}(h:a=b)(e:M b):M a:=@Eq.rec α b (λx _=>M x) e a h.symm
local macro_rules | `(tactic| rewrite [$h:term]) => `(tactic| first | refine rE ($h ..) ?_ | rewrite [$h:term] at ⊢) | `(tactic| rewrite [$r:rwRule, $rs:rwRule,*]) => `(tactic| (rewrite [$r]; rewrite [$rs,*]))
noncomputable abbrev EP:=PySem.Value->PySem.Shared->Prop
section
open PySem PySem.W PyProof.Rows
noncomputable def BP(p q:Int×Int):Aa:=decide (p.1<q.1)||(decide (p.1=q.1)&&decide (p.2<q.2))
theorem Df:BP p q=true↔p.1<q.1\/(p.1=q.1/\p.2<q.2):=by unfold BP;simp
theorem IF(h:BP p q=true)(h':BP q r=true):BP p r=true:=by rw[Df] at *;exact(pw [.o (.T .p .q) (.a (.E .p .q) (.T .r .s)),.o (.T .q .t) (.a (.E .q .t) (.T .s .u))] (.o (.T .p .t) (.a (.E .p .t) (.T .r .u))) [_,_,_,_,_,_] []) h h'
theorem TR(h:BP p q=false)(hne:p≠q):BP q p=true:=by
 rw[Df]
 have h':¬ (p.1<q.1\/(p.1=q.1/\p.2<q.2)):=λx=>by rw[<-Df,h] at x;cases x
 have:¬ (p.1=q.1/\p.2=q.2):=λx=>hne (Prod.ext x.1 x.2)
 exact(pw [.n (.o (.T .p .q) (.a (.E .p .q) (.T .r .s))),.n (.a (.E .p .q) (.E .r .s))] (.o (.T .q .p) (.a (.E .q .p) (.T .s .r))) [_,_,_,_] []) h' this
theorem Mp:BP p p=false:=by unfold BP;simp
structure Pm(n:Nat)(p:AE Nat):Prop where
 perm:p.Perm (Cn n).toArray
section
theorem Pm.size(P:Pm n p):p.size=n:=by rw[P.perm.size_eq];simp
theorem Pm.lt(P:Pm n p)(hi:i<n):p.getD i 0<n:=by
 have h:i<p.size:=by rw[P.size];exact hi
 have hm:p[i]∈p.toList:=by simp
 have:=(Q0.mp P.perm).mem_iff.mp hm
 simp[AE.getD,h] at this ⊢
 exact this
theorem Pm.inj(P:Pm n p)(hi:i<n)(hj:j<n)(h:p.getD i 0=p.getD j 0):i=j:=by
 have yE:i<p.toList.length:=by rw[Dt,P.size];exact hi
 have hj':j<p.toList.length:=by rw[Dt,P.size];exact hj
 have nd:=(Q0.mp P.perm).nodup_iff.mpr (by simpa using List.nodup_range)
 have h1:i<p.size:=by rw[P.size];exact hi
 have h2:j<p.size:=by rw[P.size];exact hj
 have:p.toList[i]=p.toList[j]:=by simpa[AE.getD,h1,h2] using h
 exact(List.getElem_inj nd).mp this
theorem Pm.rev(P:Pm n p)(i j:Nat):Pm n (kas_rev p i j):=⟨(mirror_perm _ _ _ _).trans P.perm⟩
theorem Pm.bubble(P:Pm n p)(i j:Nat):Pm n (Rw p i j):=⟨(bubble_perm _ _ _).trans P.perm⟩
variable{K:Nat->Int×Int}
def Lt(K:Nat->Int×Int)(p:AE Nat)(i j:Nat):Prop:=BP (K (p.getD i 0)) (K (p.getD j 0))=true
theorem Lt.trans(h:Lt K p i j)(h':Lt K p j k):Lt K p i k:=IF h h'
def o5(n:Nat)(K:Nat->Int×Int)(cmp:Nat->Nat->(Aa->Aj->Prop)->Aj->Prop)(s:Aj):Prop:=∀i j C,i<n->j<n->C (BP (K i) (K j)) s->cmp i j C s
def Inj(n:Nat)(K:Nat->Int×Int):Prop:=∀i j,i<n->j<n->K i=K j->i=j
theorem tJ(P:Pm n p)(hK:Inj n K)(hi:i<n)(hj:j<n)(hij:i≠j)(h:BP (K (p.getD i 0)) (K (p.getD j 0))=false):Lt K p j i:=
 TR h λe=>hij (P.inj hi hj (hK _ _ (P.lt hi) (P.lt hj) e))
def TS(K:Nat->Int×Int)(p:AE Nat)(m:Nat):Prop:=∀i j,i<j->j<m->Lt K p i j
def mT(K:Nat->Int×Int)(p:AE Nat)(m:Nat):Prop:=∀i j,i<j->j<m->Lt K p j i
theorem TS.succ(h:TS K p m)(h':Lt K p (m-1) m):TS K p (m+1):=λi j hij hj=>by
 by_cases e:j=m
 ·subst e
  by_cases e':i=j-1
  ·rw[e'];exact h'
  ·exact(h i (j-1) ((pw [.t .p .q,.n (.e .p (.S .q (.k 1)))] (.t .p (.S .q (.k 1))) [] [_,_]) hij e') ((pw [.t .p .q] (.t (.S .q (.k 1)) .q) [] [_,_]) hij)).trans h'
 ·exact h i j hij ((pw [.t .p (.A .q (.k 1)),.n (.e .p .q)] (.t .p .q) [] [_,_]) hj e)
theorem mT.succ(h:mT K p m)(h':Lt K p m (m-1)):mT K p (m+1):=λi j hij hj=>by
 by_cases e:j=m
 ·subst e
  by_cases e':i=j-1
  ·rw[e'];exact h'
  ·exact Lt.trans h' (h i (j-1) ((pw [.t .p .q,.n (.e .p (.S .q (.k 1)))] (.t .p (.S .q (.k 1))) [] [_,_]) hij e') ((pw [.t .p .q] (.t (.S .q (.k 1)) .q) [] [_,_]) hij))
 ·exact h i j hij ((pw [.t .p (.A .q (.k 1)),.n (.e .p .q)] (.t .p .q) [] [_,_]) hj e)
theorem dF(P:Pm n p)(hc:o5 n K cmp s)(hK:Inj n K):∀{f m:Nat}{G:Nat->Aj->Prop},1<=m->m+f<=n->TS K p m->
  (∀m',m<=m'->m'<=m+f->TS K p m'->(m'<m+f->Lt K p m' (m'-1))->G m' s)->(kas_asc p f m).kasWp cmp G s
 |0,m,G,h1,h2,ha,k=>k m (AP _) (AP _) ha λh=>AL h ((pw [] (.n (.t .p (.A .p (.k 0)))) [] [_]))
 |f+1,m,G,h1,h2,ha,k=>by
  refine hc _ _ _ (P.lt ((pw [.l (.A .p (.A .q (.k 1))) .r] (.t .p .r) [] [_,_,_]) h2)) (P.lt ((pw [.l (.A .p (.A .q (.k 1))) .r] (.t (.S .p (.k 1)) .r) [] [_,_,_]) h2)) ?_
  cases q:BP (K (p.getD m 0)) (K (p.getD (m-1) 0)) with
  |true=>exact k m (AP _) ((pw [] (.l .p (.A .p (.A .q (.k 1)))) [] [_,_])) ha λ_=>q
  |false=>exact dF P hc hK ((pw [] (.l (.k 1) (.A .p (.k 1))) [] [_])) ((pw [.l (.A .p (.A .q (.k 1))) .r] (.l (.A (.A .p (.k 1)) .q) .r) [] [_,_,_]) h2) (ha.succ (tJ P hK ((pw [.l (.A .p (.A .q (.k 1))) .r] (.t .p .r) [] [_,_,_]) h2) ((pw [.l (.A .p (.A .q (.k 1))) .r] (.t (.S .p (.k 1)) .r) [] [_,_,_]) h2) ((pw [.l (.k 1) .p] (.n (.e .p (.S .p (.k 1)))) [] [_]) h1) q)) λm' a b c d=>k m' ((pw [.l (.A .p (.k 1)) .q] (.l .p .q) [] [_,_]) a) ((pw [.l .p (.A (.A .q (.k 1)) .r)] (.l .p (.A .q (.A .r (.k 1)))) [] [_,_,_]) b) c λe=>d ((pw [.t .p (.A .q (.A .r (.k 1)))] (.t .p (.A (.A .q (.k 1)) .r)) [] [_,_,_]) e)
theorem dG(P:Pm n p)(hc:o5 n K cmp s)(hK:Inj n K):∀{f m:Nat}{G:AE Nat×Nat×Nat->Aj->Prop},1<=m->m+f<=n->mT K p m->
  (∀m',m<=m'->m'<=m+f->mT K p m'->G (p,m',0) s)->(kas_desc f p m 0).kasWp cmp G s
 |0,m,G,h1,h2,ha,k=>k m (AP _) (AP _) ha
 |f+1,m,G,h1,h2,ha,k=>by
  refine hc _ _ _ (P.lt ((pw [.l (.A .p (.A .q (.k 1))) .r] (.t .p .r) [] [_,_,_]) h2)) (P.lt ((pw [.l (.A .p (.A .q (.k 1))) .r] (.t (.S .p (.k 1)) .r) [] [_,_,_]) h2)) ?_
  cases q:BP (K (p.getD m 0)) (K (p.getD (m-1) 0)) with
  |true=>exact dG P hc hK ((pw [] (.l (.k 1) (.A .p (.k 1))) [] [_])) ((pw [.l (.A .p (.A .q (.k 1))) .r] (.l (.A (.A .p (.k 1)) .q) .r) [] [_,_,_]) h2) (ha.succ q) λm' a b c=>k m' ((pw [.l (.A .p (.k 1)) .q] (.l .p .q) [] [_,_]) a) ((pw [.l .p (.A (.A .q (.k 1)) .r)] (.l .p (.A .q (.A .r (.k 1)))) [] [_,_,_]) b) c
  |false=>
   refine hc _ _ _ (P.lt ((pw [.l (.A .p (.A .q (.k 1))) .r] (.t (.S .p (.k 1)) .r) [] [_,_,_]) h2)) (P.lt ((pw [.l (.A .p (.A .q (.k 1))) .r] (.t .p .r) [] [_,_,_]) h2)) ?_
   have:BP (K (p.getD (m-1) 0)) (K (p.getD m 0))=true:=tJ P hK ((pw [.l (.A .p (.A .q (.k 1))) .r] (.t .p .r) [] [_,_,_]) h2) ((pw [.l (.A .p (.A .q (.k 1))) .r] (.t (.S .p (.k 1)) .r) [] [_,_,_]) h2) ((pw [.l (.k 1) .p] (.n (.e .p (.S .p (.k 1)))) [] [_]) h1) q
   rw[this]
   exact k m (AP _) ((pw [] (.l .p (.A .p (.A .q (.k 1)))) [] [_,_])) ha
theorem Yu{xs ys:AE Nat}(h:xs[i]?=ys[j]?):xs.getD i 0=ys.getD j 0:=by
 rw[bH,bH,h]
theorem js(P:Pm n p){m:Nat}(hm:m<=n)(h:mT K p m):TS K (kas_rev p 0 m) m:=λi j hij hj=>by
 have e:∀k,k<m->(kas_rev p 0 m).getD k 0=p.getD (m-1-k) 0:=λk hk=>Yu (by
  unfold kas_rev
  rw[getElem?_mirror_all (by rw[P.size];exact hm),Bh ⟨(pw [] (.l (.k 0) .p) [] [_]),hk⟩] at ⊢
  congr 1;exact(pw [] (.e (.S (.S (.A (.k 0) .p) (.k 1)) .q) (.S (.S .p (.k 1)) .q)) [] [_,_]))
 unfold Lt
 rw[e i ((pw [.t .p .q,.t .q .r] (.t .p .r) [] [_,_,_]) hij hj),e j hj]
 exact h (m-1-j) (m-1-i) ((pw [.t .p .q,.t .q .r] (.t (.S (.S .r (.k 1)) .q) (.S (.S .r (.k 1)) .p)) [] [_,_,_]) hij hj) ((pw [.t .p .q] (.t (.S (.S .q (.k 1)) .r) .q) [] [_,_,_]) hj)
theorem jt(P:Pm n p)(hc:o5 n K cmp s)(hK:Inj n K)(h1: 1<=m)(hm:m<=n)(h:mT K p m)
  (k:∀m' p',Pm n p'->1<=m'->m'<=n->TS K p' m'->G (m',p') s):(kas_tail3 m n p).kasWp cmp G s:=by
 unfold kas_tail3
 rw[OD]
 exact dF (P.rev 0 m) hc hK h1 ((pw [.l .p .q] (.l (.A .p (.S .q .p)) .q) [] [_,_]) hm) (js P hm h) λm' a b c d=>k m' _ (P.rev 0 m) ((pw [.l (.k 1) .p,.l .p .q] (.l (.k 1) .q) [] [_,_]) h1 a) ((pw [.l .p .q,.l .r (.A .p (.S .q .p))] (.l .r .q) [] [_,_,_]) hm b) c
theorem ju(P:Pm n p)(hc:o5 n K cmp s)(hK:Inj n K)(h1: 1<=n)
  (k:∀m' p',Pm n p'->1<=m'->m'<=n->TS K p' m'->G (m',p') s):(kas_count n p).kasWp cmp G s:=by
 unfold kas_count
 rw[OD]
 refine dF P hc hK (AP 1) ((pw [.l (.k 1) .p] (.l (.A (.k 1) (.S .p (.k 1))) .p) [] [_]) h1) (λi j a b=>((pw [.t .p .q,.t .q (.k 1)] .f [] [_,_]) a b).elim) λm a b c d=>?_
 by_cases e1:(m==n)=true
 ·rw[Bh e1];exact k m p P a ((pw [.l (.k 1) .p,.l .q (.A (.k 1) (.S .p (.k 1)))] (.l .q .p) [] [_,_]) h1 b) c
 ·rw[AD e1]
  have hne:m≠n:=λq=>e1 (by simp[q])
  by_cases e2:m>1
  ·rw[Bh e2]
   refine hc _ _ _ (P.lt ((pw [.l .p (.A (.k 1) (.S .q (.k 1))),.t (.k 1) .p] (.t (.k 0) .q) [] [_,_]) b e2)) (P.lt ((pw [.l .p (.A (.k 1) (.S .q (.k 1))),.t (.k 1) .p] (.t (.S .p (.k 1)) .q) [] [_,_]) b e2)) ?_
   have:BP (K (p.getD 0 0)) (K (p.getD (m-1) 0))=true:=c 0 (m-1) ((pw [.t (.k 1) .p] (.t (.k 0) (.S .p (.k 1))) [] [_]) e2) ((pw [.t (.k 1) .p] (.t (.S .p (.k 1)) .p) [] [_]) e2)
   rw[this]
   exact k m p P a ((pw [.l .p (.A (.k 1) (.S .q (.k 1))),.t (.k 1) .p] (.l .p .q) [] [_,_]) b e2) c
  ·rw[AD e2]
   have hm1:m=1:=(pw [.l (.k 1) .p,.n (.t (.k 1) .p)] (.e .p (.k 1)) [] [_]) a e2
   subst hm1
   unfold kas_descPart
   rw[OD]
   have d2:mT K p 2:=λi j hij hj=>by
    have:i=0:=(pw [.t .p .q,.t .q (.k 2)] (.e .p (.k 0)) [] [_,_]) hij hj
    have:j=1:=(pw [.t .p .q,.t .q (.k 2)] (.e .q (.k 1)) [] [_,_]) hij hj
    subst i j
    exact d ((pw [.l (.k 1) .p,.n (.e (.k 1) .p)] (.t (.k 1) (.A (.k 1) (.S .p (.k 1)))) [] [_]) h1 hne)
   refine dG P hc hK ((pw [] (.l (.k 1) (.k 2)) [] [])) ((pw [.l (.k 1) .p,.n (.e (.k 1) .p)] (.l (.A (.k 2) (.S .p (.k (1+1)))) .p) [] [_]) h1 hne) d2 λm' a' b' c'=>?_
   rw[AD (by exact(pw [] (.n (.t (.k 0) (.k 0))) [] []))]
   exact jt P hc hK ((pw [.l (.k 2) .p] (.l (.k 1) .p) [] [_]) a') ((pw [.l (.k 1) .p,.n (.e (.k 1) .p),.l .q (.A (.k 2) (.S .p (.k (1+1))))] (.l .q .p) [] [_,_]) h1 hne b') c' k
theorem Sm(P:Pm n p)(hc:o5 n K cmp s)(hK:Inj n K)(hk:k<n)(ha:TS K p k):∀{f l r:Nat}{G:Nat->Aj->Prop},l<=r->r<=k->r-l<=f->(∀i,i<l->Lt K p i k)->(∀i,r<=i->i<k->Lt K p k i)->
  (∀l',l'<=k->(∀i,i<l'->Lt K p i k)->(∀i,l'<=i->i<k->Lt K p k i)->G l' s)->(kas_place p k f l r).kasWp cmp G s
 |0,l,r,G,h1,h2,h3,hl,hr,q=>q l ((pw [.l .p .q,.l .q .r] (.l .p .r) [] [_,_,_]) h1 h2) hl λi a b=>hr i ((pw [.l (.S .p .q) (.k 0),.l .q .r] (.l .p .r) [] [_,_,_]) h3 a) b
 |f+1,l,r,G,h1,h2,h3,hl,hr,q=>by
  unfold kas_place
  by_cases e:l>=r
  ·rw[Bh e];exact q l ((pw [.l .p .q,.l .q .r] (.l .p .r) [] [_,_,_]) h1 h2) hl λi a b=>hr i ((pw [.l .p .q,.l .q .r] (.l .p .r) [] [_,_,_]) e a) b
  ·rw[AD e]
   refine hc _ _ _ (P.lt hk) (P.lt ((pw [.t .p .q,.l .r .p,.n (.l .r .s),.e (.A (.m 2 .t) .u) (.A .s .r),.t .u (.k 2)] (.t .t .q) [] [_,_,_,_,_,_]) hk h2 e (Du _ _) (Dx _ ⋯))) ?_
   cases z:BP (K (p.getD k 0)) (K (p.getD ((l+r)/2) 0)) with
   |true=>
    refine Sm P hc hK hk ha ((pw [.n (.l .p .q),.e (.A (.m 2 .r) .s) (.A .q .p),.t .s (.k 2)] (.l .q .r) [] [_,_,_,_]) e (Du _ _) (Dx _ ⋯)) ((pw [.l .p .q,.n (.l .p .r),.e (.A (.m 2 .s) .t) (.A .r .p),.t .t (.k 2)] (.l .s .q) [] [_,_,_,_,_]) h2 e (Du _ _) (Dx _ ⋯)) ((pw [.l (.S .p .q) (.A .r (.k 1)),.e (.A (.m 2 .s) .t) (.A .q .p),.t .t (.k 2)] (.l (.S .s .q) .r) [] [_,_,_,_,_]) h3 (Du _ _) (Dx _ ⋯)) hl (λi a b=>?_) q
    by_cases e':i=(l+r)/2
    ·rw[e'];exact z
    ·exact Lt.trans z (ha ((l+r)/2) i ((pw [.l .p .q,.n (.e .q .p),.e (.A (.m 2 .p) .r) (.A .s .t),.t .r (.k 2)] (.t .p .q) [] [_,_,_,_,_]) a e' (Du _ _) (Dx _ ⋯)) b)
   |false=>
    have z':=tJ P hK hk (by exact(pw [.t .p .q,.l .r .p,.n (.l .r .s),.e (.A (.m 2 .t) .u) (.A .s .r),.t .u (.k 2)] (.t .t .q) [] [_,_,_,_,_,_]) hk h2 e (Du _ _) (Dx _ ⋯)) (by exact(pw [.l .p .q,.n (.l .p .r),.e (.A (.m 2 .s) .t) (.A .r .p),.t .t (.k 2)] (.n (.e .q .s)) [] [_,_,_,_,_]) h2 e (Du _ _) (Dx _ ⋯)) z
    refine Sm P hc hK hk ha ((pw [.n (.l .p .q),.e (.A (.m 2 .r) .s) (.A .q .p),.t .s (.k 2)] (.l (.A .r (.k 1)) .p) [] [_,_,_,_]) e (Du _ _) (Dx _ ⋯)) ((pw [.l .p .q] (.l .p .q) [] [_,_]) h2) ((pw [.l (.S .p .q) (.A .r (.k 1)),.e (.A (.m 2 .s) .t) (.A .q .p),.t .t (.k 2)] (.l (.S .p (.A .s (.k 1))) .r) [] [_,_,_,_,_]) h3 (Du _ _) (Dx _ ⋯)) (λi a=>?_) hr q
    by_cases e':i=(l+r)/2
    ·rw[e'];exact z'
    ·exact Lt.trans (ha i ((l+r)/2) ((pw [.t .p (.A .q (.k 1)),.n (.e .p .q),.e (.A (.m 2 .q) .r) (.A .s .t),.t .r (.k 2)] (.t .p .q) [] [_,_,_,_,_]) a e' (Du _ _) (Dx _ ⋯)) ((pw [.l .p .q,.n (.l .p .r),.e (.A (.m 2 .s) .t) (.A .r .p),.t .t (.k 2)] (.t .s .q) [] [_,_,_,_,_]) h2 e (Du _ _) (Dx _ ⋯))) z'
theorem WZ(P:Pm n p){k l:Nat}(hk:k<n)(hl:l<=k)(ha:TS K p k)(h1:∀i,i<l->Lt K p i k)(h2:∀i,l<=i->i<k->Lt K p k i):TS K (Rw p k (k-l)) (k+1):=by
 have e:∀i,(Rw p k (k-l)).getD i 0=p.getD (if i=l then k else if l<i/\i<=k then i-1 else i) 0:=λi=>Yu (by
  rw[getElem?_bubble (by rw[P.size];exact hk) _ (by exact(pw [] (.l (.S .p .q) .p) [] [_,_])),show k-(k-l)=l by exact(pw [.l .p .q] (.e (.S .q (.S .q .p)) .p) [] [_,_]) hl] at ⊢
  repeat' split
  all_goals first | rfl | (exfalso;lia))
 intro i j hij hj
 unfold Lt
 rw[e i,e j]
 repeat' split
 all_goals first
  |(exfalso;lia)
  |exact h1 _ (by lia)
  |exact h2 _ (by lia) (by lia)
  |exact ha _ _ (by lia) (by lia)
theorem mU(hc:o5 n K cmp s)(hK:Inj n K):∀{f k:Nat}{p:AE Nat}{G:AE Nat->Aj->Prop},Pm n p->k+f=n->TS K p k->(∀p',Pm n p'->TS K p' n->G p' s)->(kas_bin f p k).kasWp cmp G s
 |0,k,p,G,P,h,ha,q=>by
  have:k=n:=(pw [.e (.A .p (.k 0)) .q] (.e .p .q) [] [_,_]) h
  subst this
  exact q p P ha
 |f+1,k,p,G,P,h,ha,q=>by
  rw[show kas_bin (f+1) p k=(kas_place p k k 0 k).bind λl=>kas_bin f (Rw p k (k-l)) (k+1) from rfl,OD]
  exact Sm P hc hK ((pw [.e (.A .p (.A .q (.k 1))) .r] (.t .p .r) [] [_,_,_]) h) ha ((pw [] (.l (.k 0) .p) [] [_])) (AP _) ((pw [] (.l (.S .p (.k 0)) .p) [] [_])) (λi a=>((pw [.t .p (.k 0)] .f [] [_]) a).elim) (λi a b=>((pw [.l .p .q,.t .q .p] .f [] [_,_]) a b).elim) λl a b d=>
   mU hc hK (P.bubble _ _) ((pw [.e (.A .p (.A .q (.k 1))) .r] (.e (.A (.A .p (.k 1)) .q) .r) [] [_,_,_]) h) (WZ P ((pw [.e (.A .p (.A .q (.k 1))) .r] (.t .p .r) [] [_,_,_]) h) a ha b d) q
theorem o6(hc:o5 n K cmp s)(hK:Inj n K)(h1: 1<=n)(q:∀p',Pm n p'->TS K p' n->G p' s):(kas_sort n).kasWp cmp G s:=by
 unfold kas_sort
 rw[OD]
 refine ju ⟨AE.Perm.refl _⟩ hc hK h1 λm p P a b c=>?_
 by_cases e:m<n
 ·show((if m<n then _ else _:KasT (AE Nat)).kasWp cmp G s)
  rw[Bh e]
  rw[show max m 1=m by exact(pw [.l (.k 1) .p] (.e (.max .p (.k 1)) .p) [] [_]) a]
  exact mU hc hK P ((pw [.t .p .q] (.e (.A .p (.S .q .p)) .q) [] [_,_]) e) c q
 ·show((if m<n then _ else _:KasT (AE Nat)).kasWp cmp G s)
  rw[AD e]
  have:m=n:=(pw [.l .p .q,.n (.t .p .q)] (.e .p .q) [] [_,_]) b e
  subst this
  exact q p P c
end
noncomputable def TB:List Ah:=[59,66,211,218,291]
noncomputable def TL:List (Ah×Ah×Str):=[(63,59,"_int2digits.<locals>.inner"),(70,66,"_digits2int.<locals>.inner"),
 (215,211,"_Accumulator.__len__.<locals>.<genexpr>"),(222,218,"_Accumulator.__str__.<locals>.<genexpr>"),(293,291,"law.<locals>.<lambda>")]
theorem TU(t)(h:t∈TL):t.2.1∈TB:=b8 (f:=λt=>t.2.1) h
theorem TV(b)(h:b∈TB):∃t∈TL,t.2.1=b:=List.exists_of_mem_map h
def Jh(o:Obj):Prop:=(o.cls≠.type "code" /\o.cls≠.none)\/∀vs,o.data≠.fields vs
theorem Jh.data(h:∀vs,o.data≠.fields vs):Jh o:=.inr h
theorem Jh.jv(h:Jh o){vs}(hc:o.cls=.type "code")(hd:o.data=.fields vs):Cd:=by
 rcases h with ⟨h,_⟩ | h
 ·exact h hc
 ·exact h vs hd
theorem Jh.Sp(h:Jh (D3 ps)):Cd:=by
 rcases h with ⟨_,h⟩ | h
 ·exact h rfl
 ·exact h ps rfl
def BZ(h:Ay)(cd:Ad)(q:Str):Prop:=∃c,cd=.ref c/\∃o,h.get? c=some o/\o.cls=.type "code" /\∃vs,o.data=.fields vs/\∃t,vs[1]?=some (.str q t)
theorem BZ.elim{cd q}(x:BZ h cd q){P:Prop}(k:∀c o vs t,cd=.ref c->h.get? c=some o->o.cls=.type "code" ->o.data=.fields vs->vs[1]?=some (.str q t)->P):P:=
 AH x λc x=>x.2.elim λo y=>y.2.2.elim λvs z=>z.2.elim λt w=>k c o vs t x.1 y.1 y.2.1 z.1 w
theorem BZ.mk{q c o vs t}(a:h.get? c=some o)(b:o.cls=.type "code")(d:o.data=.fields vs)(e:vs[1]?=some (.str q t)):BZ h (.ref c) q:=⟨c,rfl,o,a,b,vs,d,t,e⟩
theorem BZ.Na{h:Ay}{cd q}(x:BZ h cd q):h.CodeRec cd q:=x.elim λc o vs t e g _ d r=>⟨c,o,vs,t,e,g,d,r⟩
theorem BZ.imp{h h':Ay}{cd q}(x:BZ h cd q)(hk:∀b o,h.get? b=some o->o.cls=.type "code" ->(∃vs,o.data=.fields vs)->h'.get? b=some o):BZ h' cd q:=
 x.elim λ_ _ vs _ e g c d r=>e▸.mk (hk _ _ g c ⟨vs,d⟩) c d r
theorem BZ.keeps{cd q}(x:BZ h cd q)(hk:∀b o,h.get? b=some o->h'.get? b=some o):BZ h' cd q:=x.imp λ_ _ e _ _=>hk _ _ e
theorem BZ.push{cd q}(x:BZ h cd q)(o:Obj):BZ (h.push o) cd q:=x.keeps λ_ _ e=>B6 o e
theorem Jh.dH(h:Jh o)(hc:o.cls=.type "code")(hd:∃vs,o.data=.fields vs):Cd:=hd.elim λ_ d=>h.jv hc d
theorem ub{h:Ay}(ha:h.get? a=some oa)(e:h.get? b=some o){P:Prop}(h2:oa=o->Cd):b≠a:=λq=>h2 (AQ (ha.symm.trans (q▸e)))
def IG(h:Ay)(t:Ah×Ah×Str):Prop:=
 CodeHd h t.1 t.2.1/\∃ps,h.get? t.2.1=some (D3 ps)/\TriplesOk ps.toList/\∀pos c',Mc pos ps.toList=some c'->BZ h c' t.2.2
def TabsOk(h:Ay):Prop:=∀t∈TL,IG h t
theorem CodeHd.at'{ps}(x:CodeHd h c P)(hP:h.get? P=some (D3 ps))(hk:∀o,h.get? c=some o->o.cls=.type "code" ->(∃vs,o.data=.fields vs)->h'.get? c=some o):CodeHd h' c P:=
 (x.tab hP).1.elim λo y=>y.elim λvs z=>by unfold CodeHd;rw[(hk o z.1 z.2.1 ⟨vs,z.2.2.1⟩).trans z.1.symm];exact x
theorem IG.imp{t}(T:IG h t)(hk:∀b o,h.get? b=some o->o.cls=.type "code" ->(∃vs,o.data=.fields vs)->h'.get? b=some o)(hp:∀ps,h.get? t.2.1=some (D3 ps)->h'.get? t.2.1=some (D3 ps)):IG h' t:=
 T.2.elim λps x=>⟨CodeHd.at' T.1 x.1 (hk _),ps,hp _ x.1,x.2.1,λpos c' e=>(x.2.2 pos c' e).imp hk⟩
theorem IG.keeps{t}(T:IG h t)(hk:∀b o,h.get? b=some o->h'.get? b=some o):IG h' t:=T.imp (λ_ _ e _ _=>hk _ _ e) λ_ e=>hk _ _ e
theorem TabsOk.keeps(T:TabsOk h)(hk:∀b o,h.get? b=some o->h'.get? b=some o):TabsOk h':=λt ht=>(T t ht).keeps hk
theorem IG.extBut{h h':Ay}{t}{oa:Obj}(T:IG h t)(ha:h.get? a=some oa)(hna:Jh oa)
  (hx:∀b o,b≠a->h.get? b=some o->h'.get? b=some o):IG h' t:=
 T.imp (λ_ _ e c d=>hx _ _ (ub ha e (P:=True) λq=>Jh.dH (q▸hna) c d) e) λ_ e=>hx _ _ (ub ha e (P:=True) λq=>Jh.Sp (q▸hna)) e
theorem TabsOk.extBut(T:TabsOk h)(ha:h.get? a=some oa)(hna:Jh oa)
  (hx:∀b o,b≠a->h.get? b=some o->h'.get? b=some o):TabsOk h':=λt ht=>(T t ht).extBut ha hna hx
theorem TabsOk.tab(T:TabsOk h)(hm:a∈TB):∃ps,h.get? a=some (D3 ps):=(TV _ hm).elim λt x=>x.2▸(T t x.1).2.imp λ_ y=>y.1
theorem TabsOk.W0(T:TabsOk h)(e:h.get? a=some o)(hc:Jh o):a∉TB:=λhm=>(T.tab hm).elim λ_ y=>Jh.Sp (AQ (e.symm.trans y)▸hc)
theorem TabsOk.D5(T:TabsOk h)(e:h.get? a=some o)(hc:o.cls≠.none):a∉TB:=λhm=>(T.tab hm).elim λ_ y=>hc (Ai Obj.cls (AQ (e.symm.trans y)))
theorem TabsOk.Mq(T:TabsOk h)(e:h.get? a=some o)(hc:∀vs,o.data≠.fields vs):a∉TB:=T.W0 e (.inr hc)
structure Kp(X:Ah->Prop)(s s':Aj):Prop where
 keep:∀b o,¬ X b->b∉TB->s.heap.get? b=some o->s'.heap.get? b=some o
 there:∀b o,¬ X b->s.heap.get? b=some o->∃o',s'.heap.get? b=some o'
 tabs:∀b∈TB,∀vs,s.heap.get? b=some (D3 vs)->∃more,s'.heap.get? b=some (D3 (vs++more))
 tok:TabsOk s.heap->TabsOk s'.heap
 os:s'.os=s.os
 gens:AllBare s.gens->AllBare s'.gens
abbrev no:Ah->Prop:=λ_=>Cd
theorem Kp.of_keeps{X}{s s':Aj}(hk:∀b o,s.heap.get? b=some o->s'.heap.get? b=some o)(ho:s'.os=s.os:=by rfl)(hg:s'.gens=s.gens:=by rfl):Kp X s s':=
 ⟨λb o _ _ e=>hk b o e,λb o _ e=>⟨o,hk b o e⟩,λb _ vs e=>⟨#[],by rw[hk _ _ e];simp⟩,λT=>T.keeps hk,ho,λg=>by rw[hg];exact g⟩
theorem Kp.refl{X}(s:Aj):Kp X s s:=.of_keeps λ_ _ e=>e
theorem Kp.toks{X}:Kp X s {s with toks:=tk}:=.of_keeps λ_ _ e=>e
theorem Kp.weaken(K:Kp X s s')(h:∀b,X b->Y b):Kp Y s s':=
 ⟨λb o hb ht e=>K.keep b o (λx=>hb (h b x)) ht e,λb o hb e=>K.there b o (λx=>hb (h b x)) e,K.tabs,K.tok,K.os,K.gens⟩
theorem Kp.trans'(K:Kp X s s')(K':Kp Y s' HM)(hx:∀b,X b->Z b)(hy:∀b o,Y b->s.heap.get? b=some o->Z b):Kp Z s HM:=
 ⟨λb o hb ht e=>K'.keep b o (λy=>hb (hy b o y e)) ht (K.keep b o (λx=>hb (hx b x)) ht e),
  λb o hb e=>let ⟨o',e'⟩:=K.there b o (λx=>hb (hx b x)) e;K'.there b o' (λy=>hb (hy b o y e)) e',
  λb hb vs e=>let ⟨m,e'⟩:=K.tabs b hb vs e;let ⟨m',uc⟩:=K'.tabs b hb _ e';⟨m++m',by rw[uc,AE.append_assoc]⟩,
  λT=>K'.tok (K.tok T),K'.os.trans K.os,λg=>K'.gens (K.gens g)⟩
theorem Kp.trans(K:Kp X s s')(K':Kp X s' HM):Kp X s HM:=K.trans' K' (λ_ x=>x) λ_ _ x _=>x
theorem Kp.one{a:Ah}{oa:Obj}{s s':Aj}(ha:s.heap.get? a=some oa)(hna:Jh oa)(hx:∀b o,b≠a->s.heap.get? b=some o->s'.heap.get? b=some o)
  (_hat:True)(T:TabsOk s.heap)(ho:s'.os=s.os:=by rfl)(hg:s'.gens=s.gens:=by rfl):Kp (λb=>b=a) s s' where
 keep:=λb o hb _ e=>hx b o hb e
 there:=λb o q e=>⟨o,hx b o q e⟩
 tabs:=λb hb vs e=>⟨#[],by
  rw[hx b _ (λq=>?_) e] at ⊢
  ·simp
  ·rw[q,ha] at e;rcases e with ⟨⟩;exact hna.Sp.elim⟩
 tok:=λT=>T.extBut ha hna hx
 os:=ho
 gens:=λg=>by rw[hg];exact g
structure Sq where
 name:Str
 qual:Str
 params:Ge
 body:EM
 scope:BQ
 cells:List (Str×Nat)
inductive AV where
 |val (v:Ad)
 |int (i:Int)
 |AS (b:Al)
 |str (x:Str)
 |tup (xs:List AV)
 |lst (xs:List AV)
 |loc (l:Nat)
 |Gw (a b c:Int)
 |BH (c:Sq)
noncomputable abbrev AV.bool(b:Aa):AV:=.val (.bool b)
noncomputable abbrev AV.none:AV:=.val .none
set_option genInjectivity true in
inductive AO where
 |list (xs:List AV)
 |cell (v:Ab AV)
 |dict (es:List (Str×AV))
 |acc (d:Nat) (xs:List AV)
 |inst (C:Ah) (d:Nat)
 |OI
 |raw (n:Nat)
structure Pl where
 at':Nat->Ah
 M:Ah->Prop
def Yv(h:Ay)(a:Ah)(vs:AE Ad):Prop:=∃o,h.get? a=some o/\o.cls=.type "list" /\o.dict=none/\∃n,o.data=.seq vs n
def IsRange(h:Ay)(a:Ah)(x y z:Int):Prop:=∃tx ty tz,h.get? a=some {cls:=.type "range",data:=.fields #[.int x tx,.int y ty,.int z tz]}
structure zJ(fd:Iq)(c:Sq):Prop where
 name:fd.name=c.name
 qual:fd.qualname=c.qual
 params:fd.params=c.params
 body:fd.body=c.body
 scope:fd.scope=c.scope
 glob:fd.globals=DO
 bi:fd.builtins=C4
 dflt:fd.defaults=.none
 kwd:fd.kwdefaults=.none
def OJ(π:Pl)(n:Nat)(h:Ay)(a:Ah)(c:Sq):Prop:=
 ∃o fd,h.get? a=some o/\o.cls=.type "function" /\o.data=.func fd/\zJ fd c/\BZ h fd.code c.qual/\(∀x,fd.closure.lookup x=(c.cells.lookup x).map π.at')/\∀x l,c.cells.lookup x=some l->l<n
mutual
def As(π:Pl)(n:Nat)(h:Ay):AV->Ad->Prop
 |.val v,cv=>cv=v
 |.int i,cv=>∃t,cv=.int i t
 |.AS b,cv=>∃t,cv=.float b t
 |.str x,cv=>∃t,cv=.str x t
 |.tup xs,cv=>∃a vs,cv=.ref a/\Ek h a vs/\¬ π.M a/\Ag π n h xs vs.toList
 |.lst xs,cv=>∃a vs,cv=.ref a/\Yv h a vs/\¬ π.M a/\Ag π n h xs vs.toList
 |.loc l,cv=>l<n/\cv=.ref (π.at' l)
 |.Gw x y z,cv=>∃a,cv=.ref a/\IsRange h a x y z/\¬ π.M a
 |.BH c,cv=>∃a,cv=.ref a/\OJ π n h a c/\¬ π.M a
def Ag(π:Pl)(n:Nat)(h:Ay):List AV->List Ad->Prop
 |[],vs=>vs=[]
 |x::xs,vs=>∃v ws,vs=v::ws/\As π n h x v/\Ag π n h xs ws
end
theorem Ag.nil{π n h}:Ag π n h [] []:=rfl
theorem Ag.cons{π n h x xs v vs}(a:As π n h x v)(b:Ag π n h xs vs):Ag π n h (x::xs) (v::vs):=⟨v,vs,rfl,a,b⟩
theorem Ag.inv{π n h x xs v vs}(r:Ag π n h (x::xs) (v::vs)):As π n h x v/\Ag π n h xs vs:=
 AH r λ_ r=>r.elim λ_ r=>(Gk r.1).elim λe f=>by subst e f;exact r.2
def Mr(v:Ad):Prop:=v=.type "list" \/v=.type "tuple" \/v=.type "range" \/v=.type "function"
theorem Mr.ne(h:Mr v):v≠.none:=by rcases h with rfl | rfl | rfl | rfl<;>nofun
structure Ju(π:Pl)(n:Nat)(h:Ay)(π':Pl)(n':Nat)(h':Ay):Prop where
 k:∀b o,h.get? b=some o->Mr o.cls->¬ π.M b->(∀es k,o.data≠.dict es k)->h'.get? b=some o
 c:∀cd q,BZ h cd q->BZ h' cd q
 le:n<=n'
 ag:∀l,l<n->π'.at' l=π.at' l
 f:∀b,π'.M b->π.M b\/h.get? b=none
section
theorem Ju.seq(s:Ju π n h π' n' h'){vs k}(ho:h.get? a=some o)(hl:¬ π.M a)(hc:Mr o.cls)(hd:o.data=.seq vs k):h'.get? a=some o:=s.k a o ho hc hl λ_ _ q=>nomatch hd.symm.trans q
theorem Ju.ne(s:Ju π n h π' n' h')(ho:h.get? a=some o)(hl:¬ π.M a):¬ π'.M a:=λq=>(s.f a q).elim hl λq=>nomatch ho.symm.trans q
theorem Ju.tup(s:Ju π n h π' n' h'){a vs}(hl:¬ π.M a)(t:Ek h a vs):Ek h' a vs/\¬ π'.M a:=
 t.elim λo x=>x.2.2.elim λk d=>⟨⟨o,s.seq x.1 hl (by rw[x.2.1];exact .inr (.inl rfl)) d,x.2.1,k,d⟩,s.ne x.1 hl⟩
theorem Ju.lst(s:Ju π n h π' n' h'){a vs}(hl:¬ π.M a)(t:Yv h a vs):Yv h' a vs/\¬ π'.M a:=
 t.elim λo x=>x.2.2.2.elim λk d=>⟨⟨o,s.seq x.1 hl (by rw[x.2.1];exact .inl rfl) d,x.2.1,x.2.2.1,k,d⟩,s.ne x.1 hl⟩
theorem Ju.Gw(s:Ju π n h π' n' h'){a x y z}(hl:¬ π.M a)(t:IsRange h a x y z):IsRange h' a x y z/\¬ π'.M a:=
 t.elim λtx t=>t.elim λty t=>t.elim λtz e=>⟨⟨tx,ty,tz,s.k a _ e (.inr (.inr (.inl rfl))) hl λ_ _=>nofun⟩,s.ne e hl⟩
theorem Ju.BH(s:Ju π n h π' n' h'){a c}(hl:¬ π.M a)(t:OJ π n h a c):OJ π' n' h' a c/\¬ π'.M a:=
 t.elim λo t=>t.elim λfd t=>⟨⟨o,fd,s.k a _ t.1 (by rw[t.2.1];exact .inr (.inr (.inr rfl))) hl λ_ _ q=>(nomatch t.2.2.1.symm.trans q),t.2.1,t.2.2.1,t.2.2.2.1,s.c _ _ t.2.2.2.2.1,
  (λx=>(t.2.2.2.2.2.1 x).trans <| by
   cases hx:c.cells.lookup x with
   |none=>rfl
   |some l=>exact Ai Ab.some (s.ag l (t.2.2.2.2.2.2 x l hx)).symm),λx l hx=>BW (t.2.2.2.2.2.2 x l hx) s.le⟩,s.ne t.1 hl⟩
theorem As.both(s:Ju π n h π' n' h'):(∀v cv,As π n h v cv->As π' n' h' v cv)/\∀xs vs,Ag π n h xs vs->Ag π' n' h' xs vs:=by
 have L:=λv=>AV.rec (motive_1:=λv=>∀cv,As π n h v cv->As π' n' h' v cv) (motive_2:=λxs=>∀vs,Ag π n h xs vs->Ag π' n' h' xs vs)
  (λ_ _ r=>r) (λ_ _ r=>r) (λ_ _ r=>r) (λ_ _ r=>r)
  (λxs ih cv r=>AH r λa r=>r.elim λvs r=>have t:=s.tup r.2.2.1 r.2.1;⟨a,vs,r.1,t.1,t.2,ih _ r.2.2.2⟩)
  (λxs ih cv r=>AH r λa r=>r.elim λvs r=>have t:=s.lst r.2.2.1 r.2.1;⟨a,vs,r.1,t.1,t.2,ih _ r.2.2.2⟩)
  (λl cv r=>⟨BW (Fo r) s.le,(And.right r).trans (Ai Bq (s.ag l (Fo r)).symm)⟩)
  (λ_ _ _ cv r=>AH r λa r=>have t:=s.Gw r.2.2 r.2.1;⟨a,r.1,t.1,t.2⟩)
  (λ_ cv r=>AH r λa r=>have t:=s.BH r.2.2 r.2.1;⟨a,r.1,t.1,t.2⟩)
  (λ_ r=>r) (λ_ _ i j vs r=>AH r λv r=>r.elim λws r=>⟨v,ws,r.1,i _ r.2.1,j _ r.2.2⟩) v
 refine⟨L,λxs=>?_⟩
 induction xs with
 |nil=>exact λ_ r=>r
 |cons x xs ih=>exact λvs r=>AH r λv r=>r.elim λws r=>⟨v,ws,r.1,L _ _ r.2.1,ih _ r.2.2⟩
theorem As.step(s:Ju π n h π' n' h'){v cv}(r:As π n h v cv):As π' n' h' v cv:=(As.both s).1 _ _ r
theorem Ag.step(s:Ju π n h π' n' h'){v cv}(r:Ag π n h v cv):Ag π' n' h' v cv:=(As.both s).2 _ _ r
end
def mV(π:Pl)(h:Ay)(X:Ah->Prop):Prop:=∀b,X b->π.M b\/((∃o es k,h.get? b=some o/\o.data=.dict es k)\/∃o,h.get? b=some o/\¬ Mr o.cls)\/h.get? b=none
def jw(h:Ay)(X:Ah->Prop):Prop:=∀b o,X b->h.get? b=some o->Jh o
theorem Kp.Yw{X}(K:Kp X s s')(T:TabsOk s.heap)(hX:jw s.heap X){cd q}(r:BZ s.heap cd q):BZ s'.heap cd q:=
 r.imp λb o e c d=>K.keep b o (λhx=>(hX b o hx e).dH c d) (T.D5 e (by rw[c];nofun)) e
theorem Kp.Eo{X}(K:Kp X s s')(T:TabsOk s.heap)(hX:mV π s.heap X)(hXf:jw s.heap X)(hn:n<=n')(ha:∀l,l<n->π'.at' l=π.at' l)
  (hf:∀b,π'.M b->π.M b\/s.heap.get? b=none):Ju π n s.heap π' n' s'.heap:=
 ⟨λb o e hc hl hd=>K.keep b o (λx=>(hX b x).elim hl λq=>q.elim (λq=>q.elim (λq=>q.elim λo' q=>q.elim λes q=>q.elim λk q=>hd es k (AQ (e.symm.trans q.1)▸q.2)) λq=>q.elim λo' q=>q.2 (AQ (e.symm.trans q.1)▸hc)) λq=>nomatch e.symm.trans q) (T.D5 e hc.ne) e,
  λ_ _ r=>K.Yw T hXf r,hn,ha,hf⟩
theorem mV.no{π h}:mV π h no:=λ_ x=>x.elim
theorem jw.no{h}:jw h no:=λ_ _ x=>x.elim
theorem Kp.ud(K:Kp no s s')(T:TabsOk s.heap):Ju π n s.heap π n s'.heap:=K.Eo T .no .no (AP _) (λ_ _=>rfl) (λ_ h=>.inl h)
theorem As.DU(K:Kp no s s')(T:TabsOk s.heap)(r:As π n s.heap v cv):As π n s'.heap v cv:=r.step (K.ud T)
theorem Ag.DU(K:Kp no s s')(T:TabsOk s.heap)(r:Ag π n s.heap v cv):Ag π n s'.heap v cv:=r.step (K.ud T)
section
theorem Ag.Na{P:List AV->List Ad->Prop}(h0:P [] [])(h1:∀x xs v vs,As π n h x v->Ag π n h xs vs->P xs vs->P (x::xs) (v::vs)):∀{xs:List AV}{vs:List Ad},Ag π n h xs vs->P xs vs:=by
 intro xs
 induction xs with
 |nil=>exact λr=>Eq.symm r▸h0
 |cons x xs ih=>exact λr=>AH r λv r=>r.elim λws r=>r.1.symm▸h1 _ _ _ _ r.2.1 r.2.2 (ih r.2.2)
theorem Ag.length{vs:List Ad}(r:Ag π n h xs vs):vs.length=xs.length:=r.Na (P:=λxs vs=>vs.length=xs.length) rfl λ_ _ _ _ _ _ e=>Ai Gb e
theorem Ag.get{vs:List Ad}(r:Ag π n h xs vs):∀{i:Nat}{x:AV},xs[i]?=some x->∃v,vs[i]?=some v/\As π n h x v:=
 r.Na (P:=λxs vs=>∀{i:Nat}{x:AV},xs[i]?=some x->∃v,vs[i]?=some v/\As π n h x v) (λe=>nomatch e) λ_ _ v _ r _ ih {i x} e=>match i,e with
  |0,e=>⟨v,rfl,AQ e▸r⟩
  |_+1,e=>ih e
theorem Ag.get'{vs:List Ad}(r:Ag π n h xs vs):∀{i:Nat}{v:Ad},vs[i]?=some v->∃x,xs[i]?=some x/\As π n h x v:=
 r.Na (P:=λxs vs=>∀{i:Nat}{v:Ad},vs[i]?=some v->∃x,xs[i]?=some x/\As π n h x v) (λe=>nomatch e) λx _ _ _ r _ ih {i v} e=>match i,e with
  |0,e=>⟨x,rfl,AQ e▸r⟩
  |_+1,e=>ih e
theorem Ag.append{vs ws:List Ad}(r:Ag π n h xs vs)(q:Ag π n h ys ws):Ag π n h (xs++ys) (vs++ws):=r.Na (P:=λxs vs=>Ag π n h (xs++ys) (vs++ws)) q λ_ _ _ _ a _ b=>.cons a b
theorem Ag.take{vs:List Ad}(k:Nat)(r:Ag π n h xs vs):Ag π n h (xs.take k) (vs.take k):=
 r.Na (P:=λxs vs=>∀k:Nat,Ag π n h (xs.take k) (vs.take k)) (λk=>by rcases k with ⟨⟩<;>rfl) (λ_ _ _ _ a _ b k=>match k with
  |0=>.nil
  |k+1=>.cons a (b k)) k
theorem Ag.drop{vs:List Ad}(k:Nat)(r:Ag π n h xs vs):Ag π n h (xs.drop k) (vs.drop k):=
 r.Na (P:=λxs vs=>∀k:Nat,Ag π n h (xs.drop k) (vs.drop k)) (λk=>by rcases k with ⟨⟩<;>rfl) (λ_ _ _ _ a s b k=>match k with
  |0=>.cons a s
  |k+1=>b k) k
end
abbrev Lo:=List (Str×AV)
structure St where
 H:List AO
 ob:Aa
def St.need(S:St)(b:Aa):St:=⟨S.H,b&&S.ob⟩
def St.on(S:St)(H:List AO):St:=⟨H,S.ob⟩
structure FD where
 scope:BQ
 cells:List (Str×Nat)
 cls:Ab Ah
 code:Ad
 qual:Str
 wr:Nat
noncomputable def nil{α:Type}(l:List α):Aa:=match l with | []=>true | _::_=>false
noncomputable def Fq(as:List Nat):List Nat->Aa:=N3 (motive:=λ_=>List Nat->Aa) (λbs=>N3 (motive:=λ_=>Aa) true (λ_ _ _=>false) bs) (λa _ ih bs=>N3 (motive:=λ_=>Aa) false (λb bs _=>JN false (ih bs) (Aw a b)) bs) as
def sEq(a b:Str):Aa:=Fq a.cps.toList b.cps.toList
def lk{α:Type}(x:Str)(l:List (Str×α)):Ab α:=N3 (motive:=λ_=>Ab α) none (λp _ ih=>JN ih (some p.2) (sEq x p.1)) l
def Kg(x:Str)(l:List Str):Aa:=N3 (motive:=λ_=>Aa) false (λy _ ih=>JN ih true (sEq x y)) l
noncomputable def o8(a b:Str):Str:=⟨(a.cps.toList++b.cps.toList).toArray⟩
noncomputable def JD(sep:List Nat):List Str->List Nat
 |[]=>[]
 |[x]=>x.cps.toList
 |x::r=>x.cps.toList++(sep++JD sep r)
noncomputable def C7(ch:Nat):List Nat->List (List Nat)
 |[]=>[[]]
 |a::r=>match Aw a ch with
  |true=>[]::C7 ch r
  |false=>match C7 ch r with | []=>[[a]] | p::ps=>(a::p)::ps
noncomputable abbrev CI(x:Str):Nat:=x.length
structure Rt(α:Type) where
 v:α
 S:St
def Ok{α:Type}(o:Ab α)(P:α->Prop):Prop:=∀a,o=some a->P a
noncomputable def Af{α:Type}(b:Aa)(o:Ab α):Ab α:=cond b o none
noncomputable def strOf:AV->Ab Str | .str x=>some x | _=>none
noncomputable def intOf:AV->Ab Int | .int x=>some x | _=>none
noncomputable def JE:AV->Ab Al | .AS x=>some x | _=>none
noncomputable def OK:AV->Ab (List AV) | .tup x=>some x | _=>none
noncomputable def KD:AV->Ab Nat | .loc l=>some l | _=>none
noncomputable def Yx:Ad->Ab Aa | .bool b=>some b | _=>none
def boolOf:AV->Ab Aa | .val v=>Yx v | _=>none
noncomputable def Nu:Ad->Aa | .none=>true | _=>false
def isNone:AV->Aa | .val v=>Nu v | _=>false
noncomputable def CW:AO->Ab (List AV) | .list xs=>some xs | _=>none
noncomputable def Z8:AO->Ab (Nat×List AV) | .acc d xs=>some (d,xs) | _=>none
noncomputable def Yy:AO->Ab (Ab AV) | .cell v=>some v | _=>none
noncomputable def TX:AO->Ab (List (Str×AV)) | .dict es=>some es | _=>none
noncomputable def jx:AO->Ab Nat | .raw n=>some n | _=>none
def two{α:Type}(l:List α):Ab (α×α):=match l with
 |[]=>none
 |a::r=>match r with
  |[]=>none
  |b::r=>match r with | []=>some (a,b) | _::_=>none
def one{α:Type}(l:List α):Ab α:=match l with
 |[]=>none
 |a::r=>match r with | []=>some a | _::_=>none
def DQ(H:List AO):AV->Ab (List AV)
 |.lst xs=>some xs
 |.loc l=>(H[l]?).bind CW
 |_=>none
noncomputable def ue:AO->Ab (List AV)
 |.list xs=>some xs
 |.acc _ xs=>some xs
 |_=>none
def Qs(H:List AO):AV->Ab (List AV)
 |.tup xs=>some xs
 |.lst xs=>some xs
 |.loc l=>(H[l]?).bind ue
 |_=>none
def mW(H:List AO):AV->Ab (List AV)
 |.tup xs=>some xs
 |.lst xs=>some xs
 |.loc l=>(H[l]?).bind CW
 |_=>none
noncomputable def Gn{α β:Type}(f:α->Ab β):List α->Ab (List β)
 |[]=>some []
 |a::r=>(f a).bind λb=>(Gn f r).bind λbs=>some (b::bs)
def IH(xs:List AV):Ab (List Str):=Gn strOf xs
def OL(xs:List AV):Ab (List Int):=Gn intOf xs
def i6(a b:AV):Ab Aa:=match a with
 |.int x=>(intOf b).bind λy=>some (decide (x=y))
 |.str x=>(strOf b).bind λy=>some (sEq x y)
 |.val v=>(Yx v).bind λx=>(boolOf b).bind λy=>some (x==y)
 |_=>none
noncomputable def TY:List AV->List AV->Ab Aa
 |[],ys=>some (nil ys)
 |x::xs,ys=>match ys with
  |[]=>some false
  |y::ys=>(i6 x y).bind λp=>(TY xs ys).bind λq=>some (p&&q)
def mX(H:List AO)(a b:AV):Ab Aa:=match a with
 |.AS x=>(JE b).bind λy=>some (Em x y==some .eq)
 |.tup xs=>(OK b).bind λys=>TY xs ys
 |.lst xs=>(DQ H b).bind λys=>TY xs ys
 |.loc l=>(DQ H (.loc l)).bind λxs=>(DQ H b).bind λys=>TY xs ys
 |a=>i6 a b
noncomputable def i7(H:List AO)(x:AV):List AV->Ab Aa
 |[]=>some false
 |y::r=>(mX H y x).bind λb=>(i7 H x r).bind λc=>some (b||c)
def Yz(a:List AV):Ab (Int×Int):=(two a).bind λp=>(intOf p.1).bind λx=>(intOf p.2).bind λy=>some (x,y)
def ltV(a b:AV):Ab Aa:=match a with
 |.int x=>(intOf b).bind λy=>some (decide (x<y))
 |.tup xs=>(Yz xs).bind λp=>(OK b).bind λys=>(Yz ys).bind λq=>some (decide (p.1<q.1)||(decide (p.1=q.1)&&decide (p.2<q.2)))
 |_=>none
noncomputable def o9(i:Int):Al:=DH i
noncomputable def DJ(i:Int):Aa:=decide (i.natAbs<2^1000)
noncomputable def AM(i:Int):Aa:=decide (i.natAbs<2^20000)
noncomputable def OM(a b:Int):Al:=WQ (decide (a<0) !=decide (b<0)) a.natAbs b.natAbs
noncomputable def ON(xs:List AV):Nat->List AV
 |0=>[]
 |n+1=>xs++ON xs n
def YA(a b:AV)(f:Int->Int->Ab (Rt AV)):Ab (Rt AV):=(intOf a).bind λx=>(intOf b).bind λy=>f x y
noncomputable def OG(a b:AV)(S:St):Ab (Rt AV):=(DQ S.H a).bind λxs=>(DQ S.H b).bind λys=>Af (decide (xs.length+ys.length<100000)) (some ⟨.lst (xs++ys),S⟩)
def dI(a b:AV)(S:St):Ab (Rt AV):=match a with
 |.int x=>(intOf b).bind λy=>some ⟨.int (x+y),S⟩
 |.AS x=>(JE b).bind λy=>some ⟨.AS (Dl x y),S⟩
 |.str x=>(strOf b).bind λy=>some ⟨.str (o8 x y),S.need (decide (CI x+CI y<2^20))⟩
 |.lst xs=>OG (.lst xs) b S
 |.loc l=>OG (.loc l) b S
 |_=>none
def uf(a b:AV)(S:St):Ab (Rt AV):=match a with
 |.int x=>(intOf b).bind λy=>some ⟨.int (x-y),S⟩
 |.AS x=>(JE b).bind λy=>some ⟨.AS (Bg x y),S⟩
 |_=>none
def ug(a b:AV)(S:St):Ab (Rt AV):=match a with
 |.int x=>(match b with
  |.int y=>some ⟨.int (x*y),S.need (AM x&&AM y)⟩
  |.AS y=>some ⟨.AS (Cq (o9 x) y),S.need (DJ x)⟩
  |_=>none)
 |.AS x=>(match b with
  |.int y=>some ⟨.AS (Cq x (o9 y)),S.need (DJ y)⟩
  |.AS y=>some ⟨.AS (Cq x y),S⟩
  |_=>none)
 |.lst xs=>(one xs).bind λx=>(intOf b).bind λy=>Af (decide (0<=y/\y<1000)) (some ⟨.lst (ON [x] y.toNat),S⟩)
 |_=>none
def uh(a b:AV)(S:St):Ab (Rt AV):=match a with
 |.int x=>(intOf b).bind λy=>some ⟨.AS (OM x y),S.need (DJ x&&decide (y≠0))⟩
 |.AS x=>(match b with
  |.int y=>some ⟨.AS (Cr x (o9 y)),S.need (DJ y&&decide (y≠0))⟩
  |.AS y=>some ⟨.AS (Cr x y),S.need (!Float64.isZero y)⟩
  |_=>none)
 |_=>none
def ui(a b:AV)(S:St):Ab (Rt AV):=match a with
 |.int x=>(intOf b).bind λy=>some ⟨.int (x.fmod y),S.need (decide (y≠0))⟩
 |.AS x=>(JE b).bind λy=>some ⟨.AS (Float64.divmod x y).snd,S.need (!Float64.isZero y)⟩
 |_=>none
def uj(op:Operator)(a b:AV)(S:St):Ab (Rt AV):=
 match op with
 |.Add=>dI a b S
 |.Sub=>uf a b S
 |.Mult=>ug a b S
 |.Div=>uh a b S
 |.Mod=>ui a b S
 |.FloorDiv=>YA a b λx y=>Af (decide (0<y/\y<2^60)) (some ⟨.int (x.fdiv y),S⟩)
 |.Pow=>YA a b λx y=>Af (decide (0<=y/\y<1000/\x.natAbs<2^60)) (some ⟨.int (x^y.toNat),S⟩)
 |.RShift=>YA a b λx y=>Af (decide (0<=y/\y<100000)) (some ⟨.int (x.fdiv (2^y.toNat)),S⟩)
 |.LShift=>YA a b λx y=>Af (decide (0<=y/\y<100000)) (some ⟨.int (x*2^y.toNat),S.need (AM x)⟩)
 |.BitAnd=>YA a b λx y=>some ⟨.int (Gf x y),S⟩
 |.BitXor=>YA a b λx y=>some ⟨.int (Oq x y),S⟩
 |_=>none
noncomputable def okIn:AV->Aa
 |.int _=>true
 |.str _=>true
 |.tup _=>true
 |.val _=>true
 |_=>false
noncomputable def oLt(o:Ab Ordering):Aa:=o==some .lt
noncomputable def oEq(o:Ab Ordering):Aa:=o==some .eq
noncomputable def yF(o:Ab Ordering):Aa:=o==some .gt
def ltA(a b:AV):Ab Aa:=match a with
 |.AS x=>(match b with
  |.int y=>some (oLt (Gh x y))
  |.AS y=>some (oLt (Em x y))
  |_=>none)
 |a=>ltV a b
def leA(a b:AV):Ab Aa:=match a with
 |.int x=>(match b with
  |.int y=>some (decide (x<=y))
  |.AS y=>some (yF (Gh y x)||oEq (Gh y x))
  |_=>none)
 |.AS x=>(match b with
  |.int y=>some (oLt (Gh x y)||oEq (Gh x y))
  |.AS y=>some (oLt (Em x y)||oEq (Em x y))
  |_=>none)
 |_=>none
def gtA(a b:AV):Ab Aa:=match a with
 |.int x=>(intOf b).bind λy=>some (decide (y<x))
 |.AS x=>(JE b).bind λy=>some (yF (Em x y))
 |_=>none
def isA(a:AV):Ab Aa:=match a with
 |.val v=>Af (Nu v) (some true)
 |.BH _=>some false
 |.int _=>some false
 |.lst _=>some false
 |_=>none
def yG(H:List AO)(a b:AV):Ab Aa:=Af (okIn a) ((DQ H b).bind λys=>i7 H a ys)
noncomputable def dJ(o:Ab Aa):Ab Aa:=o.bind λx=>some (!x)
def Gz(op:G9)(a b:AV)(S:St):Ab Aa:=
 match op with
 |.Lt=>ltA a b
 |.LtE=>leA a b
 |.Gt=>gtA a b
 |.Eq=>mX S.H a b
 |.NotEq=>dJ (mX S.H a b)
 |.Is=>Af (isNone b) (isA a)
 |.In=>yG S.H a b
 |.NotIn=>dJ (yG S.H a b)
 |_=>none
def Sr(v:AV):Ab (Str×Str):=(OK v).bind λxs=>(two xs).bind λp=>(strOf p.1).bind λx=>(strOf p.2).bind λy=>some (x,y)
def YB(xs:List AV):Ab Nat:=(Gn Sr xs).bind λps=>some (ps.map λp=>CI p.1+CI p.2).sum
def YC(xs:List AV):Ab (List Nat):=(Gn Sr xs).bind λps=>some (ps.flatMap λp=>p.1.cps.toList++p.2.cps.toList)
def YD(H:List AO)(d:Nat):Ab Int:=((H[d]?).bind TX).bind λes=>(lk "_initial_size" es).bind λv=>(intOf v).bind λi=>Af (decide (0<=i)) (some i)
def Z9(H:List AO):AO->Ab Int
 |.list xs=>some xs.length
 |.acc d xs=>(YD H d).bind λi=>(YB xs).bind λn=>some (i+n)
 |_=>none
def TZ(H:List AO):AV->Ab Int
 |.str x=>some (CI x)
 |.tup xs=>some xs.length
 |.lst xs=>some xs.length
 |.loc l=>(H[l]?).bind (Z9 H)
 |_=>none
def T2{α:Type}(l:List α):Aa := !nil l
def zK(H:List AO):AO->Ab Aa
 |.list xs=>Af (decide (xs.length<100000)) (some (T2 xs))
 |.acc d xs=>(Z9 H (.acc d xs)).bind λn=>Af (decide (0<=n/\n<2^60)) (some (decide (n≠0)))
 |_=>none
def pd(S:St):AV->Ab Aa
 |.val v=>(match v with
  |.bool b=>some b
  |.none=>some false
  |_=>none)
 |.int i=>some (decide (i≠0))
 |.str x=>Af (decide (CI x<2^20)) (some (T2 x.cps.toList))
 |.lst xs=>Af (decide (xs.length<100000)) (some (T2 xs))
 |.loc l=>(S.H[l]?).bind (zK S.H)
 |_=>none
def II(S:St)(a i:AV):Ab AV:=(intOf i).bind λk=>match a with
 |.str x=>Af (decide (CI x<2^20)) (((Cp k (CI x)).bind (x.cps[·]?)).bind λch=>some (.str ⟨#[ch]⟩))
 |a=>(Qs S.H a).bind λxs=>Af (decide (xs.length<100000)) ((Cp k xs.length).bind (xs[·]?))
noncomputable def OO{α:Type}(xs:List α)(l u:Ab Int):List α:=(xs.drop (l.elim 0 (DF xs.length))).take (u.elim xs.length (DF xs.length)-l.elim 0 (DF xs.length))
noncomputable def Cu{α:Type}:List α->List α
 |[]=>[]
 |[a]=>[a]
 |a::_::r=>a::Cu r
set_option genCtorIdx true in
inductive Src where
 |lst (xs:List AV)
 |loc (l:Nat)
 |Gw (a b c:Int)
 |str (x:List Nat)
 |zip (l:Nat) (ss:List Src)
mutual
def Src.at(H:List AO)(i:Nat):Src->Ab (Ab AV)
 |.lst xs=>some xs[i]?
 |.loc l=>((H[l]?).bind CW).bind λxs=>some xs[i]?
 |.Gw a b c=>some (cond (decide (0<E4 a b c-i)) (some (.int (a+c*i))) none)
 |.str x=>some ((x[i]?).bind λch=>some (.str ⟨#[ch]⟩))
 |.zip l ss=>((H[l]?).bind jx).bind λk=>Af (Aw k ss.length) ((Src.i8 H i ss).bind λo=>some (o.bind λvs=>some (.tup vs)))
def Src.i8(H:List AO)(i:Nat):List Src->Ab (Ab (List AV))
 |[]=>some (some [])
 |s::ss=>(s.at H i).bind λo=>match o with
  |some v=>(Src.i8 H i ss).bind λo=>some (o.bind λvs=>some (v::vs))
  |none=>some none
end
structure FI where
 params:Ge
 body:EM
 scope:BQ
 dflt:List AV
 kwd:List (Str×AV)
 cells:List (Str×Nat)
 cls:Ab Ah
 code:Ab Ah
 qual:Str
 Ss:Aa
noncomputable def fnIn(x:Str):List Az->Ab (Ge×List Az×BQ)
 |[]=>none
 |.FunctionDef n a b _ _ _ sc _ _ _::r=>match sEq x n with | true=>some (a,b,sc) | false=>fnIn x r
 |_::r=>fnIn x r
noncomputable def clsIn(x:Str):List Az->List Az
 |[]=>[]
 |.ClassDef n _ _ b _ _ _ _ _ _ _::r=>match sEq x n with | true=>b | false=>clsIn x r
 |_::r=>clsIn x r
noncomputable def top:List Az:=cX.main.body
def mk(a:Ah)(C:Ab (Ah×Str))(x q:Str)(dflt:List AV)(kwd:List (Str×AV))(cell:Aa)(Ss:Aa:=false):Ab FI:=
 match fnIn x (match C with | some (_,cn)=>clsIn cn top | none=>top) with
 |some (p,b,sc)=>some ⟨p,.stmts b,sc,dflt,kwd,[],(match cell with | true=>C.map (·.1) | false=>none),some (a-1),q,Ss⟩
 |none=>none
noncomputable def vf:Ab (Ah×Str):=some (165,"_ValueFormatter")
noncomputable def ac:Ab (Ah×Str):=some (249,"_Accumulator")
def FTl:List (Ah×Ab FI):=[
 (30,mk 30 none "insort_right" "insort_right" [.int 0,.none] [("key",.none)] false true),
 (39,mk 39 none "bisect_right" "bisect_right" [.int 0,.none] [("key",.none)] false),
 (48,mk 48 none "insort_left" "insort_left" [.int 0,.none] [("key",.none)] false true),
 (57,mk 57 none "bisect_left" "bisect_left" [.int 0,.none] [("key",.none)] false),
 (64,mk 64 none "_int2digits" "_int2digits" [] [] false),
 (71,mk 71 none "_digits2int" "_digits2int" [] [] false),
 (78,mk 78 none "rgb_to_yiq" "rgb_to_yiq" [] [] false),
 (85,mk 85 none "yiq_to_rgb" "yiq_to_rgb" [] [] false),
 (92,mk 92 none "rgb_to_hls" "rgb_to_hls" [] [] false),
 (106,mk 106 vf "__init__" "_ValueFormatter.__init__" [] [] false true),
 (113,mk 113 vf "_str" "_ValueFormatter._str" [] [] false true),
 (127,mk 127 vf "newline" "_ValueFormatter.newline" [] [] false true),
 (134,mk 134 vf "add_transition" "_ValueFormatter.add_transition" [] [] false true),
 (162,mk 162 vf "_append_chunk" "_ValueFormatter._append_chunk" [] [] false true),
 (186,mk 186 ac "__init__" "_Accumulator.__init__" [.int 0] [] true true),
 (193,mk 193 ac "push" "_Accumulator.push" [] [] false true),
 (201,mk 201 ac "pop_from" "_Accumulator.pop_from" [.int 0] [] false true),
 (209,mk 209 ac "pop" "_Accumulator.pop" [] [] true true),
 (216,mk 216 ac "__len__" "_Accumulator.__len__" [] [] false),
 (223,mk 223 ac "__str__" "_Accumulator.__str__" [] [] false),
 (231,mk 231 ac "reset" "_Accumulator.reset" [.none] [] false true),
 (238,mk 238 ac "is_onlyws" "_Accumulator.is_onlyws" [] [] false),
 (246,mk 246 ac "part_count" "_Accumulator.part_count" [] [] true),
 (260,mk 260 none "_law_words_cut" "_law_words_cut" [] [] false true),
 (265,mk 265 none "_law_triangles" "_law_triangles" [] [] false),
 (272,mk 272 none "_law_lamp" "_law_lamp" [] [] false),
 (279,mk 279 none "_law_page" "_law_page" [] [] false),
 (284,mk 284 none "_law_no_brighter" "_law_no_brighter" [] [] false),
 (289,mk 289 none "_law_view" "_law_view" [] [] false),
 (294,mk 294 none "law" "law" [] [] false)]
noncomputable def yH{α:Type}(a:Nat):List (Nat×Ab α)->Ab α
 |[]=>none
 |(b,v)::r=>match Aw a b with | true=>v | false=>yH a r
def FT(a:Ah):Ab FI:=yH a FTl
noncomputable def GT:List (Str×Ad):=[("insort_right",.ref 30),("bisect_right",.ref 39),("insort_left",.ref 48),("bisect_left",.ref 57),("_int2digits",.ref 64),("_digits2int",.ref 71),("rgb_to_yiq",.ref 78),
 ("yiq_to_rgb",.ref 85),("rgb_to_hls",.ref 92),("_ValueFormatter",.ref 165),("_Accumulator",.ref 249),("_law_words_cut",.ref 260),("_law_triangles",.ref 265),("_law_lamp",.ref 272),("_law_page",.ref 279),
 ("_law_no_brighter",.ref 284),("_law_view",.ref 289),("len",.builtin "len"),("max",.builtin "max"),("min",.builtin "min"),("sum",.builtin "sum"),("abs",.builtin "abs"),("round",.builtin "round"),
 ("sorted",.builtin "sorted"),("range",.type "range"),("str",.type "str"),("set",.type "set"),("zip",.type "zip")]
noncomputable def D6:List (Str×Ah):=[("_str",113),("newline",127),("add_transition",134),("_append_chunk",162)]
noncomputable def D7:List (Str×Ah):=[("push",193),("pop_from",201),("reset",231),("is_onlyws",238)]
noncomputable def OP:List (Str×Ah):=[("pop",209),("part_count",246)]
noncomputable def KE:List Str:=["_maxlen","_continuation_ws","_continuation_ws_len","_splitchars","_lines","_current_line"]
noncomputable def KG:List Str:=["_initial_size"]
noncomputable def MO:List Str:=["a_digits","words","tied","reds","greens","blues","seen","behind","table","lights","exact","cut","_lines"]
noncomputable def fz:Nat->Nat->List AO->AV->Ab AV
 |0,_,_,_=>none
 |k+1,n,H,v=>match v with
  |.loc l=>cond (N9 l n) (some (.loc l)) (((H[l]?).bind CW).bind λxs=>(Gn (fz k n H) xs).bind λys=>some (.lst ys))
  |.tup xs=>(Gn (fz k n H) xs).bind λys=>some (.tup ys)
  |.lst xs=>(Gn (fz k n H) xs).bind λys=>some (.lst ys)
  |.BH c=>Af (c.cells.all λp=>N9 p.2 n) (some (.BH c))
  |v=>some v
set_option genCtorIdx true in
inductive AF where
 |next | brk | cont
 |ret (v:AV)
noncomputable def AF.C8:AF->Aa | .next=>true | _=>false
noncomputable def AF.GB:AF->Aa | .next=>true | .cont=>true | _=>false
noncomputable def AF.mY:AF->Aa | .brk=>true | _=>false
def AF.Nb:AF->Ab AV | .ret v=>some v | .next=>some .none | _=>none
structure Rx where
 fl:AF
 lo:Lo
 S:St
structure Ev where
 E:FD->Lo->St->Expr->Ab (Rt AV)
 T:FD->Lo->St->Expr->Ab (Rt Aa)
 X:FD->Lo->St->Az->Ab Rx
noncomputable def T4(n:Nat)(e:Expr):Aa:=Aw e.ctorIdx n
def Gp(e:Expr):Aa := !T4 7 e
def Hh(e:Expr):Aa := !(T4 8 e||(T4 9 e||T4 10 e))
def plainT(e:Expr):Aa:=T4 23 e||(T4 19 e||(T4 16 e||(T4 21 e||T4 20 e)))
def noStar(n:Nat)(es:List Expr):Aa:=Bf es.length n&&es.all λe => !T4 22 e
def baseOk(e:Expr):Aa:=match e with
 |.Call f as ks _ => !(T4 23 f&&(nil as&&nil ks))
 |_=>true
noncomputable def Qt(e:Expr):Ab (Str×Pos):=match e with | .Name x p=>some (x,p) | _=>none
noncomputable def MP(e:Expr):Ab (Expr×List RM×BQ):=match e with | .ListComp a b c _=>some (a,b,c) | _=>none
noncomputable def aa(e:Expr):Ab (List Expr):=match e with | .Tuple es _ _=>some es | _=>none
noncomputable def Qu(e:Expr):Ab (List Expr):=match e with | .List es _=>some es | _=>none
def ae(e:Expr):Ab (Expr×Expr):=match e with
 |.BinOp a op b _=>(match op with | .Mult=>(Qu a).bind λes=>(one es).bind λx=>some (x,b) | _=>none)
 |_=>none
noncomputable def Fu(e:Expr):Ab (Ab Expr×Ab Expr×Ab Expr):=match e with | .Slice l u s _=>some (l,u,s) | _=>none
noncomputable def zL(v:Const):Ab Int:=match v with | .int i=>some i | _=>none
def pe(e:Expr):Ab Int:=match e with | .Constant v _ _=>zL v | _=>none
def T5(e:Expr):Ab (Str×List Expr):=match e with
 |.Call f as ks _=>Af (nil ks) ((Qt f).bind λx=>some (x.1,as))
 |_=>none
noncomputable def uk(e:Expr):Ab Expr:=match e with | .Starred e _=>some e | _=>none
noncomputable def Bz{α:Type}(o:Ab α)(p:α->Aa):Aa:=match o with | none=>false | some a=>p a
def CX(fr:FD)(x:Str):Ab BX:=lk x fr.scope.names
def W4(x:Str):Aa:=Kg x ["__debug__","__class__","__classdict__"]
noncomputable def isLocal(k:BX):Aa:=match k with | .local=>true | _=>false
noncomputable def EY(k:BX):Aa:=match k with | .cell=>true | _=>false
noncomputable def isFree(k:BX):Aa:=match k with | .free=>true | _=>false
noncomputable def OQ(k:BX):Aa:=match k with | .globalImplicit=>true | _=>false
def dM(fr:FD)(S:St)(x:Str):Ab AV:=(lk x fr.cells).bind λl=>((S.H[l]?).bind Yy).bind λv=>v
def nameA(fr:FD)(lo:Lo)(S:St)(x:Str):Ab AV:=
 Af (!W4 x) ((CX fr x).bind λk=>match k with
  |.local=>lk x lo
  |.cell=>dM fr S x
  |.free=>dM fr S x
  |.globalImplicit=>(lk x GT).bind λv=>some (.val v)
  |.globalExplicit=>none)
def bw(fr:FD)(x y:Str):Aa:=sEq x y&&Bz (CX fr x) OQ
noncomputable def Sv(x:Str)(v:AV):Lo->Lo
 |[]=>[(x,v)]
 |p::r=>cond (sEq x p.1) ((p.1,v)::r) (p::Sv x v r)
def W6(wr:Nat)(S:St)(l:Nat)(o:AO):Ab St:=Af (Bf wr l) (some (S.on (S.H.set l o)))
def putN(fr:FD)(lo:Lo)(S:St)(x:Str)(v:AV):Ab (Rt Lo):=
 Af (!W4 x) ((CX fr x).bind λk=>match k with
  |.local=>some ⟨Sv x v lo,S⟩
  |.cell=>(lk x fr.cells).bind λl=>((S.H[l]?).bind Yy).bind λ_=>(W6 fr.wr S l (.cell (some v))).bind λS'=>some ⟨lo,S'⟩
  |_=>none)
noncomputable def KH(fr:FD):Lo->St->List Expr->List AV->Ab (Rt Lo)
 |lo,S,[],vs=>Af (nil vs) (some ⟨lo,S⟩)
 |lo,S,t::ts,vs=>match vs with
  |[]=>none
  |v::vs=>(Qt t).bind λx=>(putN fr lo S x.1 v).bind λp=>KH fr p.v p.S ts vs
noncomputable def T6(fr:FD):Lo->St->List Str->List AV->Ab (Rt Lo)
 |lo,S,[],vs=>Af (nil vs) (some ⟨lo,S⟩)
 |lo,S,x::xs,vs=>match vs with
  |[]=>none
  |v::vs=>(putN fr lo S x v).bind λp=>T6 fr p.v p.S xs vs
noncomputable def um(v:Ad):Aa:=match v with | .builtin _=>false | _=>true
def mZ(v:AV):Aa:=match v with | .val v=>um v | _=>true
def zN(x:Str)(o:AO):Ab Nat:=match o with
 |.inst C d=>Af (Aw C 165&&Kg x KE) (some d)
 |.acc d _=>Af (Kg x KG) (some d)
 |_=>none
def pf(S:St)(v:AV)(x:Str):Ab (Nat×List (Str×AV)):=(KD v).bind λl=>((S.H[l]?).bind (zN x)).bind λd=>((S.H[d]?).bind TX).bind λes=>some (d,es)
def m3(S:St)(v:AV)(x:Str):Ab AV:=(pf S v x).bind λp=>(lk x p.2).bind λa=>Af (mZ a) (some a)
def uo(fr:FD)(S:St)(o:AV)(x:Str)(v:AV):Ab St:=(pf S o x).bind λp=>W6 fr.wr S p.1 (.dict (Sv x v p.2))
section
variable(r:Ev)
noncomputable def Ji(fr:FD)(lo:Lo):St->List Expr->Ab (Rt (List AV))
 |S,[]=>some ⟨[],S⟩
 |S,e::es=>(r.E fr lo S e).bind λx=>(Ji fr lo x.S es).bind λy=>some ⟨x.v::y.v,y.S⟩
def Nv(as:List Expr):Ab Expr:=(one as).bind uk
def Hi(fr:FD)(x:Str)(as:List Expr)(ks:List EN):Ab Expr:=
 Af (nil ks) ((one as).bind λa=>(T5 a).bind λp=>Af (bw fr x "len" &&bw fr p.1 "set") (one p.2))
noncomputable def Sw(fr:FD)(lo:Lo):St->List EN->Ab (Rt (List (Str×AV)))
 |S,[]=>some ⟨[],S⟩
 |S,k::ks=>k.arg.bind λx=>(r.E fr lo S k.value).bind λa=>(Sw fr lo a.S ks).bind λb=>some ⟨(x,a.v)::b.v,b.S⟩
noncomputable def Xs(fr:FD):Lo->St->List Az->Ab Rx
 |lo,S,[]=>some ⟨.next,lo,S⟩
 |lo,S,st::rest=>(r.X fr lo S st).bind λx=>cond x.fl.C8 (Xs fr x.lo x.S rest) (some x)
noncomputable def m4:List AV->List Arg->List AV->Ab Lo
 |[],ps,ds=>Af (Bf ps.length ds.length) (some ((ps.map (·.arg)).zip (ds.drop (ds.length-ps.length))))
 |v::vs,ps,ds=>match ps with
  |[]=>none
  |p::ps=>(m4 vs ps ds).bind λb=>some ((p.arg,v)::b)
noncomputable def orO{α:Type}(a b:Ab α):Ab α:=match a with | some v=>some v | none=>b
noncomputable def m5:List Arg->List (Str×AV)->List (Str×AV)->Ab Lo
 |[],_,_=>some []
 |p::ps,ks,ds=>(orO (lk p.arg ks) (lk p.arg ds)).bind λv=>(m5 ps ks ds).bind λb=>some ((p.arg,v)::b)
noncomputable def AK:List (Str×BX)->List AO
 |[]=>[]
 |p::t=>cond (EY p.2) (.cell none::AK t) (AK t)
noncomputable def IJ:Nat->List (Str×BX)->List (Str×Nat)->List (Str×Nat)
 |_,[],acc=>acc
 |n,p::t,acc=>cond (EY p.2) (IJ (n+1) t ((p.1,n)::acc)) (IJ n t acc)
noncomputable def IK(fr:FD):Lo->St->Lo->Ab (Rt Lo)
 |lo,S,[]=>some ⟨lo,S⟩
 |lo,S,b::bs=>(putN fr lo S b.1 b.2).bind λp=>IK fr p.v p.S bs
noncomputable def W7:List Str->Aa
 |[]=>true
 |x::r => !Kg x r&&W7 r
def Dz{α:Type}(o:Ab α):Aa:=match o with | none=>true | some _=>false
noncomputable def KJ(p:Ge):Aa:=(nil p.posonlyargs&&(Dz p.vararg&&(nil p.kwonlyargs&&Dz p.kwarg)))&&W7 (p.args.map (·.arg))
def ph(ps:List Arg)(ks:List (Str×AV)):Aa:=match ps with
 |[]=>nil ks
 |p::r=>nil r&&(match ks with | []=>true | k::t=>nil t&&sEq k.1 p.arg)
def Cv(fi:FI)(as:List AV)(ks:List (Str×AV)):Ab Lo:=
 cond (nil fi.dflt&&nil fi.kwd) (Af (nil ks&&(KJ fi.params&&Aw fi.params.args.length as.length)) (some ((fi.params.args.map (·.arg)).zip as)))
  (Af (ph fi.params.kwonlyargs ks&&(Aw as.length fi.params.args.length||Aw (as.length+fi.dflt.length) fi.params.args.length)) ((m4 as fi.params.args fi.dflt).bind λb=>(m5 fi.params.kwonlyargs ks fi.kwd).bind λk=>some (b++k)))
def KL(ns:List (Str×BX)):Aa:=ns.all λp => !(EY p.2&&sEq p.1 "__class__")
noncomputable def isFun(k:RW):Aa:=match k with | .function=>true | _=>false
def Sx(sc:BQ):Aa:=isFun sc.kind&&(!sc.isGenerator&&(!sc.isCoroutine&&KL sc.names))
def KN(fr:FD)(b:EM)(lo:Lo)(S1:St):Ab (Rt AV):=
 match b with
 |.stmts b=>(Xs r fr lo S1 b).bind λx=>x.fl.Nb.bind λv=>some ⟨v,x.S⟩
 |.expr e=>r.E fr lo S1 e
noncomputable def T7(o:Ab Ah):Ad:=match o with | some a=>.ref a | none=>.none
def Au(fi:FI)(n wr:Nat):FD:=⟨fi.scope,IJ n fi.scope.names fi.cells,fi.cls,T7 fi.code,fi.qual++".<locals>.",cond fi.Ss wr n⟩
def letGo(S:St)(x:Rt AV):Ab (Rt AV):=(fz 6 S.H.length x.S.H x.v).bind λv=>some ⟨v,⟨S.H,x.S.ob⟩⟩
def CM(fi:FI)(as:List AV)(ks:List (Str×AV))(wr:Nat)(S:St):Ab (Rt AV):=
 (Cv fi as ks).bind λbinds=>(IK (Au fi S.H.length wr) [] (S.on (S.H++AK fi.scope.names)) binds).bind λp=>
  (KN r (Au fi S.H.length wr) fi.body p.v p.S).bind λx=>cond fi.Ss (some x) (letGo S x)
def uq(c:Sq):FI:=⟨c.params,c.body,c.scope,[],[],c.cells,none,none,c.qual,true⟩
def dO(xs:List AV):Ab (List Al):=Gn JE xs
noncomputable def pj:List Int->Int->Int
 |[],m=>m
 |x::xs,m=>pj xs (if m<x then x else m)
noncomputable def pk:List Int->Int->Int
 |[],m=>m
 |x::xs,m=>pk xs (if x<m then x else m)
noncomputable def pn:List Al->Al->Al
 |[],m=>m
 |x::xs,m=>pn xs (if Em x m==some .gt then x else m)
noncomputable def pq:List Al->Al->Al
 |[],m=>m
 |x::xs,m=>pq xs (if Em x m==some .lt then x else m)
def YE(mx:Aa)(xs:List AV):Ab AV:=match xs with
 |[]=>none
 |x::t=>match x with
  |.int i=>(OL t).bind λis=>some (.int (cond mx (pj is i) (pk is i)))
  |.AS i=>(dO t).bind λis=>some (.AS (cond mx (pn is i) (pq is i)))
  |_=>none
noncomputable def Nc:List AV->List Int->Ab (List Int)
 |[],acc=>some acc
 |v::r,acc=>(intOf v).bind λx=>Nc r (cond (acc.any λy=>decide (y=x)) acc (x::acc))
noncomputable def W8(a b:Int):List AV:=(Cn (b-a).toNat).map λ(i:Nat)=>.int (a+i)
noncomputable def af(x:AV)(k:Int×Int):List (AV×(Int×Int))->Ab (List (AV×(Int×Int)))
 |[]=>some [(x,k)]
 |p::t=>cond (BP k p.2) (some ((x,k)::p::t)) (cond (BP p.2 k) ((af x k t).bind λt'=>some (p::t')) none)
noncomputable def OR:List (AV×(Int×Int))->List (AV×(Int×Int))->Ab (List (AV×(Int×Int)))
 |[],acc=>some acc
 |p::ps,acc=>(af p.1 p.2 acc).bind λW9=>OR ps W9
def Xa(c:Sq)(as:List AV)(ks:List (Str×AV))(wr:Nat)(S:St):Ab (Rt AV):=Af (Sx c.scope) (CM r (uq c) as ks wr S)
noncomputable def JF(k:Int×Int):AV:=.tup [.int k.1,.int k.2]
def setAt(S:St)(l:Nat)(o:AO):St:=S.on (S.H.set l o)
noncomputable def dP(c:Sq)(n:Nat):St->List AV->Ab (Rt (List (AV×(Int×Int))))
 |S,[]=>some ⟨[],S⟩
 |S,x::xs=>(Xa r c [x] [] (n+2) S).bind λk=>(OK k.v).bind λt=>(Yz t).bind λp=>((k.S.H[n+1]?).bind CW).bind λks=>
   (dP c n (setAt k.S (n+1) (.list (ks++[JF p]))) xs).bind λy=>some ⟨(x,p)::y.v,y.S⟩
def ur(as:List AV)(S:St):Ab (Rt AV):=(one as).bind λa=>(TZ S.H a).bind λn=>some ⟨.int n,S.need (decide (0<=n/\n<2^60))⟩
def uu(as:List AV)(S:St):Ab (Rt AV):=(one as).bind λa=>(DQ S.H a).bind λxs=>(OL xs).bind λis=>some ⟨.int (is.foldl (· + ·) 0),S⟩
def dQ(mx:Aa)(as:List AV)(S:St):Ab (Rt AV):=match as with
 |[]=>none
 |a::t=>match t with
  |[]=>(DQ S.H a).bind λxs=>(YE mx xs).bind λv=>some ⟨v,S⟩
  |b::t=>match t with
   |[]=>(YE mx [a,b]).bind λv=>some ⟨v,S⟩
   |e::t=>Af (nil t) ((YE mx [a,b,e]).bind λv=>some ⟨v,S⟩)
def uw(as:List AV)(S:St):Ab (Rt AV):=(one as).bind λa=>(intOf a).bind λi=>some ⟨.int (if i<0 then -i else i),S⟩
def dT(as:List AV)(S:St):Ab (Rt AV):=(one as).bind λa=>(JE a).bind λx=>some ⟨.int (EW Mf x),S.need (Iu x)⟩
def ux(f:Str)(as:List AV)(S:St):Ab (Rt AV):=
 cond (sEq f "len") (ur as S) (cond (sEq f "sum") (uu as S) (cond (sEq f "max") (dQ true as S) (cond (sEq f "min") (dQ false as S) (cond (sEq f "abs") (uw as S) (cond (sEq f "round") (dT as S) none)))))
def dU(as:List AV)(S:St):Ab (Rt AV):=match as with
 |[]=>none
 |a::t=>(intOf a).bind λx=>match t with
  |[]=>some ⟨.Gw 0 x 1,S⟩
  |b::t=>(intOf b).bind λy=>match t with
   |[]=>some ⟨.Gw x y 1,S⟩
   |e::t=>(intOf e).bind λz=>Af (nil t&&decide (z≠0/\z.natAbs<1073741824)) (some ⟨.Gw x y z,S⟩)
def uy(as:List AV)(S:St):Ab (Rt AV):=(one as).bind λa=>(KD a).bind λl=>((S.H[l]?).bind Z8).bind λp=>(YC p.2).bind λx=>Af (Bf x.length 100000&&Bf p.2.length 1000) (some ⟨.str ⟨x.toArray⟩,S⟩)
def uz(f:Str)(as:List AV)(S:St):Ab (Rt AV):=cond (sEq f "range") (dU as S) (cond (sEq f "str") (uy as S) none)
noncomputable def m6(v:AV):Ab Sq:=match v with | .BH c=>some c | _=>none
noncomputable def m8(v:AV):Ab (Int×Int×Int):=match v with | .Gw a b c=>some (a,b,c) | _=>none
def dX(wr:Nat)(as:List AV)(S:St):Ab (Rt AV):=(FT 106).bind λfi=>(CM r fi (.loc (S.H.length+1)::as) [] wr (S.on (S.H++[.dict [],.inst 165 S.H.length]))).bind λx=>Af (isNone x.v) (some ⟨.loc (S.H.length+1),x.S⟩)
def uA(as:List AV)(S:St):Ab (Rt AV):=(one as).bind λv=>some ⟨.loc (S.H.length+1),S.on (S.H++[.dict [("_initial_size",v)],.acc S.H.length []])⟩
noncomputable def m9:AV->Aa | .int _=>true | .str _=>true | _=>false
def dY(xs:List AV):Aa:=xs.all m9
def IL(a:Ah)(as:List AV)(S:St):Ab (Rt AV):=Af (dY as) ((FT a).bind λfi=>(CM r fi as [] 0 ⟨[],S.ob⟩).bind λx=>(OK x.v).bind λxs=>Af (dY xs) (some ⟨.tup xs,⟨S.H,x.S.ob⟩⟩))
def jy(wr:Nat)(a:Ah)(as:List AV)(ks:List (Str×AV))(S:St):Ab (Rt AV):=
 cond (Aw a 165) (Af (nil ks) (dX r wr as S)) (cond (Aw a 249) (Af (nil ks) (uA as S)) (cond (Aw a 279&&nil ks) (IL r a as S) ((FT a).bind λfi=>CM r fi as ks wr S)))
def nf(f:Str)(as:List AV)(ks:List (Str×AV))(S:St):Ab (Rt AV):=
 (one ks).bind λk=>(m6 k.2).bind λc=>(one as).bind λa=>(m8 a).bind λt=>Af ((sEq f "sorted" &&sEq k.1 "key")&&decide (t.2.2=1/\0<=t.1/\t.1+2<=t.2.1/\t.2.1<60))
  ((dP r c S.H.length (S.on (S.H++[.list [],.list []])) (W8 t.1 t.2.1)).bind λy=>(OR y.v []).bind λps=>some ⟨.lst (ps.map (·.1)),⟨S.H,y.S.ob⟩⟩)
def jz(wr:Nat)(f:Ad)(as:List AV)(ks:List (Str×AV))(S:St):Ab (Rt AV):=match f with
 |.ref a=>jy r wr a as ks S
 |.builtin n=>cond (nil ks) (ux n as S) (nf r n as ks S)
 |.type n=>Af (nil ks) (uz n as S)
 |_=>none
def A9(wr:Nat)(f:AV)(as:List AV)(ks:List (Str×AV))(S:St):Ab (Rt AV):=match f with
 |.val v=>jz r wr v as ks S
 |.BH c=>Xa r c as ks wr S
 |_=>none
set_option genCtorIdx true in
inductive MB where
 |append | extend | insert | Hj | join | split | Kh | isspace | Ki
noncomputable def MB.id:MB->A3
 |.append=>"list.append"
 |.extend=>"list.extend"
 |.insert=>"list.insert"
 |.Hj=>"list.index"
 |.join=>"str.join"
 |.split=>"str.split"
 |.Kh=>"str.index"
 |.isspace=>"str.isspace"
 |.Ki=>"int.bit_length"
set_option genInjectivity true in
set_option genCtorIdx true in
inductive Sy where
 |fn (a:Ah)
 |pop
 |parts
 |bi (b:MB)
def Cw(H:List AO)(d:Nat)(m:Str):Aa:=Bz ((H[d]?).bind TX) λes=>Dz (lk m es)
noncomputable def Sz:List (Str×Sy):=[("push",.fn 193),("pop_from",.fn 201),("reset",.fn 231),("is_onlyws",.fn 238),("pop",.pop),("part_count",.parts),("append",.bi .append)]
def Qv(S:St)(m:Str)(o:AO):Ab Sy:=match o with
 |.inst C d=>Af (Aw C 165&&Cw S.H d m) ((lk m D6).bind λa=>some (.fn a))
 |.acc d _=>Af (Cw S.H d m) (lk m Sz)
 |.list _=>lk m [("append",.bi .append),("extend",.bi .extend),("insert",.bi .insert)]
 |_=>none
def OS(S:St)(o:AV)(m:Str):Ab Sy:=match o with
 |.loc l=>(S.H[l]?).bind (Qv S m)
 |.lst _=>lk m [("index",.bi .Hj)]
 |.str _=>lk m [("join",.bi .join),("split",.bi .split),("index",.bi .Kh),("isspace",.bi .isspace)]
 |.int _=>lk m [("bit_length",.bi .Ki)]
 |_=>none
noncomputable def Qe(x:Str):List Str->Nat->Ab Nat
 |[],_=>none
 |y::r,i=>cond (sEq y x) (some i) (Qe x r (i+1))
noncomputable def SA:List Str->Nat
 |[]=>0
 |x::r=>CI x+SA r
def HH(wr:Nat)(S:St)(l:Nat)(o:AO):Ab (Rt AV):=(W6 wr S l o).bind λS'=>some ⟨.none,S'⟩
def uB(wr:Nat)(l:Nat)(as:List AV)(S:St):Ab (Rt AV):=((S.H[l]?).bind Z8).bind λp=>Af (nil as&&(Cw S.H p.1 "part_count" &&Bf p.2.length 1000))
 (match p.2.getLast? with
  |some v=>(W6 wr S l (.acc p.1 p.2.dropLast)).bind λS'=>some ⟨v,S'⟩
  |none=>some ⟨.tup [.str "",.str ""],S⟩)
def px(l:Nat)(as:List AV)(S:St):Ab (Rt AV):=((S.H[l]?).bind Z8).bind λp=>Af (nil as&&Bf p.2.length 1000) (some ⟨.int p.2.length,S⟩)
def jA(wr:Nat)(S:St)(l:Nat)(v:AV)(o:AO):Ab (Rt AV):=match o with
 |.list xs=>Af (Bf xs.length 1000) (HH wr S l (.list (xs++[v])))
 |.acc d xs=>Af (Bf xs.length 1000) (HH wr S l (.acc d (xs++[v])))
 |_=>none
def nh(wr:Nat)(b:MB)(o:AV)(as:List AV)(S:St):Ab (Rt AV):=match b with
 |.append=>(KD o).bind λl=>(one as).bind λv=>(S.H[l]?).bind (jA wr S l v)
 |.extend=>(KD o).bind λl=>(one as).bind λv=>((S.H[l]?).bind CW).bind λxs=>(DQ S.H v).bind λys=>Af (Bf (xs.length+ys.length) 1000) (HH wr S l (.list (xs++ys)))
 |.insert=>(KD o).bind λl=>(two as).bind λp=>(intOf p.1).bind λi=>((S.H[l]?).bind CW).bind λxs=>Af (decide (0<=i/\i<=xs.length/\xs.length<1000)) (HH wr S l (.list (xs.take i.toNat++p.2::xs.drop i.toNat)))
 |.Hj=>(one as).bind λv=>(strOf v).bind λx=>match o with
  |.lst xs=>(IH xs).bind λys=>(Qe x ys 0).bind λi=>Af (decide (xs.length<1000)) (some ⟨.int i,S⟩)
  |_=>none
 |.join=>(strOf o).bind λx=>(one as).bind λv=>(DQ S.H v).bind λxs=>(IH xs).bind λys=>Af (decide (CI x<=64/\SA ys+ys.length*64<=1000000)) (some ⟨.str ⟨(JD x.cps.toList ys).toArray⟩,S⟩)
 |.split=>(strOf o).bind λx=>(one as).bind λv=>(strOf v).bind λy=>(one y.cps.toList).bind λch=>Af (decide (CI x<10000)) (some ⟨.lst ((C7 ch x.cps.toList).map λp=>.str ⟨p.toArray⟩),S⟩)
 |.Kh=>(strOf o).bind λx=>(one as).bind λv=>(strOf v).bind λy=>(Ov x y 0 x.length 1).head?.bind λi=>some ⟨.int i,S⟩
 |.isspace=>(strOf o).bind λx=>Af (nil as) (some ⟨.bool (Txt.isspace x),S⟩)
 |.Ki=>(intOf o).bind λi=>Af (nil as) (some ⟨.int (Dy i),S⟩)
def IM(wr:Nat)(k:Sy)(o:AV)(as:List AV)(S:St):Ab (Rt AV):=match k with
 |.fn a=>(FT a).bind λfi=>CM r fi (o::as) [] wr S
 |.pop=>(KD o).bind λl=>uB wr l as S
 |.parts=>(KD o).bind λl=>px l as S
 |.bi b=>nh wr b o as S
def jB(fr:FD)(lo:Lo)(S:St)(o:Ab Expr):Ab (Rt (Ab Int)):=match o with
 |none=>some ⟨none,S⟩
 |some e=>(r.E fr lo S e).bind λx=>(intOf x.v).bind λi=>some ⟨some i,x.S⟩
def ni(S:St)(v:AV):Ab Src:=match v with
 |.lst xs=>some (.lst xs)
 |.tup xs=>some (.lst xs)
 |.loc l=>((S.H[l]?).bind CW).bind λ_=>some (.loc l)
 |.Gw a b c=>Af (decide (c≠0)&&RY a b c) (some (.Gw a b c))
 |.str x=>some (.str x.cps.toList)
 |_=>none
def OT(S:St)(v:AV):Ab Src:=match v with
 |.lst xs=>some (.lst xs)
 |.tup xs=>some (.lst xs)
 |.loc l=>((S.H[l]?).bind CW).bind λ_=>some (.loc l)
 |_=>none
def SD(src:Src)(t:Expr):Aa:=match src with
 |.zip .. =>T4 25 t
 |_=>true
def FR(fr:FD)(lo:Lo)(S:St)(e:Expr):Ab (Rt Src):=
 match (T5 e).bind λp=>Af (bw fr p.1 "zip") (some p.2) with
 |some as=>Af (noStar 8 as) ((Ji r fr lo S as).bind λx=>Af (Bf 2 x.v.length&&Bf x.v.length 3) ((Gn (OT x.S) x.v).bind λss=>some ⟨.zip x.S.H.length ss,x.S.on (x.S.H++[.raw x.v.length])⟩))
 |none=>Af (Gp e) ((r.E fr lo S e).bind λx=>(ni x.S x.v).bind λsrc=>some ⟨src,x.S⟩)
def Jv(fr:FD)(lo:Lo)(S:St)(t:Expr)(v:AV):Ab (Rt Lo):=match t with
 |.Name x _=>putN fr lo S x v
 |.Tuple ts _ _=>(mW S.H v).bind λvs=>KH fr lo S ts vs
 |_=>none
noncomputable def forL(fr:FD)(src:Src)(t:Expr)(body:List Az):Nat->Nat->Lo->St->Ab Rx
 |0,_,_,_=>none
 |k+1,i,lo,S=>(src.at S.H i).bind λo=>match o with
  |none=>some ⟨.next,lo,S⟩
  |some v=>(Jv fr lo S t v).bind λp=>(Xs r fr p.v p.S body).bind λx=>cond x.fl.GB (forL fr src t body k (i+1) x.lo x.S) (some x)
noncomputable def Hk(fr:FD)(t:Expr)(body:List Az):Nat->Lo->St->Ab Rx
 |0,_,_=>none
 |k+1,lo,S=>(r.T fr lo S t).bind λb=>cond b.v ((Xs r fr lo b.S body).bind λx=>cond x.fl.GB (Hk fr t body k x.lo x.S) (some x)) (some ⟨.next,lo,b.S⟩)
noncomputable def SE(fr:FD)(lo:Lo):St->List Expr->Ab (Rt Aa)
 |S,[]=>some ⟨true,S⟩
 |S,t::ts=>(r.T fr lo S t).bind λx=>cond x.v (SE fr lo x.S ts) (some x)
def Kj(S:St)(acc:Nat)(v:AV):Ab St:=((S.H[acc]?).bind CW).bind λxs=>Af (decide (xs.length<1000)) (some (setAt S acc (.list (xs++[v]))))
noncomputable def Ey(fr:FD)(acc:Nat)(src:Src)(t:Expr)(ifs:List Expr)(elt:Expr):Nat->Nat->Lo->St->Ab St
 |0,_,_,_=>none
 |k+1,i,lo,S=>(src.at S.H i).bind λo=>match o with
  |none=>some S
  |some v=>(Jv fr lo S t v).bind λp=>(SE r fr p.v p.S ifs).bind λb=>cond b.v ((r.E fr p.v b.S elt).bind λx=>(Kj x.S acc x.v).bind λS'=>Ey fr acc src t ifs elt k (i+1) p.v S') (Ey fr acc src t ifs elt k (i+1) p.v b.S)
noncomputable def Cy(fr:FD):List (Str×BX)->List (Str×Nat)->Ab (List (Str×Nat))
 |[],acc=>some acc
 |p::t,acc=>cond (isFree p.2) (Af (!W4 p.1) ((lk p.1 fr.cells).bind λl=>Cy fr t ((p.1,l)::acc))) (Cy fr t acc)
noncomputable def T8(fr:FD):List (Str×BX)->List (Str×BX)
 |[]=>[]
 |p::t=>cond (isFree p.2) ((p.1,cond (Bz (CX fr p.1) EY) .cell .free)::T8 fr t) (p::T8 fr t)
def Qw(all:List (Str×BX))(ns:List (Str×BX)):Aa:=ns.all λp => !isLocal p.2||Bz (lk p.1 all) isLocal
def DK(fr:FD)(n:Nat)(sc:BQ)(fc:List (Str×Nat)):FD:=⟨{sc with names:=T8 fr sc.names},IJ (n+1) sc.names fc,none,.none,fr.qual,n+1⟩
def SG(fr:FD)(S:St)(src:Src)(t:Expr)(ifs:List Expr)(elt:Expr)(sc:BQ):Ab (Rt AV):=
 Af (SD src t&&(Sx sc&&Qw sc.names sc.names)) ((Cy fr sc.names []).bind λfc=>
  (Ey r (DK fr S.H.length sc fc) S.H.length src t ifs elt 80 0 [] (S.on ((S.H++[.list []])++AK sc.names))).bind λS'=>letGo S ⟨.loc S.H.length,S'⟩)
def MQ(fr:FD)(lo:Lo)(S:St)(elt:Expr)(gs:List RM)(sc:BQ):Ab (Rt AV):=
 (one gs).bind λg=>Af (decide (g.is_async=0)) ((FR r fr lo S g.iter).bind λs=>SG r fr s.S s.v g.target g.ifs elt sc)
def codeOk(code:Ad)(q:Str):Aa:=match code with | .ref a=>TL.any λt=>Aw t.1 a&&sEq t.2.2 q | _=>false
def T9(fr:FD)(nm:Str)(ps:Ge)(sc:BQ):Aa:=
 KJ ps&&((nil ps.defaults&&nil ps.kw_defaults)&&(ps.args.all (λa=>Dz a.annotation)&&codeOk fr.code (fr.qual++nm)))
def dZ(v:Const):Ab AV:=match v with
 |.int i=>some (.int i)
 |.str x=>some (.str x)
 |.float x=>some (.AS x)
 |.bool b=>some (.bool b)
 |.none=>some .none
 |_=>none
def zO(x:Rt AV):Ab (Rt AV):=(intOf x.v).bind λi=>some ⟨.int (-i),x.S⟩
def zP(x:Rt AV):Ab (Rt AV):=(pd x.S x.v).bind λb=>some ⟨.bool (!b),x.S⟩
def Ua(fr:FD)(lo:Lo)(x:Rt AV)(op:G9)(b:Expr):Ab (Rt (AV×Aa)):=Af (Gp b) ((r.E fr lo x.S b).bind λy=>(Gz op x.v y.v y.S).bind λt=>some ⟨(y.v,t),y.S⟩)
def pz(fr:FD)(lo:Lo)(S:St)(a:Expr)(ops:List G9)(bs:List Expr):Ab (Rt AV):=
 match one ops with
 |some op=>(one bs).bind λb=>(r.E fr lo S a).bind λx=>(Ua r fr lo x op b).bind λy=>some ⟨.bool y.v.2,y.S⟩
 |none=>(two ops).bind λo=>(two bs).bind λb=>Af (Gp b.2) ((r.E fr lo S a).bind λx=>(Ua r fr lo x o.1 b.1).bind λy=>cond y.v.2 ((Ua r fr lo ⟨y.v.1,y.S⟩ o.2 b.2).bind λz=>some ⟨.bool z.v.2,z.S⟩) (some ⟨.bool false,y.S⟩))
def nj(fr:FD)(lo:Lo)(S:St)(op:BoolOp)(es:List Expr):Ab (Rt AV):=(two es).bind λp=>(r.E fr lo S p.1).bind λx=>(boolOf x.v).bind λb=>match op with
 |.And=>cond b (r.E fr lo x.S p.2) (some ⟨.bool false,x.S⟩)
 |.Or=>cond b (some ⟨.bool true,x.S⟩) (r.E fr lo x.S p.2)
def Xb(S:St)(v:AV)(l u:Ab Int):Ab (Rt AV):=match v with
 |.str x=>some ⟨.str (Ox x l u),S.need (decide (CI x<2^20))⟩
 |.tup xs=>l.bind λi=>Af (Dz u&&decide (1<=i/\i<=xs.length/\xs.length<100000)) (some ⟨.tup (xs.drop i.toNat),S⟩)
 |v=>(Qs S.H v).bind λxs=>Af (decide (xs.length<100000)) (some ⟨.lst (OO xs l u),S⟩)
def ai(fr:FD)(lo:Lo)(S:St)(o i:Expr):Ab (Rt AV):=(r.E fr lo S o).bind λx=>match Fu i with
 |none=>(r.E fr lo x.S i).bind λk=>(II k.S x.v k.v).bind λv=>some ⟨v,k.S⟩
 |some t=>match t.2.2 with
  |none=>(jB r fr lo x.S t.1).bind λl=>(jB r fr lo l.S t.2.1).bind λu=>Xb u.S x.v l.v u.v
  |some st=>t.1.bind λl=>(pe l).bind λi=>(pe st).bind λk=>(DQ x.S.H x.v).bind λxs=>Af (decide (k=2/\0<=i)&&Dz t.2.1) (some ⟨.lst (Cu (xs.drop i.toNat)),x.S.need (decide (xs.length<100000))⟩)
def KO(x:Rt AV):Ab (Rt AV):=(DQ x.S.H x.v).bind λxs=>(Nc xs []).bind λis=>Af (decide (xs.length<1000)) (some ⟨.int is.length,x.S⟩)
def Ub(fr:FD)(lo:Lo)(S:St)(x:Str)(as:List Expr)(ks:List EN):Ab (Rt AV):=match Hi fr x as ks with
 |some e=>(r.E fr lo S e).bind KO
 |none=>Af (noStar 200 as) ((nameA fr lo S x).bind λf=>(Ji r fr lo S as).bind λvs=>(Sw r fr lo vs.S ks).bind λkv=>A9 r fr.wr f vs.v kv.v kv.S)
noncomputable def nk(k:Sy):Ab Ah:=match k with | .fn a=>some a | _=>none
def SH(fr:FD)(lo:Lo)(S:St)(o:Expr)(m:Str)(as:List Expr):Ab (Rt AV):=(r.E fr lo S o).bind λx=>(OS x.S x.v m).bind λk=>match Nv as with
 |some e=>(r.E fr lo x.S e).bind λy=>(OK y.v).bind λvs=>(nk k).bind λa=>IM r fr.wr (.fn a) x.v vs y.S
 |none=>Af (noStar 20 as) ((Ji r fr lo x.S as).bind λvs=>IM r fr.wr k x.v vs.v vs.S)
def uC(fr:FD)(lo:Lo)(S:St)(f:Expr)(as:List Expr)(ks:List EN)(p:Pos):Ab (Rt AV):=match f with
 |.Name x _=>Ub r fr lo S x as ks
 |.Attribute o m ap=>Af (nil ks&&(baseOk o&&(ap.endLine==p.line))) (SH r fr lo S o m as)
 |_=>none
def nt(fr:FD)(lo:Lo)(S:St)(e:Expr):Ab (Rt AV):=
 match e with
 |.Name x _=>(nameA fr lo S x).bind λv=>some ⟨v,S⟩
 |.Constant v _ _=>(dZ v).bind λv=>some ⟨v,S⟩
 |.BinOp a op b _=>(r.E fr lo S a).bind λx=>(r.E fr lo x.S b).bind λy=>uj op x.v y.v y.S
 |.UnaryOp op a _=>(match op with
  |.USub=>(r.E fr lo S a).bind zO
  |.Not=>(r.E fr lo S a).bind zP
  |_=>none)
 |.Compare a ops bs _=>pz r fr lo S a ops bs
 |.BoolOp op es _=>nj r fr lo S op es
 |.IfExp t a b _=>(r.T fr lo S t).bind λx=>cond x.v (r.E fr lo x.S a) (r.E fr lo x.S b)
 |.List es _=>Af (noStar 200 es) ((Ji r fr lo S es).bind λx=>some ⟨.lst x.v,x.S⟩)
 |.Tuple es _ _=>Af (noStar 200 es) ((Ji r fr lo S es).bind λx=>some ⟨.tup x.v,x.S⟩)
 |.Lambda ps body sc _=>Af (T9 fr "<lambda>" ps sc) ((Cy fr sc.names []).bind λfc=>some ⟨.BH ⟨"<lambda>",fr.qual++"<lambda>",ps,.expr body,sc,fc⟩,S⟩)
 |.ListComp elt gs sc _=>MQ r fr lo S elt gs sc
 |.Attribute o x _=>Af (baseOk o) ((r.E fr lo S o).bind λy=>(m3 y.S y.v x).bind λa=>some ⟨a,y.S⟩)
 |.Subscript o i _=>ai r fr lo S o i
 |.Call f as ks p=>uC r fr lo S f as ks p
 |_=>none
def Qx(fr:FD)(lo:Lo)(S:St)(e:Expr):Ab (Rt Aa):=Af (plainT e) ((r.E fr lo S e).bind λx=>(pd x.S x.v).bind λb=>some ⟨b,x.S⟩)
def stepT(fr:FD)(lo:Lo)(S:St)(e:Expr):Ab (Rt Aa):=
 match e with
 |.UnaryOp op a _=>(match op with
  |.Not=>(r.T fr lo S a).bind λx=>some ⟨!x.v,x.S⟩
  |_=>none)
 |.BoolOp op es p=>(match es with
  |[]=>(match op with
   |.And=>some ⟨true,S⟩
   |.Or=>some ⟨false,S⟩)
  |a::as=>(r.T fr lo S a).bind λx=>(match op with
   |.And=>cond x.v (r.T fr lo x.S (.BoolOp .And as p)) (some x)
   |.Or=>cond x.v (some x) (r.T fr lo x.S (.BoolOp .Or as p))))
 |.Compare a ops bs _=>(one ops).bind λop=>(one bs).bind λb=>(r.E fr lo S a).bind λx=>(Ua r fr lo x op b).bind λy=>some ⟨y.v.2,y.S⟩
 |e=>Qx r fr lo S e
def Xc(x:Rt (List AV)):Ab (Rt AV):=some ⟨.loc x.S.H.length,x.S.on (x.S.H++[.list x.v])⟩
def OU(fr:FD)(lo:Lo)(S:St)(x:Str)(e:Expr):Ab (Rt AV):=
 cond (Kg x MO) (match Qu e with
  |some es=>Af (noStar 200 es) ((Ji r fr lo S es).bind Xc)
  |none=>match ae e with
   |some p=>Af (noStar 200 [p.1]) ((r.E fr lo S p.1).bind λv=>(r.E fr lo v.S p.2).bind λk=>(intOf k.v).bind λy=>Af (decide (0<=y/\y<1000)) (Xc ⟨ON [v.v] y.toNat,k.S⟩))
   |none=>r.E fr lo S e) (r.E fr lo S e)
def Bw(e:Expr):Str:=match Qt e with | some p=>p.1 | none=>""
noncomputable def d7(fr:FD)(lo:Lo):St->List Expr->List Expr->Ab (Rt (List AV))
 |S,[],es=>Af (nil es) (some ⟨[],S⟩)
 |S,t::ts,es=>match es with
  |[]=>none
  |e::es=>(OU r fr lo S (Bw t) e).bind λx=>(d7 fr lo x.S ts es).bind λy=>some ⟨x.v::y.v,y.S⟩
def uD(fr:FD)(line:Nat)(x:Str)(p:Pos):Ab Str:=if (CX fr x==some .local&&p.line==line)=true then some x else none
def OW(fr:FD)(line:Nat)(ts:List Expr):List Str:=ts.filterMap λt=>(Qt t).bind λx=>uD fr line x.1 x.2
def uE(names:List Str)(ts vs:List Expr):Ab (Ab (List Str)):=cond (names.length !=ts.length||names.eraseDups.length !=names.length) (some none) (cond (vs.all (foldedForSure 8)) (some none) (Af (!vs.all (constantsAlone 8)) (some (some names))))
def YF(fr:FD)(ts vs:List Expr):Ab (Ab (List Str)):=cond (!(ts.length==2||ts.length==3)||vs.length !=ts.length) (some none) (uE (OW fr ((ts.head?.map (·.pos.line)).getD 0) ts) ts vs)
noncomputable def nx(lo:Lo)(S:St):Ab Rx:=some ⟨.next,lo,S⟩
def Hl(o:Ab (Rt Lo)):Ab Rx:=o.bind λp=>nx p.v p.S
def OX(fr:FD)(lo:Lo)(S:St)(x:Str)(e:Expr):Ab Rx:=match MP e with
 |some c=>(MQ r fr lo S c.1 c.2.1 c.2.2).bind λv=>Hl (putN fr lo v.S x v.v)
 |none=>Af (Hh e) ((OU r fr lo S x e).bind λv=>Hl (putN fr lo v.S x v.v))
noncomputable def jC(v:AV):Ab (List AV):=match v with
 |.tup xs=>some xs
 |.lst xs=>some xs
 |_=>none
def d8(fr:FD)(lo:Lo)(S:St)(ts:List Expr)(e:Expr):Ab Rx:=match aa e with
 |some es=>Af (noStar 200 es) ((YF fr ts es).bind λo=>(d7 r fr lo S ts es).bind λvs=>match o with
  |none=>Hl (KH fr lo vs.S ts vs.v)
  |some xs=>Hl (T6 fr lo vs.S xs.reverse vs.v.reverse))
 |none=>(r.E fr lo S e).bind λv=>(jC v.v).bind λvs=>Hl (KH fr lo v.S ts vs)
def uF(fr:FD)(lo:Lo)(S:St)(o:Expr)(x:Str)(e:Expr):Ab Rx:=(OU r fr lo S x e).bind λv=>(r.E fr lo v.S o).bind λov=>(uo fr ov.S ov.v x v.v).bind λS'=>nx lo S'
def uG(fr:FD)(lo:Lo)(S:St)(o i e:Expr):Ab Rx:=(r.E fr lo S e).bind λv=>(r.E fr lo v.S o).bind λov=>(KD ov.v).bind λl=>match Fu i with
 |some t=>Af (Dz t.2.1&&Dz t.2.2) ((jB r fr lo ov.S t.1).bind λk=>((k.S.H[l]?).bind Z8).bind λp=>(DQ k.S.H v.v).bind λvs=>Af (decide (p.2.length<1000/\vs.length<1000))
   ((W6 fr.wr k.S l (.acc p.1 (p.2.take (k.v.elim 0 (DF p.2.length))++vs))).bind λS'=>nx lo S'))
 |none=>(r.E fr lo ov.S i).bind λk=>(intOf k.v).bind λj=>((k.S.H[l]?).bind CW).bind λxs=>Af (decide (0<=j/\j<xs.length/\xs.length<100000)) ((W6 fr.wr k.S l (.list (xs.set j.toNat v.v))).bind λS'=>nx lo S')
def uH(fr:FD)(lo:Lo)(S:St)(t e:Expr):Ab Rx:=match t with
 |.Name x _=>OX r fr lo S x e
 |.Tuple ts _ _=>d8 r fr lo S ts e
 |.Attribute o x _=>uF r fr lo S o x e
 |.Subscript o i _=>uG r fr lo S o i e
 |_=>none
def IQ(x:Rx):Rx:=cond x.fl.mY ⟨.next,x.lo,x.S⟩ x
def uI(fr:FD)(lo:Lo)(S:St)(t:Expr)(op:Operator)(e:Expr):Ab Rx:=match op with
 |.Add=>(Qt t).bind λx=>Af (Bz (CX fr x.1) isLocal) ((lk x.1 lo).bind λv=>(intOf v).bind λa=>(r.E fr lo S e).bind λy=>(intOf y.v).bind λb=>Hl (putN fr lo y.S x.1 (.int (a+b))))
 |_=>none
def ny(fr:FD)(lo:Lo)(S:St)(st:Az):Ab Rx:=
 match st with
 |.Pass _=>nx lo S
 |.Break _=>some ⟨.brk,lo,S⟩
 |.Continue _=>some ⟨.cont,lo,S⟩
 |.Return o _=>(match o with
  |none=>some ⟨.ret .none,lo,S⟩
  |some e=>(r.E fr lo S e).bind λx=>some ⟨.ret x.v,lo,x.S⟩)
 |.Expr e _=>Af (Hh e) ((r.E fr lo S e).bind λx=>nx lo x.S)
 |.If t a b _=>(r.T fr lo S t).bind λx=>cond x.v (Xs r fr lo x.S a) (Xs r fr lo x.S b)
 |.While t b oe _=>Af (nil oe) ((Hk r fr t b 60 lo S).bind λx=>some (IQ x))
 |.For t it b oe _=>(FR r fr lo S it).bind λs=>Af (SD s.v t) ((forL r fr s.v t b 80 0 lo s.S).bind λx=>cond x.fl.C8 (Xs r fr x.lo x.S oe) (some (IQ x)))
 |.Assign ts e _=>(one ts).bind λt=>uH r fr lo S t e
 |.AugAssign t op e _=>uI r fr lo S t op e
 |.FunctionDef n ps b ds rt tps sc ts bd _=>Af (T9 fr n ps sc&&(sEq n bd&&(nil ds&&(Dz rt&&(nil tps&&Dz ts))))) ((Cy fr sc.names []).bind λfc=>Hl (putN fr lo S n (.BH ⟨n,fr.qual++n,ps,.stmts b,sc,fc⟩)))
 |_=>none
end
noncomputable def ev:Nat->Ev
 |0=>⟨λ_ _ _ _=>none,λ_ _ _ _=>none,λ_ _ _ _=>none⟩
 |n+1=>⟨nt (ev n),stepT (ev n),ny (ev n)⟩
def aj(n:Nat)(xs:List Int):Ab (Rt AV):=A9 (ev n) 0 (.val (.ref 294)) [.lst (xs.map .int)] [] ⟨[],true⟩
section
open PySem.Spec PySem.Calls
section
variable{P:α->Prop}{P':β->Prop}
theorem Ok.none:Ok (none:Ab α) P:=λ_ e=>nomatch e
theorem Ok.some(h:P a):Ok (some a) P:=λ_ e=>AQ e▸h
theorem Ok.bind(h:Ok o P)(k:∀a,P a->Ok (f a) P'):Ok (o.bind f) P':=by
 induction o using BK with
 |none=>exact .none
 |some a=>exact k a (h a rfl)
theorem Ok.self{o:Ab α}:Ok o λa=>o=Ab.some a:=λ_ e=>e
theorem Ok.guard(h:b=true->Ok o P):Ok (Af b o) P:=by
 rcases b with ⟨⟩
 ·exact .none
 ·exact h rfl
theorem Ok.cond(h:b=true->Ok x P)(k:b=false->Ok y P):Ok (cond b x y) P:=by
 rcases b with ⟨⟩
 ·exact k rfl
 ·exact h rfl
theorem Ok.mono(h:Ok o P)(k:∀a,P a->Q a):Ok o Q:=λa e=>k a (h a e)
end
theorem Ax(h:(a&&b)=true):a=true:=by rcases a with ⟨⟩;exact h;rfl
theorem Am(h:(a&&b)=true):b=true:=by rcases a with ⟨⟩;rcases h with ⟨⟩;exact h
theorem HN(h:(!a)=true):a=false:=by rcases a with ⟨⟩;rfl;rcases h with ⟨⟩
theorem Cz:Ok (strOf v) λx=>v=.str x:=by rcases v with ⟨⟩<;>first | exact .none | exact .some rfl
theorem Bd:Ok (intOf v) λx=>v=.int x:=by rcases v with ⟨⟩<;>first | exact .none | exact .some rfl
theorem IS:Ok (JE v) λx=>v=.AS x:=by rcases v with ⟨⟩<;>first | exact .none | exact .some rfl
theorem Fv:Ok (OK v) λx=>v=.tup x:=by rcases v with ⟨⟩<;>first | exact .none | exact .some rfl
theorem Ez:Ok (KD v) λx=>v=.loc x:=by rcases v with ⟨⟩<;>first | exact .none | exact .some rfl
theorem OY:Ok (Yx v) λx=>v=.bool x:=by rcases v with ⟨⟩<;>first | exact .none | exact .some rfl
theorem Qy:Ok (boolOf v) λx=>v=.bool x:=by rcases v with ⟨⟩<;>first | exact .none | exact OY.mono λ_ e=>Ai AV.val e
theorem ff{P:Prop}(h:false=true):P:=AL h BI
theorem Qz{v:AV}(h:isNone v=true):v=.none:=by
 induction v using AV.casesOn with
 |val v=>rcases v with ⟨⟩<;>first | rfl | exact ff h
 |_=>exact ff h
theorem d9:Ok (CW v) λx=>v=.list x:=by rcases v with ⟨⟩<;>first | exact .none | exact .some rfl
theorem jD:Ok (Z8 v) λx=>v=.acc x.1 x.2:=by rcases v with ⟨⟩<;>first | exact .none | exact .some rfl
theorem ee:Ok (Yy v) λx=>v=.cell x:=by rcases v with ⟨⟩<;>first | exact .none | exact .some rfl
theorem ef:Ok (TX v) λx=>v=.dict x:=by rcases v with ⟨⟩<;>first | exact .none | exact .some rfl
theorem jE:Ok (jx v) λx=>v=.raw x:=by rcases v with ⟨⟩<;>first | exact .none | exact .some rfl
theorem Uc{H:List AO}{l:Nat}{g:α->AO}(h:∀{v},Ok (f v) λx=>v=g x):Ok ((H[l]?).bind f) λx=>H[l]?=some (g x):=Ok.self.bind λ_ e=>h.mono λ_ q=>q▸e
theorem listAt{H:List AO}{l:Nat}:Ok ((H[l]?).bind CW) λx=>H[l]?=some (.list x):=Uc d9
theorem SI{H:List AO}{l:Nat}:Ok ((H[l]?).bind Z8) λx=>H[l]?=some (.acc x.1 x.2):=Uc jD
theorem cellAt{H:List AO}{l:Nat}:Ok ((H[l]?).bind Yy) λx=>H[l]?=some (.cell x):=Uc ee
theorem dictAt{H:List AO}{l:Nat}:Ok ((H[l]?).bind TX) λx=>H[l]?=some (.dict x):=Uc ef
theorem uJ{H:List AO}{l:Nat}:Ok ((H[l]?).bind jx) λx=>H[l]?=some (.raw x):=Uc jE
theorem BD{l:List α}:Ok (one l) λx=>l=[x]:=by
 induction l using B9 with
 |nil=>exact .none
 |cons a l=>induction l using B9 with
  |nil=>exact .some rfl
  |cons=>exact .none
theorem Ms{l:List α}:Ok (two l) λx=>l=[x.1,x.2]:=by
 induction l using B9 with
 |nil=>exact .none
 |cons a l=>induction l using B9 with
  |nil=>exact .none
  |cons b l=>induction l using B9 with
   |nil=>exact .some rfl
   |cons=>exact .none
theorem Bj{l:List α}(h:nil l=true):l=[]:=by rcases l with ⟨⟩;rfl;rcases h with ⟨⟩
theorem CN{l:Ab α}(h:Dz l=true):l=.none:=by rcases l with ⟨⟩;rfl;rcases h with ⟨⟩
structure A5(d:Nat)(A:AG):Prop where
 handled:A.handled=none
 depth:A.depth+d<900
 units:A.units+20*d+40<9900
 frames:∃l,A.frames=some l
theorem A5.le(R:A5 d A)(h:d'<=d):A5 d' A:=⟨R.handled,CE (GW h _) R.depth,CE (Rn (GW (JA _ h) _) _) R.units,R.frames⟩
theorem A5.deeper(R:A5 (d+1) A):A5 d (A.deeper env):=by
 obtain ⟨l,hl⟩:=R.frames
 exact⟨R.handled,by have:=R.depth;simp only[AG.deeper];exact(pw [.t (.A .p (.A .q (.k 1))) (.k 900)] (.t (.A (.A .p (.k 1)) .q) (.k 900)) [] [_,_]) this,by have:=R.units;simp only[AG.deeper];exact(pw [.t (.A (.A .p (.m 20 (.A .q (.k 1)))) (.k 40)) (.k 9900)] (.t (.A (.A (.A .p (.k 3)) (.m 20 .q)) (.k 40)) (.k 9900)) [] [_,_]) this,⟨env::l,by simp[AG.deeper,hl]⟩⟩
theorem A5.in1(R:A5 (d+1) A):A5 d A.in1:=⟨R.handled,by have:=R.depth;exact(pw [.t (.A .p (.A .q (.k 1))) (.k 900)] (.t (.A .p .q) (.k 900)) [] [_,_]) this,by have:=R.units;exact(pw [.t (.A (.A .p (.m 20 (.A .q (.k 1)))) (.k 40)) (.k 9900)] (.t (.A (.A (.A .p (.k 1)) (.m 20 .q)) (.k 40)) (.k 9900)) [] [_,_]) this,R.frames⟩
theorem A5.rl(R:A5 d A):A.depth<recursionLimit:=by have:=R.depth;exact(pw [.t (.A .p .q) (.k 900)] (.t .p (.k 1000)) [] [_,_]) this
theorem A5.cl(R:A5 d A):A.units<cLine:=by have:=R.units;exact(pw [.t (.A (.A .p (.m 20 .q)) (.k 40)) (.k 9900)] (.t .p (.k 9900)) [] [_,_]) this
def Glob(h:Ay)(x:Str)(v:Ad):Prop:=
 ∃mg mb,h.Ns DO mg/\h.Ns C4 mb/\(mg x=some v\/(mg x=none/\mb x=some v))
structure Cx where
 prog:Dq
 w:DG
 B:Aj
 K:AI
 yI:K.In B.heap
 knt:∀b o,K.lookup b=some o->b∉TB
 tabs:TabsOk B.heap
 nolimit:B.heap.NoLimit
 names:∃mg mb bm ob,B.heap.Ns DO mg/\B.heap.Ns C4 mb/\mg "__builtins__" =some (.ref bm)/\bm≠C4/\B.heap.get? bm=some ob/\ob.cls=.type "module" /\ob.dict=some C4/\ob.data=.plain
 gt:∀x v,lk x GT=some v->Glob B.heap x v
abbrev Cx.m(c:Cx):=AW c.prog c.w
structure Bu(π:Pl)(n:Nat)(fr:FD)(env:Env):Prop where
 scope:env.scope=fr.scope
 kind:fr.scope.kind=.function
 glob:env.globals=DO
 bi:env.builtins=C4
 cells:∀x,(x==("__class__" :Str))=false->env.cells.lookup x=(fr.cells.lookup x).map π.at'
 cls:fr.cls.isSome=true->env.cells.lookup ("__class__" :Str)=some 173
 lt:∀x l,fr.cells.lookup x=some l->l<n
 code:fr.code≠.none->env.code=fr.code
 qual:env.qual=fr.qual
 wr:fr.wr<=n
def OV(π:Pl)(n:Nat)(h:Ay)(v:Ab AV)(cv:Ab Ad):Prop:=match v with
 |none=>cv=none
 |some v=>∃w,cv=some w/\As π n h v w
theorem OV.step(S:Ju π n h π' n' h'){v cv}(r:OV π n h v cv):OV π' n' h' v cv:=by
 induction v using BK with
 |none=>exact r
 |some v=>exact r.imp λ_ r=>⟨r.1,r.2.step S⟩
def IT(π:Pl)(n:Nat)(h:Ay):AO->Ah->Prop
 |.list xs,a=>∃vs k,h.get? a=some {cls:=.type "list",data:=.seq vs k}/\Ag π n h xs vs.toList
 |.cell v,a=>∃cv,h.get? a=some {cls:=.type "cell",data:=.cell cv}/\OV π n h v cv
 |.dict es,a=>∃m o,h.Ns1 a m/\Within m (KE++KG)/\h.get? a=some o/\∀x,OV π n h (es.lookup x) (m x)
 |.acc d xs,a=>∃vs k sl,h.get? a=some ⟨.ref 249,some (π.at' d),.seq vs k,sl⟩/\d<n/\Ag π n h xs vs.toList
 |.inst C d,a=>∃sl,h.get? a=some ⟨.ref C,some (π.at' d),.plain,sl⟩/\d<n
 |.OI,_=>True
 |.raw n,a=>∃vs k,h.get? a=some {cls:=.type "tuple",data:=.seq vs k}/\vs.size=n
structure Av(c:Cx)(π:Pl)(H:List AO)(s:Aj):Prop where
 base:Kp no c.B s
 objs:∀l o,H[l]?=some o->IT π H.length s.heap o (π.at' l)
 inj:∀l l',l<H.length->l'<H.length->π.at' l=π.at' l'->l=l'
 mem:∀l,l<H.length->π.M (π.at' l)
 new:∀b,π.M b->c.B.heap.get? b=none
 ex:∀b,π.M b->∃o,s.heap.get? b=some o/\Jh o
structure Br(c:Cx)(π:Pl)(n:Nat)(h:Ay)(L:Ah)(lo:Lo):Prop where
 ns:∃m,h.Ns L m/\∀x v,lo.lookup x=some v->∃cv,m x=some cv/\As π n h v cv
 nl:¬ π.M L
 new:c.B.heap.get? L=none
theorem Av.tabs{c π H s}(G:Av c π H s):TabsOk s.heap:=G.base.tok c.tabs
theorem Av.lt{c π H s}(G:Av c π H s)(e:H[l]?=some o):l<H.length:=by obtain ⟨h,_⟩:=NZ.mp e;exact h
theorem IT.step(S:Ju π n h π' n' h')(up:∀o',h.get? a=some o'->h'.get? a=some o')(r:IT π n h o a):IT π' n' h' o a:=by
 induction o using AO.casesOn with
 |list xs=>exact AH r λvs r=>r.elim λk r=>⟨vs,k,up _ r.1,r.2.step S⟩
 |cell v=>exact AH r λcv r=>⟨cv,up _ r.1,r.2.step S⟩
 |dict es=>exact AH r λm r=>r.elim λo r=>⟨m,o,AH r.1 λo' q=>q.elim λes q=>q.elim λep q=>⟨o',es,ep,up _ q.1,q.2⟩,r.2.1,up _ r.2.2.1,λx=>(r.2.2.2 x).step S⟩
 |acc d xs=>exact AH r λvs r=>r.elim λk r=>r.elim λsl r=>⟨vs,k,sl,by rw[S.ag d r.2.1];exact up _ r.1,BW r.2.1 S.le,r.2.2.step S⟩
 |inst C d=>exact AH r λsl r=>⟨sl,by rw[S.ag d r.2];exact up _ r.1,BW r.2 S.le⟩
 |OI=>exact r
 |raw k=>exact AH r λvs r=>r.elim λj r=>⟨vs,j,up _ r.1,r.2⟩
theorem Av.ok{c π H s}(G:Av c π H s)(hb:π.M b)(e:s.heap.get? b=some o):Jh o:=(G.ex b hb).elim λ_ q=>AQ (q.1.symm.trans e)▸q.2
theorem Av.keep{c π H}(G:Av c π H s)(K:Kp X s s')(hb:π.M b)(hx:¬ X b)(e:s.heap.get? b=some o):s'.heap.get? b=some o:=
 K.keep _ _ hx (G.tabs.W0 e (G.ok hb e)) e
section
variable{π:Pl}
theorem Kp.base(G:Av c π H s)(K:Kp X s s')(hB:∀b,X b->c.B.heap.get? b=none):Kp no c.B s':=
 G.base.trans' K (λ_ x=>x.elim) λb o x e=>nomatch (hB b x).symm.trans e
theorem Av.upd(G:Av c π H s)(K:Kp X s s')(hok:mV π s.heap X)(hnf:jw s.heap X)(hB:∀b,X b->c.B.heap.get? b=none)
  (hex:∀b,X b->π.M b->∃o,s'.heap.get? b=some o/\Jh o)(hlen:H'.length=H.length)
  (ho:∀l o,H'[l]?=some o->(H[l]?=some o/\¬ X (π.at' l))\/IT π H.length s'.heap o (π.at' l)):Av c π H' s' where
 base:=K.base G hB
 objs:=λl o e=>hlen▸(ho l o e).elim (λq=>(G.objs l o q.1).step (K.Eo G.tabs hok hnf (AP _) (λ_ _=>rfl) λ_ h=>.inl h) λ_ e=>G.keep K (G.mem l (G.lt q.1)) q.2 e) id
 inj:=by rw[hlen];exact G.inj
 mem:=by rw[hlen];exact G.mem
 new:=G.new
 ex:=λb hb=>(DI (X b)).elim (λhx=>hex b hx hb) λhx=>(G.ex b hb).imp λ_ q=>⟨G.keep K hb hx q.1,q.2⟩
theorem Av.DU(G:Av c π H s)(K:Kp no s s'):Av c π H s':=
 G.upd K .no .no (λ_ x=>x.elim) (λ_ x=>x.elim) rfl λl o e=>.inl ⟨e,id⟩
theorem Av.set(G:Av c π H s)(hl:l<H.length)(K:Kp (λb=>b=π.at' l) s s')(ho:IT π H.length s'.heap o (π.at' l))(hex:∃o,s'.heap.get? (π.at' l)=some o/\Jh o):
  Av c π (H.set l o) s':=by
 refine G.upd K (λb q=>.inl (q▸G.mem l hl)) (λb ob q e=>G.ok (G.mem l hl) (q▸e)) (λb q=>q▸G.new _ (G.mem l hl)) (λb q _=>q▸hex) F4 λj ob e=>?_
 by_cases q:l=j
 ·subst q;rw[bU hl] at e;exact .inr (AQ e▸ho)
 ·rw[Rb q] at e
  exact .inl ⟨e,λx=>q (G.inj j l (G.lt e) hl x).symm⟩
def ext(π:Pl)(n:Nat)(a:Ah):Pl:=⟨λl=>if l=n then a else π.at' l,λb=>π.M b\/b=a⟩
theorem Ep{π n a l}(h:l<n):(ext π n a).at' l=π.at' l:=AD (EI h)
theorem D8{π n a}:(ext π n a).at' n=a:=Bh rfl
theorem Av.absent(G:Av c π H s)(ha:s.heap.get? a=none):c.B.heap.get? a=none:=by
 cases e:c.B.heap.get? a with
 |none=>rfl
 |some ob=>exact(G.base.there _ _ id e).elim λ_ q=>nomatch ha.symm.trans q
theorem Av.fresh(G:Av c π H s)(ha:s.heap.get? a=none):¬ π.M a:=λq=>(G.ex a q).elim λ_ q=>nomatch ha.symm.trans q.1
theorem Bx(h:Ay){a:Ah}(ha:h.objs.size<=a):h.get? a=none:=by
 cases e:h.get? a with
 |none=>rfl
 |some o=>exact AL (Ex e) (EJ.mpr ha)
theorem Av.Kk(G:Av c π H s):¬ π.M s.heap.objs.size:=G.fresh (Bx _ (AP _))
theorem eh{h:Ay}(ha:h.get? a=none)(b)(hb:π.M b\/b=a):π.M b\/h.get? b=none:=hb.elim .inl λq=>.inr (q▸ha)
theorem Av.uK(G:Av c π H s)(ha:s.heap.get? a=none)(b)(hb:π.M b\/b=a):c.B.heap.get? b=none:=hb.elim (G.new b) λq=>q▸G.absent ha
theorem Av.zQ(G:Av c π H s)(K:Kp no s s')(hex:∃o,s'.heap.get? a=some o/\Jh o)(b)(hb:π.M b\/b=a):∃o,s'.heap.get? b=some o/\Jh o:=
 hb.elim (λhb=>(G.ex b hb).imp λ_ q=>⟨G.keep K hb id q.1,q.2⟩) λq=>q▸hex
theorem Av.add(G:Av c π H s)(K:Kp no s s')(ha:s.heap.get? a=none){o:AO}(ho:IT (ext π H.length a) (H.length+1) s'.heap o a)(hex:∃o,s'.heap.get? a=some o/\Jh o):
  Av c (ext π H.length a) (H++[o]) s':=by
 have hlen:(H++[o]).length=H.length+1:=BO
 have cs:∀l,l<(H++[o]).length->l<H.length\/l=H.length:=λl h=>Nat.lt_or_eq_of_le (Wj (Nat.lt_of_lt_of_eq h hlen))
 have hn:∀k,k<H.length->π.at' k≠a:=λk hk q=>G.fresh ha (q▸G.mem k hk)
 refine⟨G.base.trans K,λj ob e=>hlen▸?_,λi j hi hj e=>?_,λi hi=>(cs i hi).elim (λh=>by rw[Ep h];exact .inl (G.mem i h)) λh=>by rw[h,D8];exact .inr rfl,G.uK ha,G.zQ K hex⟩
 ·refine(cs j (NZ.mp e).1).elim (λhj=>?_) λhj=>?_
  ·rw[Ra hj] at e
   rw[Ep hj];exact(G.objs j ob e).step (K.Eo G.tabs .no .no (Dw _) (λ_ h=>Ep h) (eh ha)) λ_ e=>G.keep K (G.mem j hj) id e
  ·subst hj
   rw[bR] at e
   rw[D8];exact AQ e▸ho
 ·refine(cs i hi).elim (λhi=>(cs j hj).elim (λhj=>G.inj i j hi hj ?_) λhj=>?_) λhi=>(cs j hj).elim (λhj=>?_) λhj=>hi.trans hj.symm
  ·rw[Ep hi,Ep hj] at e;exact e
  ·rw[hj,Ep hi,D8] at e;exact AL e (hn i hi)
  ·rw[hi,Ep hj,D8] at e;exact AL e.symm (hn j hj)
end
def Xw(π:Pl)(L:Ab Ah):Ah->Prop:=λb=>L=some b\/π.M b
structure PG(c:Cx)(wr:Nat)(L:Ab Ah)(π:Pl)(H:List AO)(s:Aj)(H':List AO)(π':Pl)(s':Aj):Prop where
 le:H.length<=H'.length
 old:∀l,l<wr->H'[l]?=H[l]?
 agree:∀l,l<H.length->π'.at' l=π.at' l
 ei:∀l,H.length<=l->l<H'.length->s.heap.get? (π'.at' l)=none
 mono:∀b,π.M b->π'.M b
 new:∀b,π'.M b->π.M b\/s.heap.get? b=none
 kp:Kp (Xw π L) s s'
 there:∀b o,s.heap.get? b=some o->∃o',s'.heap.get? b=some o'
 g:Av c π' H' s'
 same:∀b o,π.M b->(∀l,wr<=l->l<H.length->π.at' l≠b)->s.heap.get? b=some o->s'.heap.get? b=some o
section
variable{s s' HM:Aj}
theorem PG.pure(G:Av c π H s)(K:Kp no s s'):PG c wr L π H s H π s':=
 ⟨AP _,λ_ _=>rfl,λ_ _=>rfl,λl h1 h2=>AL h2 (EJ.mpr h1),λ_ h=>h,λ_ h=>.inl h,K.weaken λ_ x=>x.elim,λb o e=>K.there b o id e,G.DU K,λb o hb _ e=>G.keep K hb id e⟩
theorem PG.refl(G:Av c π H s):PG c wr L π H s H π s:=.pure G (.refl s)
theorem PG.gone(P:PG c wr L π H s H' π' s'){b}(h:s'.heap.get? b=none):s.heap.get? b=none:=by
 cases e:s.heap.get? b with
 |none=>rfl
 |some o=>exact(P.there _ _ e).elim λ_ q=>nomatch h.symm.trans q
theorem PG.trans(P:PG c wr L π H s H' π' s')(Q:PG c wr L π' H' s' EZ yJ HM):PG c wr L π H s EZ yJ HM where
 le:=AA P.le Q.le
 old:=λl h=>(Q.old l h).trans (P.old l h)
 agree:=λl h=>(Q.agree l (BW h P.le)).trans (P.agree l h)
 ei:=λl h1 h2=>(Rq l H'.length).elim (λq=>Q.agree l q▸P.ei l h1 q) λq=>P.gone (Q.ei l q h2)
 mono:=λb h=>Q.mono b (P.mono b h)
 new:=λb h=>(Q.new b h).elim (P.new b) λh=>.inr (P.gone h)
 kp:=P.kp.trans' Q.kp (λ_ x=>x) λb o x e=>x.elim .inl λx=>(P.new b x).elim .inr λh=>nomatch h.symm.trans e
 there:=λb o e=>(P.there b o e).elim λo' e'=>Q.there b o' e'
 g:=Q.g
 same:=λb o hb hn e=>Q.same b o (P.mono b hb) (λl h1 h2 q=>(Rq l H.length).elim (λhl=>hn l h1 hl ((P.agree l hl).symm.trans q)) λhl=>nomatch (q▸P.ei l hl h2).symm.trans e) (P.same b o hb hn e)
theorem PG.nA(P:PG c wr L π H s H' π' s')(G:Av c π H s)(h1:l<wr)(h2:l<H.length)(e:s.heap.get? (π.at' l)=some o):s'.heap.get? (π.at' l)=some o:=
 P.same _ o (G.mem l h2) (λk k1 k2 q=>AL (G.inj k l k2 h2 q▸k1) (Nat.not_le.mpr h1)) e
theorem PG.any(P:PG c wr none π H s H' π' s'):PG c wr L π H s H' π' s':=
 {P with kp:=P.kp.weaken λb x=>.inr (x.resolve_left nofun)}
theorem PG.Kl(P:PG c wr L π H s H' π' s')(h:yK<=wr):PG c yK L π H s H' π' s':={P with old:=λl hl=>P.old l (BW hl h),same:=λb o hb hn=>P.same b o hb λl h1=>hn l (AA h h1)}
theorem PG.DU(P:PG c wr L π H s H' π' s')(K:Kp no s' HM):PG c wr L π H s H' π' HM:=P.trans (.pure P.g K)
def C9(h:Ay)(L:Ab Ah):Prop:=∀a,L=some a->∃o es k,h.get? a=some o/\o.data=.dict es k
theorem C9.none:C9 h none:=nofun
theorem PG.uL(hL:C9 s.heap L):mV π s.heap (Xw π L):=λb x=>x.elim (λq=>.inr (.inl (.inl (hL b q)))) .inl
theorem Fw{o:Obj}{es k}(hd:o.data=.dict es k)(vs):o.data≠.fields vs:=λq=>nomatch hd.symm.trans q
theorem PG.uM(G:Av c π H s)(hL:C9 s.heap L):jw s.heap (Xw π L):=λb o x e=>x.elim (λx=>(hL b x).elim λo' q=>q.elim λes q=>q.elim λk q=>.data (AQ (q.1.symm.trans e)▸Fw q.2)) λx=>G.ok x e
theorem PG.Eo(P:PG c wr L π H s H' π' s')(G:Av c π H s)(hL:C9 s.heap L:=by exact C9.none):Ju π H.length s.heap π' H'.length s'.heap:=P.kp.Eo G.tabs (PG.uL hL) (PG.uM G hL) P.le P.agree P.new
theorem As.pg(P:PG c wr L π H s H' π' s')(G:Av c π H s)(hL:C9 s.heap L:=by exact C9.none)(r:As π H.length s.heap v cv):As π' H'.length s'.heap v cv:=r.step (P.Eo G hL)
theorem Ag.pg(P:PG c wr L π H s H' π' s')(G:Av c π H s)(hL:C9 s.heap L:=by exact C9.none)(r:Ag π H.length s.heap v cv):Ag π' H'.length s'.heap v cv:=r.step (P.Eo G hL)
theorem Br.obj{n}{L:Ah}{lo:Lo}(R:Br c π n h L lo):∃o es k,h.get? L=some o/\o.data=.dict es k:=R.ns.elim λ_ q=>AH q.1 λo q=>q.elim λes q=>q.elim λep q=>⟨o,es,ep,q.1,q.2.1⟩
theorem Br.dict{n}{L:Ah}{lo:Lo}(R:Br c π n h L lo):C9 h (some L):=λa q=>AQ q▸R.obj
theorem Br.pg(P:PG c wr none π H s H' π' s')(G:Av c π H s){lo:Lo}(R:Br c π H.length s.heap A lo):Br c π' H'.length s'.heap A lo:=
 R.obj.elim λo q=>q.elim λes q=>q.elim λep q=>⟨R.ns.imp λm r=>⟨r.1.at' λo' e=>P.kp.keep A o' (λx=>R.nl (x.resolve_left nofun)) (G.tabs.Mq e (AQ (q.1.symm.trans e)▸Fw q.2)) e,λx v e=>(r.2 x v e).imp λ_ r=>⟨r.1,r.2.pg P G⟩⟩,
  λx=>(P.new A x).elim R.nl λx=>(nomatch x.symm.trans q.1),R.new⟩
theorem PG.fr(P:PG c wr L π H s H' π' s'){fr:FD}(F:Bu π H.length fr env):Bu π' H'.length fr env:=
 have e:∀o:Ab Nat,(∀l,o=some l->l<H.length)->o.map π.at'=o.map π'.at':=λo h=>by
  induction o using BK with
  |none=>rfl
  |some l=>exact Ai some (P.agree l (h l rfl)).symm
 {F with cells:=λx hx=>(F.cells x hx).trans (e _ (F.lt x)),lt:=λx l q=>BW (F.lt x l q) P.le,wr:=AA F.wr P.le}
theorem Br.DU{lo:Lo}(G:Av c π H s)(K:Kp no s s')(R:Br c π H.length s.heap A lo):Br c π H.length s'.heap A lo:=R.pg (wr:=0) (.pure G K) G
end
abbrev FU(c:Cx)(wr:Nat)(π:Pl)(H:List AO)(s:Aj)(v:AV)(H':List AO):Ad->Aj->Prop:=λcv s'=>∃π',PG c wr none π H s H' π' s'/\As π' H'.length s'.heap v cv
def ak(π:Pl)(n:Nat)(h:Ay)(a:AF)(f:Flow):Prop:=match a with
 |.next=>f=.next
 |.brk=>f=.brk
 |.cont=>f=.cont
 |.ret v=>∃cv,f=.ret cv/\As π n h v cv
abbrev nB(c:Cx)(wr:Nat)(L:Ah)(π:Pl)(H:List AO)(s:Aj)(fl:AF)(Bv:Lo)(H':List AO):Flow->Aj->Prop:=λcf s'=>∃π',PG c wr (some L) π H s H' π' s'/\Br c π' H'.length s'.heap L Bv/\ak π' H'.length s'.heap fl cf
section
variable(c:Cx)(d:Nat)(fr:FD)(lo:Lo)(H:List AO)
def Bt(e:Expr)(v:AV)(H':List AO):Prop:=
 ∀(A:AG)(env:Env)(π:Pl)(s:Aj)(E:EP),A5 d A->Bu π H.length fr env->Av c π H s->Br c π H.length s.heap env.locals lo->
  Ae c.m A (eval e env) (FU c fr.wr π H s v H') E s
def Jw(e:Expr)(b:Aa)(H':List AO):Prop:=
 ∀(A:AG)(env:Env)(π:Pl)(s:Aj)(E:EP),A5 d A->Bu π H.length fr env->Av c π H s->Br c π H.length s.heap env.locals lo->
  Ae c.m A (RN e env (eval e env)) (λb' s'=>∃π',PG c fr.wr none π H s H' π' s'/\b'=b) E s
def IU(es:List Expr)(vs:List AV)(H':List AO):Prop:=
 ∀(A:AG)(env:Env)(π:Pl)(s:Aj)(E:EP),A5 d A->Bu π H.length fr env->Av c π H s->Br c π H.length s.heap env.locals lo->
  Ae c.m A (spliced (es.map λe=>(false,eval e env))) (λcvs s'=>∃π',PG c fr.wr none π H s H' π' s'/\Ag π' H'.length s'.heap vs cvs) E s
def Fb(st:Az)(fl:AF)(Bv:Lo)(H':List AO):Prop:=
 ∀(A:AG)(env:Env)(π:Pl)(s:Aj)(E:EP),A5 d A->Bu π H.length fr env->Av c π H s->Br c π H.length s.heap env.locals lo->
  Ae c.m A (exec st env) (nB c fr.wr env.locals π H s fl Bv H') E s
def Km(st:List Az)(fl:AF)(Bv:Lo)(H':List AO):Prop:=
 ∀(A:AG)(env:Env)(π:Pl)(s:Aj)(E:EP),A5 d A->Bu π H.length fr env->Av c π H s->Br c π H.length s.heap env.locals lo->
  Ae c.m A (execs st env) (nB c fr.wr env.locals π H s fl Bv H') E s
end
section
variable(c:Cx)(d:Nat)(H:List AO)
def C1(op:Operator)(a b r:AV):Prop:=
 ∀(A:AG)(π:Pl)(s:Aj)(E:EP)(ca cb:Ad),A5 d A->Av c π H s->As π H.length s.heap a ca->As π H.length s.heap b cb->
  Ae c.m A (binaryOp op ca cb) (λcv s'=>Kp no s s'/\As π H.length s'.heap r cv) E s
def CO(op:G9)(a b:AV)(r:Aa):Prop:=
 ∀(A:AG)(π:Pl)(s:Aj)(E:EP)(ca cb:Ad),A5 d A->Av c π H s->As π H.length s.heap a ca->As π H.length s.heap b cb->
  Ae c.m A (Ol op ca cb) (λcv s'=>Kp no s s'/\cv=.bool r) E s
def Gq(a:AV)(r:Aa):Prop:=
 ∀(A:AG)(π:Pl)(s:Aj)(E:EP)(ca:Ad),A5 d A->Av c π H s->As π H.length s.heap a ca->
  Ae c.m A (truthy ca) (λb s'=>Kp no s s'/\b=r) E s
def DR(wr:Nat)(f:AV)(as:List AV)(ks:List (Str×AV))(r:AV)(H':List AO):Prop:=
 ∀(A:AG)(π:Pl)(s:Aj)(E:EP)(cf:Ad)(cargs Gr:List Ad),A5 d A->wr<=H.length->Av c π H s->As π H.length s.heap f cf->Ag π H.length s.heap as cargs->
  Ag π H.length s.heap (ks.map (·.2)) Gr->
  Ae c.m A (call cf cargs ((ks.map (·.1)).zip Gr)) (FU c wr π H s r H') E s
end
def AX(S S':St)(P:Prop):Prop:=S'.ob=true->S.ob=true/\P
theorem AX.mk(h:P):AX S S P:=λo=>⟨o,h⟩
theorem AX.imp(h:AX S S' P)(k:P->Q):AX S S' Q:=λo=>⟨(h o).1,k (h o).2⟩
theorem AX.bind(h:AX S S' P)(g:AX S' S'' Q)(k:P->Q->R):AX S S'' R:=λo=>⟨(h (g o).1).1,k (h (g o).1).2 (g o).2⟩
theorem AX.need(h:b=true->P):AX S (S.need b) P:=λo=>⟨Am o,h (Ax o)⟩
section
variable(c:Cx)(d:Nat)(fr:FD)(lo:Lo)(S:St)
def jF(e:Expr)(x:Rt AV):Prop:=AX S x.S (Bt c d fr lo S.H e x.v x.S.H)
def pA(e:Expr)(x:Rt Aa):Prop:=AX S x.S (Jw c d fr lo S.H e x.v x.S.H)
def yL(st:Az)(x:Rx):Prop:=AX S x.S (Fb c d fr lo S.H st x.fl x.lo x.S.H)
def uN(es:List Expr)(x:Rt (List AV)):Prop:=AX S x.S (IU c d fr lo S.H es x.v x.S.H)
def zR(st:List Az)(x:Rx):Prop:=AX S x.S (Km c d fr lo S.H st x.fl x.lo x.S.H)
end
def nC(c:Cx)(d:Nat)(wr:Nat)(S:St)(f:AV)(as:List AV)(ks:List (Str×AV))(x:Rt AV):Prop:=AX S x.S (DR c d S.H wr f as ks x.v x.S.H)
def QA(c:Cx)(d:Nat)(S:St)(op:Operator)(a b:AV)(x:Rt AV):Prop:=AX S x.S (x.S.H=S.H/\C1 c d S.H op a b x.v)
structure Bl(c:Cx)(d:Nat)(r:Ev):Prop where
 E:∀fr lo S e,Ok (r.E fr lo S e) (jF c d fr lo S e)
 T:∀fr lo S e,Ok (r.T fr lo S e) (pA c d fr lo S e)
 X:∀fr lo S st,Ok (r.X fr lo S st) (yL c d fr lo S st)
end
section
theorem As.int{π n h i cv}(r:As π n h (.int i) cv):∃t,cv=.int i t:=r
theorem As.AS{π n h i cv}(r:As π n h (.AS i) cv):∃t,cv=.float i t:=r
theorem As.str{π n h i cv}(r:As π n h (.str i) cv):∃t,cv=.str i t:=r
theorem As.val{π n h v cv}(r:As π n h (.val v) cv):cv=v:=r
theorem As.mkInt{π n h i t}:As π n h (.int i) (.int i t):=⟨t,rfl⟩
theorem As.KP{π n h i t}:As π n h (.AS i) (.float i t):=⟨t,rfl⟩
theorem As.mkStr{π n h i t}:As π n h (.str i) (.str i t):=⟨t,rfl⟩
theorem As.FV{π n h v}:As π n h (.val v) v:=rfl
theorem C1.of(h:∀(A:AG)(π:Pl)(s:Aj)(E:EP)(ca cb:Ad),A5 d A->As π H.length s.heap a ca->As π H.length s.heap b cb->
  Ae c.m A (binaryOp op ca cb) (λcv s'=>Kp no s s'/\As π H.length s'.heap r cv) E s):C1 c d H op a b r:=
 λA π s E ca cb R _ ha hb=>h A π s E ca cb R ha hb
theorem C1.zS:C1 c d H .Add (.int a) (.int b) (.int (a+b)):=.of λA π s E ca cb R ha hb=>by
 obtain ⟨t,rfl⟩:=ha.int;obtain ⟨u,rfl⟩:=hb.int
 (with_reducible refine add_int ?_);exact⟨.toks,.mkInt⟩
theorem C1.zT:C1 c d H .Sub (.int a) (.int b) (.int (a-b)):=.of λA π s E ca cb R ha hb=>by
 obtain ⟨t,rfl⟩:=ha.int;obtain ⟨u,rfl⟩:=hb.int
 (with_reducible refine sub_int ?_);exact⟨.toks,.mkInt⟩
theorem C1.zU(hm:IntMulOk a b):C1 c d H .Mult (.int a) (.int b) (.int (a*b)):=.of λA π s E ca cb R ha hb=>by
 obtain ⟨t,rfl⟩:=ha.int;obtain ⟨u,rfl⟩:=hb.int
 (with_reducible refine mul_int ?_ hm);exact⟨.toks,.mkInt⟩
theorem C1.uO(hb0:b≠0)(hp:cU a b=false):C1 c d H .FloorDiv (.int a) (.int b) (.int (a.fdiv b)):=.of λA π s E ca cb R ha hb=>by
 obtain ⟨t,rfl⟩:=ha.int;obtain ⟨u,rfl⟩:=hb.int
 (with_reducible refine floordiv_int hb0 ?_ (.inl hp));exact⟨.toks,.mkInt⟩
theorem C1.zV(hb0:b≠0):C1 c d H .Mod (.int a) (.int b) (.int (a.fmod b)):=.of λA π s E ca cb R ha hb=>by
 obtain ⟨t,rfl⟩:=ha.int;obtain ⟨u,rfl⟩:=hb.int
 (with_reducible refine mod_int' hb0 ?_);exact⟨.toks,.mkInt⟩
theorem C1.zW(h0: 0<=b)(hsz:(Dy a:Int)*b<=2^27):C1 c d H .Pow (.int a) (.int b) (.int (a^b.toNat)):=.of λA π s E ca cb R ha hb=>by
 obtain ⟨t,rfl⟩:=ha.int;obtain ⟨u,rfl⟩:=hb.int
 (with_reducible refine pow_int h0 hsz ?_);exact⟨.toks,.mkInt⟩
theorem C1.zX(h0: 0<=b):C1 c d H .RShift (.int a) (.int b) (.int (a.fdiv (2^b.toNat))):=.of λA π s E ca cb R ha hb=>by
 obtain ⟨t,rfl⟩:=ha.int;obtain ⟨u,rfl⟩:=hb.int
 (with_reducible refine rshift_int h0 ?_);exact⟨.toks,.mkInt⟩
theorem C1.zY(h0: 0<=b)(hsz:(Dy a:Int)+b<=2^27):C1 c d H .LShift (.int a) (.int b) (.int (a*2^b.toNat)):=.of λA π s E ca cb R ha hb=>by
 obtain ⟨t,rfl⟩:=ha.int;obtain ⟨u,rfl⟩:=hb.int
 (with_reducible refine lshift_int h0 hsz ?_);exact⟨.toks,.mkInt⟩
theorem C1.zZ:C1 c d H .BitAnd (.int a) (.int b) (.int (Gf a b)):=.of λA π s E ca cb R ha hb=>by
 obtain ⟨t,rfl⟩:=ha.int;obtain ⟨u,rfl⟩:=hb.int
 (with_reducible refine and_int ?_);exact⟨.toks,.mkInt⟩
theorem C1.z0:C1 c d H .BitXor (.int a) (.int b) (.int (Oq a b)):=.of λA π s E ca cb R ha hb=>by
 obtain ⟨t,rfl⟩:=ha.int;obtain ⟨u,rfl⟩:=hb.int
 (with_reducible refine xor_int ?_);exact⟨.toks,.mkInt⟩
theorem C1.z3(hb0:b≠0)(hf:¬Float64.isInf (WQ (decide (a<0) !=decide (b<0)) a.natAbs b.natAbs)=true):
  C1 c d H .Div (.int a) (.int b) (.AS (WQ (decide (a<0) !=decide (b<0)) a.natAbs b.natAbs)):=.of λA π s E ca cb R ha hb=>by
 obtain ⟨t,rfl⟩:=ha.int;obtain ⟨u,rfl⟩:=hb.int
 exact PySem.Flt.div_ii R.handled (λq=>AL q hb0) (λ_ q=>AL q hf) (λ_ _=>⟨.toks,.KP⟩)
theorem C1.z4:C1 c d H .Add (.AS a) (.AS b) (.AS (Dl a b)):=.of λA π s E ca cb R ha hb=>by
 obtain ⟨t,rfl⟩:=ha.AS;obtain ⟨u,rfl⟩:=hb.AS
 (with_reducible refine add_float ?_);exact⟨.toks,.KP⟩
theorem C1.z5:C1 c d H .Sub (.AS a) (.AS b) (.AS (Bg a b)):=.of λA π s E ca cb R ha hb=>by
 obtain ⟨t,rfl⟩:=ha.AS;obtain ⟨u,rfl⟩:=hb.AS
 (with_reducible refine sub_float ?_);exact⟨.toks,.KP⟩
theorem C1.z6:C1 c d H .Mult (.AS a) (.AS b) (.AS (Cq a b)):=.of λA π s E ca cb R ha hb=>by
 obtain ⟨t,rfl⟩:=ha.AS;obtain ⟨u,rfl⟩:=hb.AS
 (with_reducible refine mul_float ?_);exact⟨.toks,.KP⟩
theorem C1.z7(hz:Gg b=false):C1 c d H .Div (.AS a) (.AS b) (.AS (Cr a b)):=.of λA π s E ca cb R ha hb=>by
 obtain ⟨t,rfl⟩:=ha.AS;obtain ⟨u,rfl⟩:=hb.AS
 (with_reducible refine AutoFloatOps.truediv_1 (by rw[hz];exact BI) ?_);exact⟨.toks,.KP⟩
theorem C1.z8(hz:Gg b=false):C1 c d H .Mod (.AS a) (.AS b) (.AS (Float64.divmod a b).snd):=.of λA π s E ca cb R ha hb=>by
 obtain ⟨t,rfl⟩:=ha.AS;obtain ⟨u,rfl⟩:=hb.AS
 (with_reducible refine AutoFloatOps.mod_1 (by rw[hz];exact BI) ?_);exact⟨.toks,.KP⟩
theorem C1.uP(hf:a.natAbs<2^1023):C1 c d H .Mult (.int a) (.AS b) (.AS (Cq (DH a) b)):=.of λA π s E ca cb R ha hb=>by
 obtain ⟨t,rfl⟩:=ha.int;obtain ⟨u,rfl⟩:=hb.AS
 (with_reducible refine mul_if_fits hf ?_);exact⟨.toks,.KP⟩
theorem C1.uQ(hf:b.natAbs<2^1023):C1 c d H .Mult (.AS a) (.int b) (.AS (Cq a (DH b))):=.of λA π s E ca cb R ha hb=>by
 obtain ⟨t,rfl⟩:=ha.AS;obtain ⟨u,rfl⟩:=hb.int
 (with_reducible refine mul_fi_fits hf ?_);exact⟨.toks,.KP⟩
theorem C1.uR(hf:¬ dv b)(hb0:b≠0):C1 c d H .Div (.AS a) (.int b) (.AS (Cr a (DH b))):=.of λA π s E ca cb R ha hb=>by
 obtain ⟨t,rfl⟩:=ha.AS;obtain ⟨u,rfl⟩:=hb.int
 exact PySem.Flt.truediv_fi R.handled (λq=>AL q hf) (λq=>AL q hb0) (λ_ _=>⟨.toks,.KP⟩)
theorem C1.z9(hs:a.length+b.length<=BY):C1 c d H .Add (.str a) (.str b) (.str (a++b)):=.of λA π s E ca cb R ha hb=>by
 obtain ⟨t,rfl⟩:=ha.str;obtain ⟨u,rfl⟩:=hb.str
 exact PyProof.Rows.add_str (λt' tk=>⟨.toks,.mkStr⟩) hs
theorem CO.of(h:∀(A:AG)(π:Pl)(s:Aj)(E:EP)(ca cb:Ad),A5 d A->As π H.length s.heap a ca->As π H.length s.heap b cb->
  ∀Q:Ad->Aj->Prop,Q (.bool r) s->Ae c.m A (Ol op ca cb) Q E s):CO c d H op a b r:=
 λA π s E ca cb R _ ha hb=>h A π s E ca cb R ha hb _ ⟨.refl s,rfl⟩
theorem CO.ltI:CO c d H .Lt (.int a) (.int b) (decide (a<b)):=.of λA π s E ca cb R ha hb Q hq=>by
 obtain ⟨t,rfl⟩:=ha.int;obtain ⟨u,rfl⟩:=hb.int;(with_reducible refine Rv ?_);exact hq
theorem CO.leI:CO c d H .LtE (.int a) (.int b) (decide (a<=b)):=.of λA π s E ca cb R ha hb Q hq=>by
 obtain ⟨t,rfl⟩:=ha.int;obtain ⟨u,rfl⟩:=hb.int;(with_reducible refine PyProof.Rows.le_int ?_);exact hq
theorem CO.gtI:CO c d H .Gt (.int a) (.int b) (decide (b<a)):=.of λA π s E ca cb R ha hb Q hq=>by
 obtain ⟨t,rfl⟩:=ha.int;obtain ⟨u,rfl⟩:=hb.int;(with_reducible refine PyProof.Rows.gt_int ?_);exact hq
theorem CO.isNone(hp:∀π n h cv,As π n h a cv->plainIs cv .none=true/\cv≠.none):CO c d H .Is a .none false:=.of λA π s E ca cb R ha hb Q hq=>by
 rcases hb.val with ⟨⟩;obtain ⟨h1,h2⟩:=hp _ _ _ _ ha;(with_reducible refine wpAny_is_other h1 h2 ?_);exact hq
theorem CO.jG:CO c d H .Is .none .none true:=.of λA π s E ca cb R ha hb Q hq=>by
 rcases ha.val with ⟨⟩;rcases hb.val with ⟨⟩;(with_reducible refine wpAny_is_self rfl ?_);exact hq
theorem Gq.int:Gq c d H (.int a) (a !=0):=λA π s E ca R _ ha=>by
 obtain ⟨t,rfl⟩:=ha.int;(with_reducible refine PyProof.Rows.truthy_int ?_);exact⟨.refl s,rfl⟩
theorem Gq.bool:Gq c d H (.bool b) b:=λA π s E ca R _ ha=>by
 rcases ha.val with ⟨⟩;(with_reducible refine RE ?_);exact⟨.refl s,rfl⟩
theorem Gq.none:Gq c d H .none false:=λA π s E ca R _ ha=>by
 rcases ha.val with ⟨⟩;(with_reducible refine PyProof.Rows.truthy_none ?_);exact⟨.refl s,rfl⟩
end
theorem aq(a b:List Nat):Fq a b=(a==b):=by
 induction a generalizing b with
 |nil=>rcases b with ⟨⟩<;>rfl
 |cons x a ih=>induction b using B9 with
  |nil=>rfl
  |cons y b=>
   rw[List.cons_beq_cons,<-ih,<-show Aw x y=(x==y) from Aa.eq_iff_iff.mpr (by simp)]
   show JN (motive:=λ_=>Aa) false (Fq a b) (Aw x y)=_
   rcases Aw x y with ⟨⟩<;>rfl
theorem Mt(a b:Str):sEq a b=(a==b):=by
 unfold sEq
 rw[aq]
 by_cases h:a=b
 ·subst h;simp
 ·have h':a.cps.toList≠b.cps.toList:=λq=>h (by rcases a with ⟨⟩;rcases b with ⟨⟩;simp at q;subst q;rfl)
  have h1:(a.cps.toList==b.cps.toList)=false:=by simpa using h'
  have h2:(a==b)=false:=by simpa using h
  rw[h1,h2]
theorem D9(x:Str)(l:List (Str×α)):lk x l=l.lookup x:=by
 induction l with
 |nil=>rfl
 |cons p r ih=>rw[Dk,<-ih,<-Mt];show JN (motive:=λ_=>Ab α) (lk x r) (some p.2) (sEq x p.1)=_;rcases sEq x p.1 with ⟨⟩<;>rfl
theorem BC(h:sEq a b=true):a=b:=by rw[Mt] at h;exact eq_of_beq h
theorem SJ(x:Str)(l:List Str):Kg x l=l.contains x:=by
 induction l with
 |nil=>rfl
 |cons y r ih=>rw[cj,<-ih,<-Mt];show JN (motive:=λ_=>Aa) (Kg x r) true (sEq x y)=_;rcases sEq x y with ⟨⟩<;>rfl
theorem jH(a b:Str):o8 a b=a++b:=by
 unfold o8
 congr 1
 rcases a with ⟨⟩;rcases b with ⟨⟩;simp
section
variable{c:Cx}{H:List AO}
theorem As.lst{π n h xs cv}(r:As π n h (.lst xs) cv):∃a vs,cv=.ref a/\h.IsList a vs/\¬ π.M a/\Ag π n h xs vs.toList:=
 AH r λa r=>r.elim λvs r=>⟨a,vs,r.1,r.2.1.imp λ_ q=>⟨q.1,q.2.1,q.2.2.2⟩,r.2.2⟩
theorem As.tup{π n h xs cv}(r:As π n h (.tup xs) cv):∃a vs,cv=.ref a/\Ek h a vs/\¬ π.M a/\Ag π n h xs vs.toList:=r
theorem As.loc{π n h l cv}(r:As π n h (.loc l) cv):l<n/\cv=.ref (π.at' l):=r
theorem As.Gw{π n h x y z cv}(r:As π n h (.Gw x y z) cv):∃a,cv=.ref a/\IsRange h a x y z/\¬ π.M a:=r
theorem As.BH{π n h k cv}(r:As π n h (.BH k) cv):∃a,cv=.ref a/\OJ π n h a k/\¬ π.M a:=r
def Jx(c:Cx)(H:List AO)(a:AV)(xs:List AV):Prop:=∀(π:Pl)(s:Aj),Av c π H s->∀cv,As π H.length s.heap a cv->∃b vs,cv=.ref b/\s.heap.IsList b vs/\Ag π H.length s.heap xs vs.toList
theorem Bs:Ok (DQ H a) (Jx c H a):=by
 induction a using AV.casesOn with
 |lst xs=>exact .some λπ s G cv r=>r.lst.imp λ_ r=>r.imp λ_ r=>⟨r.1,r.2.1,r.2.2.2⟩
 |loc l=>exact listAt.mono λxs e π s G cv r=>(G.objs l _ e).elim λvs q=>q.elim λk q=>⟨_,vs,r.loc.2,⟨_,q.1,rfl,k,rfl⟩,q.2⟩
 |_=>exact .none
theorem Ag.size{π n h}{vs:AE Ad}(r:Ag π n h xs vs.toList):vs.size=xs.length:=by have:=r.length;simpa using this
theorem Kn(h:Ay)(o:Obj):∀b o',h.get? b=some o'->(h.push o).get? b=some o':=λ_ _ e=>B6 _ e
theorem Kp.push{X}(o:Obj):Kp X s {s with heap:=s.heap.push o,toks:=tk}:=.of_keeps (Kn _ _)
theorem Kp.BS{X}(o:Obj):Kp X s {s with heap:=s.heap.push o}:=.of_keeps (Kn _ _)
theorem Ju.push{π n}(o:Obj):Ju π n h π n (h.push o):=⟨λb _ e _ _ _=>Kn _ _ _ _ e,λ_ _ r=>r.push o,AP _,λ_ _=>rfl,λ_ h=>.inl h⟩
theorem Ag.push{π n}{xs vs}(r:Ag π n h xs vs)(o:Obj):Ag π n (h.push o) xs vs:=r.step (.push o)
theorem As.push{π n}{x v}(r:As π n h x v)(o:Obj):As π n (h.push o) x v:=r.step (.push o)
theorem As.newList(G:Av c π H s)(r:Ag π H.length s.heap xs vs):
  As π H.length (s.heap.push {cls:=.type "list",data:=.seq vs.toArray k}) (.lst xs) (.ref s.heap.objs.size):=
 ⟨_,vs.toArray,rfl,⟨_,Bp _ rfl,rfl,rfl,k,rfl⟩,G.Kk,r.push _⟩
theorem As.newTuple(G:Av c π H s)(r:Ag π H.length s.heap xs vs):
  As π H.length (s.heap.push {cls:=.type "tuple",data:=.seq vs.toArray}) (.tup xs) (.ref s.heap.objs.size):=
 ⟨_,vs.toArray,rfl,⟨_,Bp _ rfl,rfl,_,rfl⟩,G.Kk,r.push _⟩
theorem Er{h:Ay}{b vs}(l:h.IsList b vs):∃d n sl,h.get? b=some ⟨.type "list",d,.seq vs n,sl⟩:=
 AH l λo q=>q.2.2.elim λn e=>⟨o.dict,n,o.slots,by rw[q.1];rcases o with ⟨⟩;rcases q.2.1 with ⟨⟩;rcases e with ⟨⟩;rfl⟩
theorem pB(h:a+b<100000):a+b<=BY:=AA (DY h) ⋯
theorem C1.OG(ha:Jx c H a xs)(hb:Jx c H b ys)(hsz:xs.length+ys.length<100000):C1 c d H .Add a b (.lst (xs++ys)):=by
 intro A π s E ca cb R G ra rb
 refine(ha π s G ca ra).elim λl q=>q.elim λvs q=>(hb π s G cb rb).elim λl' p=>p.elim λws p=>?_
 rw[q.1,p.1]
 refine(Er q.2.1).elim λdd x=>x.elim λn x=>x.elim λsl ho=>(Er p.2.1).elim λuS x=>x.elim λn2 x=>x.elim λuT nD=>?_
 refine concat_meets ⟨_,ho,rfl⟩ ⟨_,nD,rfl⟩ noFill_list_add seq_list_add PySem.F.slot_list_add PySem.F.entry_list_add (PySem.F.args_list_add_2 _ _) (list_addW l l' vs ws n n2 dd uS sl uT (by rw[q.2.2.size,p.2.2.size];exact pB hsz)) ⟨ho,nD,.BS _,?_⟩
 rw[show vs++ws=(vs.toList++ws.toList).toArray by simp]
 exact As.newList G (q.2.2.append p.2.2)
theorem Ag.rep{π n h}(r:As π n h x v)(k):Ag π n h (ON [x] k) (FP k v):=by
 induction k with
 |zero=>exact .nil
 |succ k ih=>exact .cons r ih
theorem eo(v:Ad)(n:Nat):(FP n [v]).flatten=FP n v:=by
 induction n with
 |zero=>rfl
 |succ n ih=>exact Ai (v :: ·) ih
theorem lt1000{y:Int}(h0: 0<=y)(h1:y<1000):y.toNat<=1000:=Int.toNat_le.mpr (Ed h1)
theorem nE(h0: 0<=y)(h1:y<1000)(ra:As π H.length s.heap (.lst [x]) ca)(rb:As π H.length s.heap (.int y) cb)
  (fin:∀v,As π H.length s.heap x v->Q (.ref s.heap.objs.size) {s with heap:=s.heap.push {cls:=.type "list",data:=.seq (FP y.toNat v).toArray}}):Ae c.m A (binaryOp .Mult ca cb) Q E s:=by
 refine ra.lst.elim λl q=>q.elim λvs q=>rb.int.elim λu hu=>(Er q.2.1).elim λdd z=>z.elim λk z=>z.elim λsl ho=>?_
 obtain ⟨v,hv,rv⟩ :∃v,vs = #[v]/\As π H.length s.heap x v:=AH q.2.2.2 λv r=>r.elim λws r=>⟨v,by rw[<-VR (xs:=vs),r.1,r.2.2],r.2.1⟩
 rw[q.1,hu]
 subst hv
 have h3:=lt1000 h0 h1
 have Aec:(#[v]:AE Ad).size*y.toNat<=1000:=by rw[show(#[v]:AE Ad).size=1 from rfl,C3];exact h3
 refine wpAny_binaryOp_repeat_ref ⋯ ⟨_,ho,rfl⟩ (λs'=>EL s' y u) noFill_list_mul F.fills_int_mul F.slot_int_rmul repeat_list F.slot_int_index.lookup
  (Il F.slot_int_rmul (EL s y u) F.entry_int_rmul (F.args_int_rmul_2 _ _) (lm_int_rmul_list_any y u l #[v] k dd sl)
   ⟨ho,rfl,⟨_,ho,rfl⟩,Il F.slot_list_mul ⟨_,ho,rfl⟩ F.entry_list_mul (F.args_list_mul_2 _ _)
    (lm_list_mul_any l #[v] k dd sl y u (by simp[Ou];omega) (by omega) (by simp[WK,BY];omega))
    ⟨ho,?_⟩⟩)
 rw[show(#[v]:AE Ad)=[v].toArray from rfl,listMul_foldl_if,eo]
 exact fin v rv
theorem C1.mulL(h0: 0<=y)(h1:y<1000):C1 c d H .Mult (.lst [x]) (.int y) (.lst (ON [x] y.toNat)):=λA π s E ca cb R G ra rb=>
 nE h0 h1 ra rb λv rv=>⟨.BS _,As.newList G (Ag.rep rv _)⟩
theorem OZ(h:x.natAbs<2^n):Dy x<=n:=PySem.intBits_le_iff.mpr h
theorem pC(h:a<b):(2:Nat)^a<2^b:=Nat.pow_lt_pow_right ⋯ h
theorem QB(h:DJ n=true)(hk: 1000<k):n.natAbs<2^k:=EH (Bi h) (pC hk)
theorem Xd(h:DJ n=true):¬ dv n:=by
 have h1:=Bi h
 have h2:(2:Nat)^1000<2^1024-2^970:=⋯
 exact Nat.not_le.mpr (EH h1 h2)
theorem au(h:DJ a=true)(hb:b≠0):¬Float64.isInf (OM a b)=true:=by
 have h1:=Bi h
 have yM:=NW.mpr hb
 unfold OM
 rw[PySem.Flt.notInf_ofFrac yM]
 ·exact BI
 ·have h2: 2*(2^1000*2^1074)<1*((2^54-1)*2^2045):=⋯
  have h3: 2*(a.natAbs*2^1074)<=2*(2^1000*2^1074):=JA _ (Ef _ (DY h1))
  exact CE h3 (BW h2 (Ef _ yM))
theorem IV(h:AM x=true):Dy x<=20000:=OZ (Bi h)
theorem Aab(h: 0<y/\y<2^60):cU x y=false:=
 PyProof.noPylong_of_log2 (EH ((Wq (by omega:y.natAbs≠0)).mpr (by omega:y.natAbs<2^60)) (by decide: 60<9000))
theorem uU(h: 0<=y/\y<1000/\x.natAbs<2^60):(Dy x:Int)*y<=2^27:=
 BA (Int.mul_le_mul (DM.mpr (OZ h.2.2)) (Ed h.2.1) h.1 ⋯) (by decide:((60:Nat):Int)*1000<=2^27)
theorem uV(h:y<100000)(k:Dy x<=20000):(Dy x:Int)+y<=2^27:=
 BA (Int.add_le_add (DM.mpr k) (Ed h)) (by decide:((20000:Nat):Int)+100000<=2^27)
theorem QA.mk{op a b v}(h:C1 c d S.H op a b v):QA c d S op a b ⟨v,S⟩:=AX.mk ⟨rfl,h⟩
theorem QA.need{op a b v}(h:t=true->C1 c d S.H op a b v):QA c d S op a b ⟨v,S.need t⟩:=AX.need λe=>⟨rfl,h e⟩
section
theorem QA.YA(h:∀x y,Ok (f x y) (QA c d S op (.int x) (.int y))):Ok (YA a b f) (QA c d S op a b):=
 Bd.bind λx e=>Bd.bind λy q=>e▸q▸h x y
theorem QA.i(h:∀y,Ok (f y) (QA c d S op a (.int y))):Ok ((intOf b).bind f) (QA c d S op a b):=Bd.bind λy q=>q▸h y
theorem QA.f{f:Al->Ab (Rt AV)}(h:∀y,Ok (f y) (QA c d S op a (.AS y))):Ok ((JE b).bind f) (QA c d S op a b):=IS.bind λy q=>q▸h y
theorem YG:Ok (OG a b S) (QA c d S .Add a b):=
 Bs.bind λxs p=>Bs.bind λys q=>.guard λh=>.some (.mk (C1.OG p q (Bi h)))
theorem jI:Ok (dI a b S) (QA c d S .Add a b):=by
 induction a using AV.casesOn with
 |int x=>exact .i λy=>.some (.mk C1.zS)
 |AS x=>exact .f λy=>.some (.mk C1.z4)
 |str x=>exact Cz.bind λy q=>.some (.need λh=>q▸jH x y▸C1.z9 (AA (DY (Bi h)) ⋯))
 |lst xs=>exact YG
 |loc l=>exact YG
 |_=>exact .none
theorem jJ:Ok (uf a b S) (QA c d S .Sub a b):=by
 induction a using AV.casesOn with
 |int x=>exact .i λy=>.some (.mk C1.zT)
 |AS x=>exact .f λy=>.some (.mk C1.z5)
 |_=>exact .none
theorem jK:Ok (ug a b S) (QA c d S .Mult a b):=by
 induction a using AV.casesOn with
 |int x=>induction b using AV.casesOn with
  |int y=>exact .some (.need λh=>C1.zU (PySem.IntMulOk.of_le (IV (Ax h)) (IV (Am h)) ⋯))
  |AS y=>exact .some (.need λh=>C1.uP (QB h ⋯))
  |_=>exact .none
 |AS x=>induction b using AV.casesOn with
  |int y=>exact .some (.need λh=>C1.uQ (QB h ⋯))
  |AS y=>exact .some (.mk C1.z6)
  |_=>exact .none
 |lst xs=>exact BD.bind λx e=>.i λy=>.guard λh=>.some (.mk (by rw[e];exact C1.mulL (Bi h).1 (Bi h).2))
 |_=>exact .none
theorem jL:Ok (uh a b S) (QA c d S .Div a b):=by
 induction a using AV.casesOn with
 |int x=>exact .i λy=>.some (.need λh=>C1.z3 (Bi (Am h)) (au (Ax h) (Bi (Am h))))
 |AS x=>induction b using AV.casesOn with
  |int y=>exact .some (.need λh=>C1.uR (Xd (Ax h)) (Bi (Am h)))
  |AS y=>exact .some (.need λh=>C1.z7 (by simpa using h))
  |_=>exact .none
 |_=>exact .none
theorem jM:Ok (ui a b S) (QA c d S .Mod a b):=by
 induction a using AV.casesOn with
 |int x=>exact .i λy=>.some (.need λh=>C1.zV (Bi h))
 |AS x=>exact .f λy=>.some (.need λh=>C1.z8 (by simpa using h))
 |_=>exact .none
theorem jN:Ok (uj op a b S) (QA c d S op a b):=by
 cases op with
 |Add=>exact jI
 |Sub=>exact jJ
 |Mult=>exact jK
 |Div=>exact jL
 |Mod=>exact jM
 |FloorDiv=>exact .YA λx y=>.guard λh=>have h:=Bi h;.some (.mk (C1.uO (Int.ne_of_gt h.1) (Aab h)))
 |Pow=>exact .YA λx y=>.guard λh=>have h:=Bi h;.some (.mk (C1.zW h.1 (uU h)))
 |RShift=>exact .YA λx y=>.guard λh=>.some (.mk (C1.zX (Bi h).1))
 |LShift=>exact .YA λx y=>.guard λh=>.some (.need λq=>C1.zY (Bi h).1 (uV (Bi h).2 (IV q)))
 |BitAnd=>exact .YA λx y=>.some (.mk C1.zZ)
 |BitXor=>exact .YA λx y=>.some (.mk C1.z0)
 |_=>exact .none
end
end
section
open PySem.SeqAt
section
def tK(x:AV)(v:Ad):Aa:=match x with
 |.int i=>(match v with | .int j _=>decide (j=i) | _=>false)
 |.str i=>(match v with | .str j _=>sEq j i | _=>false)
 |.val w=>(match w with | .bool i=>(match v with | .bool j=>j==i | _=>false) | _=>false)
 |_=>false
abbrev uW(A:AG)(s:Aj)(ca cb:Ad)(r:Aa):Prop:=EqAt A s ca cb r/\RcAt A s ca cb r/\RcNeAt A s ca cb (!r)
theorem uW.int{t u}:uW A s (.int i t) (.int j u) (decide (i=j)):=by
 have e:decide (i=j)=(i==j):=by by_cases q:i=j<;>simp[q]
 rw[e];exact⟨.int_int _ _ _ _,.int_int _ _ _ _,.int_int _ _ _ _⟩
theorem uW.str{t u}:uW A s (.str i t) (.str j u) (sEq i j):=by rw[Mt];exact⟨.str_str _ _ _ _,.str_str _ _ _ _,.str_str _ _ _ _⟩
theorem KQ(i:Str):sEq i i=true:=by rw[Mt];exact Ke i
def Eq0(a b:AV)(r:Aa):Prop:=∀(π:Pl)(n:Nat)(h:Ay)(ca cb:Ad),As π n h a ca->As π n h b cb->(∀A s,uW A s ca cb r)/\r=tK b ca/\(ca=cb->r=true)
theorem SK:Ok (i6 a b) (Eq0 a b):=by
 induction a using AV.casesOn with
 |int x=>
  exact Bd.bind λy e=>.some λπ n h ca cb ha hb=>by
   subst e;refine ha.int.elim λt p=>hb.int.elim λu q=>?_
   subst p q
   exact⟨λA s=>.int,rfl,λe=>AU (Kb.inj e).1⟩
 |str x=>
  exact Cz.bind λy e=>.some λπ n h ca cb ha hb=>by
   subst e;refine ha.str.elim λt p=>hb.str.elim λu q=>?_
   subst p q
   exact⟨λA s=>.str,rfl,λe=>(EU.inj e).1▸KQ x⟩
 |val v=>
  exact OY.bind λx e=>Qy.bind λy e'=>.some λπ n h ca cb ha hb=>by
   subst e e';rcases ha.val with ⟨⟩;rcases hb.val with ⟨⟩
   exact⟨λA s=>⟨.bool_bool _ _,.bool_bool _ _,.bool_bool _ _⟩,rfl,λe=>Ad.bool.inj e▸Ke x⟩
 |_=>exact .none
def tL(ys:List AV)(vs:List Ad)(j:Nat):Aa:=tK (ys.getD j .none) (vs.getD j .none)
def nG(ys:List AV)(vs:List Ad):Aa:=(Cn (min vs.length ys.length)).all (tL ys vs)&&vs.length==ys.length
theorem er(y ys v vs):nG (y::ys) (v::vs)=(tK y v&&nG ys vs):=by
 unfold nG
 rw[JQ,JQ,Nat.succ_min_succ,bT,List.all_cons,List.all_map,Aa.and_assoc]
 rw[show((vs.length+1==ys.length+1):Aa)=(vs.length==ys.length) from by simp]
 rfl
def Xe(xs ys:List AV)(r:Aa):Prop:=∀(π:Pl)(n:Nat)(h:Ay)(vs ws:List Ad),Ag π n h xs vs->Ag π n h ys ws->(∀j v w,vs[j]?=some v->ws[j]?=some w->∀A s,EqAt A s v w (tL ys vs j))/\r=nG ys vs/\(vs=ws->r=true)
theorem SM:Ok (TY xs ys) (Xe xs ys):=by
 induction xs generalizing ys with
 |nil=>induction ys using B9 with
  |nil=>exact .some λπ n h vs ws hx hy=>by subst hx;subst hy;exact⟨(λ_ _ _ e=>nomatch e),rfl,λ_=>rfl⟩
  |cons y ys=>
   exact .some λπ n h vs ws hx hy=>by
    subst hx
    refine⟨(λ_ _ _ e=>nomatch e),rfl,λe=>AH hy λ_ q=>q.elim λ_ q=>nomatch e.trans q.1⟩
 |cons x xs ih=>induction ys using B9 with
  |nil=>
   exact .some λπ n h vs ws hx hy=>by
    subst hy
    refine⟨(λ_ _ _ _ e=>nomatch e),AH hx λ_ q=>q.elim λ_ q=>q.1▸rfl,λe=>AH hx λ_ q=>q.elim λ_ q=>nomatch e.symm.trans q.1⟩
  |cons y ys=>
   exact SK.bind λp P=>ih.bind λq Q=>.some λπ n h vs ws hx hy=>by
    refine AH hx λv hx=>hx.elim λvs hx=>AH hy λw hy=>hy.elim λws hy=>?_
    rw[hx.1,hy.1]
    have p:=P _ _ _ _ _ hx.2.1 hy.2.1
    have q:=Q _ _ _ _ _ hx.2.2 hy.2.2
    refine⟨λj a b ea eb A s=>?_,by rw[er,p.2.1,q.2.1],λe=>by rw[p.2.2 (Gk e).1,q.2.2 (Gk e).2];rfl⟩
    induction j using LR with
    |zero=>rcases ea with ⟨⟩;rcases eb with ⟨⟩;exact(show EqAt A s v w (tK y v) from p.2.1▸(p.1 A s).1)
    |succ j=>exact q.1 j a b ea eb A s
theorem Xe.he(he:Xe xs ys r){vs ws:AE Ad}(hx:Ag π n h xs vs.toList)(hy:Ag π n h ys ws.toList)(A:AG)(s:Aj):
  ∀j (h1:j<vs.size)(h2:j<ws.size),EqAt A s vs[j] ws[j] (tL ys vs.toList j):=λj h1 h2=>(he _ _ _ _ _ hx hy).1 j _ _ (by simp[h1]) (by simp[h2]) A s
abbrev Rc2(A:AG)(s:Aj)(ca cb:Ad)(r:Aa):Prop:=RcAt A s ca cb r/\RcNeAt A s ca cb (!r)
theorem Xe.tup(he:Xe xs ys r){vs ws:AE Ad}(hl:s.heap.IsTuple l vs)(hb:s.heap.IsTuple b ws)(hx:Ag π n h xs vs.toList)(hy:Ag π n h ys ws.toList)(hu:A.units<cLine):
  Rc2 A s (.ref l) (.ref b) r:=by
 have e:r=((Cn (min vs.size ws.size)).all (tL ys vs.toList)&&vs.size==ws.size):=(he _ _ _ _ _ hx hy).2.1.trans (by unfold nG;rw[hy.size];rfl)
 exact e▸⟨RcAt.tuples hl hb hu (he.he hx hy _ _),RcNeAt.tuples hl hb hu (he.he hx hy _ _)⟩
theorem Xe.lst(he:Xe xs ys r){vs ws:AE Ad}(hl:s.heap.IsList l vs)(hb:s.heap.IsList b ws)(hx:Ag π n h xs vs.toList)(hy:Ag π n h ys ws.toList)(hu:A.units<cLine):
  Rc2 A s (.ref l) (.ref b) r:=by
 have hr:r=((Cn (min vs.size ws.size)).all (tL ys vs.toList)&&vs.size==ws.size):=(he _ _ _ _ _ hx hy).2.1.trans (by unfold nG;rw[hy.size];rfl)
 by_cases q:vs.size=ws.size
 ·have e:r=(Cn vs.size).all (tL ys vs.toList):=by rw[hr,<-q];simp
  exact e▸⟨RcAt.lists hl hb q hu (he.he hx hy _ _),RcNeAt.lists hl hb q hu (he.he hx hy _ _)⟩
 ·have hsz:=bne_iff_ne.mpr q
  have e:r=false:=by rw[hr,Si q,Q2]
  exact e▸⟨RcAt.lists_lengths hl hb hsz hu,RcNeAt.lists_lengths hl hb hsz hu⟩
abbrev Nd(c:Cx)(d:Nat)(H:List AO)(a b:AV)(r:Aa):Prop:=CO c d H .Eq a b r/\CO c d H .NotEq a b (!r)
theorem Nd.rc(k:∀(A:AG)(π:Pl)(s:Aj)(ca cb:Ad),A5 d A->Av c π H s->As π H.length s.heap a ca->As π H.length s.heap b cb->Rc2 A s ca cb r):Nd c d H a b r:=
 ⟨λA π s E ca cb R G ha hb=>PySem.EqBoolInt.of_rc (k A π s ca cb R G ha hb).1 ⟨.refl s,rfl⟩,λA π s E ca cb R G ha hb=>PySem.EqBoolInt.of_rcne (k A π s ca cb R G ha hb).2 ⟨.refl s,rfl⟩⟩
theorem Nd.lst:Ok ((DQ H a).bind λxs=>(DQ H b).bind λys=>TY xs ys) (Nd c d H a b):=
 Bs.bind λxs p=>Bs.bind λys q=>SM.mono λr he=>.rc λA π s ca cb R G ha hb=>(p π s G ca ha).elim λl x=>x.elim λvs x=>(q π s G cb hb).elim λl' y=>y.elim λws y=>x.1▸y.1▸he.lst x.2.1 y.2.1 x.2.2 y.2.2 R.cl
theorem Nd.i6:Ok (i6 a b) (Nd c d H a b):=SK.mono λr he=>.rc λA π s ca cb R G ha hb=>((he _ _ _ _ _ ha hb).1 A s).2
theorem ew:Ok (mX H a b) (Nd c d H a b):=by
 induction a using AV.casesOn with
 |AS x=>
  exact IS.bind λy e=>.some <| by
   subst e
   refine⟨λA π s E ca cb R G ha hb=>ha.AS.elim λt p=>hb.AS.elim λu q=>p▸q▸AutoFloatOps.eq_0 ⟨.refl s,rfl⟩,λA π s E ca cb R G ha hb=>ha.AS.elim λt p=>hb.AS.elim λu q=>p▸q▸AutoFloatOps.ne_0 ⟨.refl s,rfl⟩⟩
 |tup xs=>
  exact Fv.bind λys e=>SM.mono λr he=>.rc λA π s ca cb R G ha hb=>by
   subst e
   exact ha.tup.elim λl x=>x.elim λvs x=>hb.tup.elim λl' y=>y.elim λws y=>x.1▸y.1▸he.tup x.2.1 y.2.1 x.2.2.2 y.2.2.2 R.cl
 |lst xs=>exact Nd.lst (a:=.lst xs)
 |loc l=>exact Nd.lst
 |val v=>exact Nd.i6 (a:=.val v)
 |int v=>exact Nd.i6 (a:=.int v)
 |str v=>exact Nd.i6 (a:=.str v)
 |_=>exact .none
noncomputable def YH(h:Ay)(a:Ah):List Ad:=match h.get? a with | some o=>(match o.data with | .seq vs _=>vs.toList | _=>[]) | none=>[]
theorem O0{vs}(t:Ek h a vs):YH h a=vs.toList:=t.elim λo q=>q.2.2.elim λk e=>by unfold YH;rw[q.1];simp only[e]
def cE(h:Ay)(x:AV)(v:Ad):Aa:=match x with
 |.tup ys=>(match v with | .ref a=>nG ys (YH h a) | _=>false)
 |x=>tK x v
def av(H:List AO)(y x:AV)(r:Aa):Prop:=∀(A:AG)(π:Pl)(s:Aj)(v cx:Ad),A.units<cLine->As π H.length s.heap y v->As π H.length s.heap x cx->EqAt A s v cx r/\r=cE s.heap x v
theorem av.of0(k:∀h v,cE h x v=tK x v):Ok (Mine.i6 y x) (av H y x):=SK.mono λr he A π s v cx hu hy hx=>k s.heap v▸have q:=he _ _ _ _ _ hy hx;⟨(q.1 A s).1,q.2.1⟩
theorem av.flat(hk:okIn x=true):Ok (i6 y x) (av H y x):=by
 induction x using AV.casesOn with
 |int i=>exact av.of0 λ_ _=>rfl
 |str i=>exact av.of0 λ_ _=>rfl
 |val i=>exact av.of0 λ_ _=>rfl
 |tup i=>
  induction y using AV.casesOn with
  |val v=>exact Ok.bind (λ_ _=>trivial) λ_ _=>.none
  |_=>exact .none
 |_=>exact ff hk
theorem nH(hk:okIn x=true):DQ H x=none:=by rcases x with ⟨⟩<;>first | rfl | exact ff hk
theorem uX(hk:okIn x=true):JE x=none:=by rcases x with ⟨⟩<;>first | rfl | exact ff hk
theorem av.none{α:Type}{o:Ab α}:Ok (o.bind λ_=>(Ab.none:Ab Aa)) P:=Ok.bind (λ_ _=>trivial) λ_ _=>.none
theorem pD(hk:okIn x=true):Ok (mX H y x) (av H y x):=by
 induction y using AV.casesOn with
 |AS i=>unfold mX;rw[uX hk];exact .none
 |lst i=>unfold mX;rw[nH hk];exact .none
 |loc i=>unfold mX;rw[nH hk];exact av.none
 |tup xs=>
  exact Fv.bind λys e=>SM.mono λr he A π s v cx hu hy hx=>by
   subst e
   refine hy.tup.elim λl p=>p.elim λvs p=>hx.tup.elim λl' q=>q.elim λws q=>?_
   rw[p.1,q.1]
   have z:=(he _ _ _ _ _ p.2.2.2 q.2.2.2).2
   refine⟨?_,z.1.trans (by show _=nG ys (YH s.heap l);rw[O0 p.2.1])⟩
   by_cases e:l=l'
   ·subst e
    rw[z.2 ((O0 p.2.1).symm.trans (O0 q.2.1))]
    exact EqAt.same _
   ·exact EqAt.of_refs e (he.tup p.2.1 q.2.1 p.2.2.2 q.2.2.2 hu).1
 |val i=>exact av.flat (y:=.val i) hk
 |int i=>exact av.flat (y:=.int i) hk
 |str i=>exact av.flat (y:=.str i) hk
 |_=>exact .none
def InX(H:List AO)(x:AV)(ys:List AV)(r:Aa):Prop:=∀(A:AG)(π:Pl)(s:Aj)(vs:List Ad)(cx:Ad),A.units<cLine->Ag π H.length s.heap ys vs->As π H.length s.heap x cx->(∀v,v∈vs->EqAt A s v cx (cE s.heap x v))/\vs.any (cE s.heap x)=r
theorem pE(hk:okIn x=true):Ok (i7 H x ys) (InX H x ys):=by
 induction ys with
 |nil=>exact .some λA π s vs cx hu hy hx=>by subst hy;exact⟨(λ_ q=>nomatch q),rfl⟩
 |cons y ys ih=>
  exact(pD hk).bind λp P=>ih.bind λq Q=>.some λA π s vs cx hu hy hx=>by
   refine AH hy λv hy=>hy.elim λws hy=>?_
   rw[hy.1]
   have p:=P A π s v cx hu hy.2.1 hx
   have q:=Q A π s ws cx hu hy.2.2 hx
   exact⟨λz hz=>(Bc.mp hz).elim (λe=>e▸p.2▸p.1) (q.1 z),by rw[Wc,q.2,<-p.2]⟩
abbrev In2(c:Cx)(d:Nat)(H:List AO)(x b:AV)(r:Aa):Prop:=CO c d H .In x b r/\CO c d H .NotIn x b (!r)
theorem A5.cl1(R:A5 d A):A.in1.units<cLine:=CE (AA (GW (by decide: 1<=40) _) (Rn (BF _ _) _)) R.units
theorem ez:Ok (yG H x b) (In2 c d H x b):=
 .guard λhk=>Bs.bind λys p=>(pE hk).mono λr he=>by
  have main:∀(A:AG)(π:Pl)(s:Aj)(cx cb:Ad),A5 d A->Av c π H s->As π H.length s.heap x cx->As π H.length s.heap b cb->
    ∃l vs,cb=.ref l/\s.heap.IsList l vs/\(∀y,y∈vs->EqAt A.in1 s y cx (cE s.heap x y))/\vs.any (cE s.heap x)=r:=λA π s cx cb R G rx rb=>
   (p π s G cb rb).imp λl q=>q.imp λvs q=>have z:=he A.in1 π s vs.toList cx R.cl1 q.2.2 rx;⟨q.1,q.2.1,λv hv=>z.1 v (AE.mem_toList_iff.mpr hv),by rw[<-z.2];simp⟩
  exact⟨λA π s E cx cb R G rx rb=>(main A π s cx cb R G rx rb).elim λl q=>q.elim λvs q=>q.1▸q.2.2.2▸in_listAt _ q.2.1 q.2.2.1 ⟨.refl s,rfl⟩,
   λA π s E cx cb R G rx rb=>(main A π s cx cb R G rx rb).elim λl q=>q.elim λvs q=>q.1▸q.2.2.2▸notIn_listAt _ q.2.1 q.2.2.1 ⟨.refl s,rfl⟩⟩
theorem O1(a b:Ah)(x1 y1 x2 y2:Int)(t1 u1 t2 u2:Tok)(n n2:Nat)(dd uS:Ab Ah)(sl uT:AE (Ab Ad)):
  Meets (Bk.«tuple.__lt__» ⟨[.ref a,.ref b],[]⟩)
   (λA R s=>s.heap.get? a=some {cls:=.type "tuple",dict:=dd,data:=.seq #[.int x1 t1,.int y1 u1] n,slots:=sl}/\s.heap.get? b=some {cls:=.type "tuple",dict:=uS,data:=.seq #[.int x2 t2,.int y2 u2] n2,slots:=uT}/\
    R (.ok (.ret (.bool (decide (x1<x2)||(decide (x1=x2)&&decide (y1<y2)))))) s):=
 .of_wp λprog w A R s h=>by
  obtain ⟨hp,g,d,tk,os⟩:=s;obtain ⟨hl,hb,h⟩:=h
  have f2:=AutoSeq1.sub_tuple_tuple
  have q1:∀{A:AG}{E:EP}{Q:Aa->Aj->Prop},Q (x1==x2) ⟨hp,g,d,tk,os⟩->Ae (AW prog w) A (eqBool (.int x1 t1) (.int x2 t2)) Q E ⟨hp,g,d,tk,os⟩:=λhq=>EqAt.int_int x1 t1 x2 t2 prog w _ _ hq
  have q2:∀{A:AG}{E:EP}{Q:Aa->Aj->Prop},Q (y1==y2) ⟨hp,g,d,tk,os⟩->Ae (AW prog w) A (eqBool (.int y1 u1) (.int y2 u2)) Q E ⟨hp,g,d,tk,os⟩:=λhq=>EqAt.int_int y1 u1 y2 u2 prog w _ _ hq
  have q3:∀{A:AG}{E:EP}{Q:EP},Q (.bool (decide (x1<x2))) ⟨hp,g,d,tk,os⟩->Ae (AW prog w) A (richCompare .Lt (.int x1 t1) (.int x2 t2)) Q E ⟨hp,g,d,tk,os⟩:=λhq=>Rv hq
  have q4:∀{A:AG}{E:EP}{Q:EP},Q (.bool (decide (y1<y2))) ⟨hp,g,d,tk,os⟩->Ae (AW prog w) A (richCompare .Lt (.int y1 u1) (.int y2 u2)) Q E ⟨hp,g,d,tk,os⟩:=λhq=>Rv hq
  wp_walk using dt hl,dt hb,q1
  by_cases hx:x1=x2
  ·have e1:(x1==x2)=true:=by simpa using hx
   rw[e1]
   wp_walk using q2
   by_cases hy:y1=y2
   ·have e2:(y1==y2)=true:=by simpa using hy
    rw[e2]
    wp_walk
    subst hx hy
    exact⟨_,rfl,by simpa[Bk.Tuple.tupleCompareSizes] using h⟩
   ·have e2:(y1==y2)=false:=by simpa using hy
    rw[e2]
    wp_walk using q4
    subst hx
    exact⟨_,rfl,by simpa using h⟩
  ·have e1:(x1==x2)=false:=by simpa using hx
   rw[e1]
   wp_walk using q3
   exact⟨_,rfl,by simpa[hx] using h⟩
theorem Mu{b vs}(l:Ek h b vs):∃d n sl,h.get? b=some ⟨.type "tuple",d,.seq vs n,sl⟩:=
 AH l λo q=>q.2.2.elim λn e=>⟨o.dict,n,o.slots,by rw[q.1];rcases o with ⟨⟩;rcases q.2.1 with ⟨⟩;rcases e with ⟨⟩;rfl⟩
theorem eA(ha:Ek s.heap a #[.int x1 t1,.int y1 u1])(hb:Ek s.heap b #[.int x2 t2,.int y2 u2])(hu:A.units<cLine)
  (hq:Q (.bool (decide (x1<x2)||(decide (x1=x2)&&decide (y1<y2)))) s):Ae (AW prog w) A (Ol .Lt (.ref a) (.ref b)) Q E s:=
 (Mu ha).elim λdd x=>x.elim λn x=>x.elim λsl ho=>(Mu hb).elim λuS x=>x.elim λn2 x=>x.elim λuT nD=>
  richCompare_meets_room (op:=.Lt) ⟨_,ho,rfl⟩ ⟨_,nD,rfl⟩ F.slot_tuple_lt F.entry_tuple_lt (F.args_tuple_lt_2 _ _) (O1 a b x1 y1 x2 y2 t1 u1 t2 u2 n n2 dd uS sl uT)
   ⟨ho,nD,⟨(λx=>nomatch x),hq⟩⟩ hu
theorem O2:Ok (Yz xs) λp=>xs=[.int p.1,.int p.2]:=Ms.bind λp e=>Bd.bind λx e1=>Bd.bind λy e2=>.some (by rw[e,e1,e2])
theorem Ag.ints2(r:Ag π n h [.int i,.int j] vs.toList):∃t u,vs = #[.int i t,.int j u]:=
 AH r λv r=>r.elim λws r=>r.2.1.int.elim λt e=>AH r.2.2 λw q=>q.elim λzs q=>q.2.1.int.elim λu e'=>⟨t,u,by rw[<-VR (xs:=vs),r.1,q.1,q.2.2,e,e']⟩
theorem IW:Ok (ltV a b) (CO c d H .Lt a b):=by
 induction a using AV.casesOn with
 |int x=>exact Bd.bind λy e=>.some (e▸CO.ltI)
 |tup xs=>
  exact O2.bind λp e=>Fv.bind λys e1=>O2.bind λq e2=>.some λA π s E ca cb R G ha hb=>by
   subst e1 e e2
   refine ha.tup.elim λl x=>x.elim λvs x=>hb.tup.elim λl' y=>y.elim λws y=>x.2.2.2.ints2.elim λt1 z=>z.elim λu1 z1=>y.2.2.2.ints2.elim λt2 z=>z.elim λu2 z2=>?_
   rw[x.1,y.1]
   exact eA (z1▸x.2.1) (z2▸y.2.1) R.cl ⟨.refl s,rfl⟩
 |_=>exact .none
theorem CO.ff(k:∀{A:AG}{s:Aj}{E:EP}{Q:EP}{t u:Tok},Q (.bool r) s->Ae c.m A (Ol op (.float x t) (.float y u)) Q E s):CO c d H op (.AS x) (.AS y) r:=
 λA π s E ca cb R G ha hb=>ha.AS.elim λt p=>hb.AS.elim λu q=>p▸q▸k ⟨.refl s,rfl⟩
theorem CO.fi(k:∀{A:AG}{s:Aj}{E:EP}{Q:EP}{t u:Tok},Q (.bool r) s->Ae c.m A (Ol op (.float x t) (.int y u)) Q E s):CO c d H op (.AS x) (.int y) r:=
 λA π s E ca cb R G ha hb=>ha.AS.elim λt p=>hb.int.elim λu q=>p▸q▸k ⟨.refl s,rfl⟩
theorem pG:Ok (ltA a b) (CO c d H .Lt a b):=by
 induction a using AV.casesOn with
 |AS x=>induction b using AV.casesOn with
  |int y=>exact .some (.fi lt_fi)
  |AS y=>exact .some (.ff cS)
  |_=>exact .none
 |val v=>exact IW (a:=.val v)
 |int v=>exact IW (a:=.int v)
 |str v=>exact IW (a:=.str v)
 |tup v=>exact IW (a:=.tup v)
 |lst v=>exact IW (a:=.lst v)
 |loc v=>exact IW (a:=.loc v)
 |Gw x y z=>exact IW (a:=.Gw x y z)
 |BH v=>exact IW (a:=.BH v)
theorem pH:Ok (leA a b) (CO c d H .LtE a b):=by
 induction a using AV.casesOn with
 |AS x=>induction b using AV.casesOn with
  |int y=>exact .some (.fi le_fi)
  |AS y=>exact .some (.ff AutoFloatOps.le_0)
  |_=>exact .none
 |int x=>induction b using AV.casesOn with
  |int y=>exact .some CO.leI
  |AS y=>exact .some λA π s E ca cb R G ha hb=>ha.int.elim λt p=>hb.AS.elim λu q=>p▸q▸le_if ⟨.refl s,rfl⟩
  |_=>exact .none
 |_=>exact .none
theorem pI:Ok (gtA a b) (CO c d H .Gt a b):=by
 induction a using AV.casesOn with
 |AS x=>exact IS.bind λy e=>.some (e▸.ff cT)
 |int x=>exact Bd.bind λy e=>.some (e▸CO.gtI)
 |_=>exact .none
theorem O3(h:Nu v=true):v=.none:=by rcases v with ⟨⟩<;>first | rfl | exact Mine.ff h
theorem pJ(hb:isNone b=true):Ok (isA a) (CO c d H .Is a b):=by
 rcases Qz hb with ⟨⟩
 induction a using AV.casesOn with
 |val v=>exact .guard λh=>.some (O3 h▸CO.jG)
 |BH v=>exact .some (CO.isNone λπ n h cv r=>r.BH.elim λa q=>⟨(q.1▸rfl),q.1▸nofun⟩)
 |int v=>exact .some (CO.isNone λπ n h cv r=>r.int.elim λa q=>⟨(q▸rfl),q▸nofun⟩)
 |lst v=>exact .some (CO.isNone λπ n h cv r=>r.lst.elim λa q=>q.elim λ_ q=>⟨(q.1▸rfl),q.1▸nofun⟩)
 |_=>exact .none
theorem YI(h:Ok o P)(k:∀r,P r->Q (!r)):Ok (dJ o) Q:=h.bind λr p=>.some (k r p)
theorem YJ:Ok (Gz op a b S) (CO c d S.H op a b):=by
 cases op with
 |Lt=>exact pG
 |LtE=>exact pH
 |Gt=>exact pI
 |Eq=>exact ew.mono λ_ p=>p.1
 |NotEq=>exact YI ew λ_ p=>p.2
 |Is=>exact .guard λh=>pJ h
 |In=>exact ez.mono λ_ p=>p.1
 |NotIn=>exact YI ez λ_ p=>p.2
 |_=>exact .none
end
end
section
open PySem.Spec PySem.Calls
section
variable{c:Cx}{lo:Lo}
theorem Bt.pure
  (h:∀(A:AG)(env:Env)(π:Pl)(s:Aj)(E:EP),A5 d A->Bu π H.length fr env->Av c π H s->Br c π H.length s.heap env.locals lo->
   Ae c.m A (eval e env) (λcv s'=>Kp no s s'/\As π H.length s'.heap v cv) E s):Bt c d fr lo H e v H:=
 λA env π s E R F G L=>AJ (h A env π s E R F G L) (λcv s' h'=>⟨π,.pure G h'.1,h'.2⟩) λ_ _ x=>x
theorem Nw(h:W4 x=false):(x==("__debug__" :Str))=false/\(x==("__class__" :Str))=false/\(x==("__classdict__" :Str))=false:=by
 unfold W4 at h
 rw[SJ] at h
 simp only[cj,List.contains_nil,VV,NQ] at h
 exact h
theorem Bu.kd(F:Bu π n fr env):env.scope.kind=.function:=F.scope▸F.kind
theorem Bu.kindOf(F:Bu π n fr env)(h:fr.scope.names.lookup x=some k):env.kindOf x=some k:=by unfold Sg;rw[F.scope];exact h
theorem O4(h:CX fr x=some k):fr.scope.names.lookup x=some k:=(D9 ..).symm.trans h
theorem Ns.pK{h:Ay}{a m}(hn:h.Ns a m):∃o,h.get? a=some o/\∀vs,o.data≠.fields vs:=AH hn λo q=>q.elim λes q=>q.elim λep q=>⟨o,q.1,Fw q.2.1⟩
theorem Ns.up(G:Av c π H s){a m}(hn:c.B.heap.Ns a m):s.heap.Ns a m:=
 (Ns.pK hn).elim λo q=>hn.at' λo' e=>G.base.keep _ o' id (c.tabs.Mq e (AQ (q.1.symm.trans e)▸q.2)) e
theorem Glob.up(G:Av c π H s)(h:Glob c.B.heap x v):Glob s.heap x v:=
 h.imp λ_ q=>q.imp λ_ q=>⟨Ns.up G q.1,Ns.up G q.2.1,q.2.2⟩
theorem KR(hk:env.scope.kind=.function)(hx:env.kindOf x=some .globalImplicit)(hg:env.globals=DO)(hb:env.builtins=C4)(G:Glob s.heap x v)
  (hd:(x==("__debug__" :Str))=false)(q:Q v s):Ae c.m A (eval (.Name x p) env) Q E s:=
 AH G λmg G=>G.elim λmb G=>Name_function_global hk hx (G.2.2.elim (λh3=>loadGlobal_global (hg▸G.1) h3 q) λh3=>loadGlobal_builtin (hg▸G.1) h3.1 (hb▸G.2.1) h3.2 q) hd
theorem O5{s:Aj}(R:Br c π n s.heap L lo)(h:lo.lookup x=some v):∃m cv,s.heap.Ns L m/\m x=some cv/\As π n s.heap v cv:=R.ns.elim λm q=>(q.2 x v h).imp' (λ_=>m) λcv r=>⟨cv,q.1,r.1,r.2⟩
theorem Jj{m}(hk:env.scope.kind=.function)(hx:env.kindOf x=some .local)(hn:s.heap.Ns env.locals m)(hm:m x=some v)
  (hd:(x==("__debug__" :Str))=false)(q:Q v s):Ae c.m A (eval (.Name x p) env) Q E s:=wpAny_Name (Wv hk hx hn hm q) hd
theorem Ud:Ok (dM fr S x) λv=>∃l,fr.cells.lookup x=some l/\S.H[l]?=some (.cell (some v)):=
 Ok.self.bind λl hl=>cellAt.bind λo ho=>Ok.self.mono λv hv=>⟨l,(D9 ..).symm.trans hl,hv▸ho⟩
theorem Ue{S:St}(hcl:(x==("__class__" :Str))=false)(h:∃l,fr.cells.lookup x=some l/\S.H[l]?=some (.cell (some v)))(F:Bu π S.H.length fr env)(G:Av c π S.H s):
  ∃a o cv,env.cells.lookup x=some a/\s.heap.get? a=some o/\o.data=.cell (some cv)/\As π S.H.length s.heap v cv:=
 h.elim λl h=>(G.objs l _ h.2).elim λcv q=>q.2.elim λw r=>⟨_,_,w,(F.cells x hcl).trans (Ai (Ab.map π.at') h.1),q.1,by rw[r.1],r.2⟩
theorem IX{x:Str}{S:St}:Ok (nameA fr lo S x) λv=>Bt c d fr lo S.H (.Name x p) v S.H:=by
 refine .guard λhb=>Ok.self.bind λk hk=>?_
 have hd:=Nw (HN hb)
 have hk:=O4 hk
 cases k with
 | «local» =>exact Ok.self.mono λv h=>.pure λA env π s E R F G L=>(O5 L ((D9 ..).symm.trans h)).elim λm q=>q.elim λcv q=>Jj F.kd (F.kindOf hk) q.1 q.2.1 hd.1 ⟨.refl s,q.2.2⟩
 |cell=>exact Ud.mono λv h=>.pure λA env π s E R F G L=>(Ue hd.2.1 h F G).elim λa q=>q.elim λo q=>q.elim λcv q=>wpAny_Name (wpAny_loadName_cell F.kd (F.kindOf hk) q.1 ⟨_,q.2.1,q.2.2.1⟩ ⟨.refl s,q.2.2.2⟩) hd.1
 |free=>exact Ud.mono λv h=>.pure λA env π s E R F G L=>(Ue hd.2.1 h F G).elim λa q=>q.elim λo q=>q.elim λcv q=>wpAny_Name (wpAny_loadName_free F.kd (F.kindOf hk) q.1 ⟨_,q.2.1,q.2.2.1⟩ ⟨.refl s,q.2.2.2⟩ hd.2.2) hd.1
 |globalExplicit=>exact .none
 |globalImplicit=>exact Ok.self.bind λv h=>.some (.pure λA env π s E R F G L=>KR F.kd (F.kindOf hk) F.glob F.bi (.up G (c.gt x v h)) hd.1 ⟨.refl s,rfl⟩)
theorem GC:Ok (dZ v) λa=>Bt c d fr lo H (.Constant v k p) a H:=by
 cases v with
 |int i=>exact .some (.pure λA env π s E _ _ _ _=>wpAny_Constant_int ⟨.toks,_,rfl⟩)
 |str x=>exact .some (.pure λA env π s E _ _ _ _ Γ p' _=>⟨.toks,_,rfl⟩)
 |float x=>exact .some (.pure λA env π s E _ _ _ _ Γ p' _=>⟨.toks,_,rfl⟩)
 |bool x=>exact .some (.pure λA env π s E _ _ _ _ Γ p' _=>⟨.refl s,rfl⟩)
 |none=>exact .some (.pure λA env π s E _ _ _ _ Γ p' _=>⟨.refl s,rfl⟩)
 |_=>exact .none
theorem Bt.use(h:Bt c d fr lo H e a H1)(R:A5 d A)(F:Bu π H.length fr env)(G:Av c π H s)
  (L:Br c π H.length s.heap env.locals lo)
  (k:∀cv s₁ π₁,PG c fr.wr none π H s H1 π₁ s₁->Bu π₁ H1.length fr env->Br c π₁ H1.length s₁.heap env.locals lo->As π₁ H1.length s₁.heap a cv->Q cv s₁):
  Ae c.m A (eval e env) Q E s:=
 AJ (h A env π s E R F G L) (λcv s₁ ⟨π₁,P,r⟩=>k cv s₁ π₁ P (P.fr F) (L.pg P G) r) λ_ _ x=>x
theorem Jw.use(h:Jw c d fr lo H e b H1)(R:A5 d A)(F:Bu π H.length fr env)(G:Av c π H s)
  (L:Br c π H.length s.heap env.locals lo)
  (k:∀s₁ π₁,PG c fr.wr none π H s H1 π₁ s₁->Bu π₁ H1.length fr env->Br c π₁ H1.length s₁.heap env.locals lo->Q b s₁):
  Ae c.m A (RN e env (eval e env)) Q E s:=
 AJ (h A env π s E R F G L) (λb' s₁ ⟨π₁,P,r⟩=>r▸k s₁ π₁ P (P.fr F) (L.pg P G)) λ_ _ x=>x
theorem Bt.bin(hl:Bt c d fr lo H l a H1)(hr:Bt c d fr lo H1 r b H2)(ho:C1 c d H2 op a b v):Bt c d fr lo H (.BinOp l op r p) v H2:=by
 intro A env π s E R F G L
 refine wpAny_BinOp (hl.use R F G L λca s₁ π₁ P₁ F₁ L₁ r₁=>?_)
 refine hr.use R F₁ P₁.g L₁ λcb s₂ π₂ P₂ F₂ L₂ r₂=>?_
 refine AJ (ho A π₂ s₂ E ca cb R P₂.g (r₁.pg P₂ P₁.g) r₂) (λcv s₃ h₃=>?_) λ_ _ e=>e
 exact⟨π₂,(P₁.trans P₂).DU h₃.1,h₃.2⟩
theorem Bt.cmp(hl:Bt c d fr lo H l a H1)(hr:Bt c d fr lo H1 r b H2)(ho:CO c d H2 op a b v)(hm:Og op r=false):
  Bt c d fr lo H (.Compare l [op] [r] p) (.bool v) H2:=by
 intro A env π s E R F G L
 refine wpAny_Compare1 (hl.use R F G L λca s₁ π₁ P₁ F₁ L₁ r₁=>?_) hm
 refine hr.use R F₁ P₁.g L₁ λcb s₂ π₂ P₂ F₂ L₂ r₂=>?_
 refine AJ (ho A π₂ s₂ E ca cb R P₂.g (r₁.pg P₂ P₁.g) r₂) (λcv s₃ h₃=>?_) λ_ _ e=>e
 exact⟨π₂,(P₁.trans P₂).DU h₃.1,h₃.2⟩
theorem Jw.cmp(hl:Bt c d fr lo H l a H1)(hr:Bt c d fr lo H1 r b H2)(ho:CO c d H2 op a b v)(hm:Og op r=false):
  Jw c d fr lo H (.Compare l [op] [r] p) v H2:=by
 intro A env π s E R F G L
 refine wpAny_isTrue_Compare1 (hl.use R F G L λca s₁ π₁ P₁ F₁ L₁ r₁=>?_) hm
 refine hr.use R F₁ P₁.g L₁ λcb s₂ π₂ P₂ F₂ L₂ r₂=>?_
 refine AJ (ho A π₂ s₂ E ca cb R P₂.g (r₁.pg P₂ P₁.g) r₂) (λcv s₃ h₃=>?_) λ_ _ e=>e
 obtain ⟨k,rfl⟩:=h₃
 exact RE ⟨π₂,(P₁.trans P₂).DU k,rfl⟩
theorem Jw.not(he:Jw c d fr lo H e b H1):Jw c d fr lo H (.UnaryOp .Not e p) (!b) H1:=by
 intro A env π s E R F G L
 rw[arm_isTrue_UnaryOp]
 exact Ac (he.use R F G L λs₁ π₁ P₁ F₁ L₁=>An ⟨π₁,P₁,rfl⟩)
theorem Bt.ite(ht:Jw c d fr lo H t z H1)(ha:Bt c d fr lo H1 (cond z a b) v H2):Bt c d fr lo H (.IfExp t a b p) v H2:=by
 intro A env π s E R F G L
 rw[arm_eval_IfExp]
 refine Ac (ht.use R F G L λs₁ π₁ P₁ F₁ L₁=>?_)
 rcases z with ⟨⟩<;>exact ha.use R F₁ P₁.g L₁ λcv s₂ π₂ P₂ F₂ L₂ r₂=>⟨π₂,P₁.trans P₂,r₂⟩
theorem Jw.pL:Jw c d fr lo H (.BoolOp .And [] p) true H:=by
 intro A env π s E R F G L;rw[LV,arm_allTrue_nil];exact An ⟨π,.refl G,rfl⟩
theorem Jw.uY:Jw c d fr lo H (.BoolOp .Or [] p) false H:=by
 intro A env π s E R F G L;rw[LV,arm_allTrue_nil];exact An ⟨π,.refl G,rfl⟩
theorem Jw.Aad(he:Jw c d fr lo H e false H1):Jw c d fr lo H (.BoolOp .And (e::r) p) false H1:=by
 intro A env π s E R F G L
 rw[LV,Wz]
 exact Ac (he.use R F G L λs₁ π₁ P₁ F₁ L₁=>An ⟨π₁,P₁,rfl⟩)
theorem Jw.YK(he:Jw c d fr lo H e true H1):Jw c d fr lo H (.BoolOp .Or (e::r) p) true H1:=by
 intro A env π s E R F G L
 rw[LV,Wz]
 exact Ac (he.use R F G L λs₁ π₁ P₁ F₁ L₁=>An ⟨π₁,P₁,rfl⟩)
theorem Jw.uZ(hz:z=(match op with | .And=>true | .Or=>false))(he:Jw c d fr lo H e z H1)(hr:Jw c d fr lo H1 (.BoolOp op r p) b H2):Jw c d fr lo H (.BoolOp op (e::r) p) b H2:=by
 intro A env π s E R F G L
 rw[LV,Wz]
 refine Ac (he.use R F G L λs₁ π₁ P₁ F₁ L₁=>?_)
 have:=hr A env π₁ s₁ E R F₁ P₁.g L₁
 rw[LV] at this
 subst hz
 rcases op with ⟨⟩<;>exact AJ this (λcv s₂ h=>h.imp λπ₂ h₂=>⟨P₁.trans h₂.1,h₂.2⟩) λ_ _ e=>e
theorem Bt.YL(hz:z=(match op with | .And=>true | .Or=>false))(ha:Bt c d fr lo H a (.bool x) H1)(hb:x=z->Bt c d fr lo H1 b v H2)(hs:x≠z->v=.bool x/\H2=H1):
  Bt c d fr lo H (.BoolOp op [a,b] p) v H2:=by
 intro A env π s E R F G L
 rw[arm_eval_BoolOp,arm_evalEach_cons,arm_evalEach_cons,arm_evalEach_nil]
 refine Ac (ha.use R F G L λca s₁ π₁ P₁ F₁ L₁ r₁=>?_)
 rcases r₁.val with ⟨⟩
 refine Ac (DN (Ac (BE (RE ?_))))
 have go:x=z->Ae c.m A (eval b env) (FU c fr.wr π H s v H2) E s₁:=λq=>(hb q).use R F₁ P₁.g L₁ λcv s₂ π₂ P₂ F₂ L₂ r₂=>⟨π₂,P₁.trans P₂,r₂⟩
 have stop:x≠z->FU c fr.wr π H s v H2 (.bool x) s₁:=λq=>by rw[(hs q).1,(hs q).2];exact⟨π₁,P₁,rfl⟩
 subst hz
 rcases op with ⟨⟩<;>rcases x with ⟨⟩<;>first | exact go rfl | exact An (stop nofun)
theorem Bt.neg(he:Bt c d fr lo H e (.int i) H1):Bt c d fr lo H (.UnaryOp .USub e p) (.int (-i)) H1:=by
 intro A env π s E R F G L
 rw[arm_eval_UnaryOp]
 refine Ac (he.use R F G L λca s₁ π₁ P₁ F₁ L₁ r₁=>Ac (DN (BE ?_)))
 obtain ⟨t,rfl⟩:=r₁.int
 refine PyProof.Rows.neg_int ⟨π₁,P₁.DU .toks,.mkInt⟩
theorem IU.nil:IU c d fr lo H [] [] H:=by
 intro A env π s E R F G L
 exact Ml ⟨π,.refl G,.nil⟩
theorem IU.cons(he:Bt c d fr lo H e v H1)(hes:IU c d fr lo H1 es vs H2):IU c d fr lo H (e::es) (v::vs) H2:=by
 intro A env π s E R F G L
 refine IC (he.use R F G L λcv s₁ π₁ P₁ F₁ L₁ r₁=>?_)
 refine AJ (hes A env π₁ s₁ E R F₁ P₁.g L₁) (λcvs s₂ ⟨π₂,P₂,r₂⟩=>?_) λ_ _ e=>e
 exact⟨π₂,P₁.trans P₂,.cons (r₁.pg P₂ P₁.g) r₂⟩
end
section
variable{lo:Lo}
def Ea(es:List Expr):Prop:=∀env pos,J6 pos (G4 es env)=es.map λe=>(false,eval e env)
theorem Qf(e:Expr)(es:List Expr)(env:Env)(h:T4 22 e=false):G4 (e::es) env=(false,eval e env)::G4 es env:=by
 rcases e with ⟨⟩<;>first | rfl | exact ff (h.symm▸rfl)
theorem BL(h:noStar n es=true):Ea es/\es.length<=n:=by
 refine⟨λenv pos=>?_,Bn (Ax h)⟩
 replace h:(es.all λe => !T4 22 e)=true:=Am h
 induction es with
 |nil=>rfl
 |cons e es ih=>
  have h:=h
  rw[Qf e es env (HN (Ax h))]
  exact Ai ((false,eval e env) :: ·) (ih (Am h))
theorem Bt.list(h:IU c d fr lo H es vs H1)(hst:Ea es)(hsz:vs.length<=BY):Bt c d fr lo H (.List es p) (.lst vs) H1:=by
 intro A env π s E R F G L
 have hh:=h A env π s E R F G L
 rw[<-hst env p] at hh
 exact List_ (AJ hh (λcvs s₁ h=>h.elim λπ₁ q=>Of ⟨π₁,q.1.DU (.BS _),As.newList q.1.g q.2⟩ (q.2.length.symm▸hsz)) λ_ _ e=>e)
theorem Bt.tuple(h:IU c d fr lo H es vs H1)(hst:Ea es)(hsz:vs.length<=BY):Bt c d fr lo H (.Tuple es k p) (.tup vs) H1:=by
 intro A env π s E R F G L
 have hh:=h A env π s E R F G L
 rw[<-hst env p] at hh
 exact Tuple_ (AJ hh (λcvs s₁ h=>h.elim λπ₁ q=>LY ⟨π₁,q.1.DU (.BS _),As.newTuple q.1.g q.2⟩ (q.2.length.symm▸hsz)) λ_ _ e=>e)
def Ko(c:Cx)(d:Nat)(H:List AO)(a i r:AV):Prop:=
 ∀(A:AG)(π:Pl)(s:Aj)(E:EP)(ca ci:Ad)(value slice:Expr),A5 d A->Av c π H s->As π H.length s.heap a ca->As π H.length s.heap i ci->
  (∀o i,Oh slice false o i=operate [o,i] (Me o i))->Ae c.m A (Wr value slice ca ci) (λcv s'=>Kp no s s'/\As π H.length s'.heap r cv) E s
theorem Bt.sub(he:Bt c d fr lo H e a H1)(hi:Bt c d fr lo H1 i k H2)(hs:Ko c d H2 a k r)(hsl:∀o x,Oh i false o x=operate [o,x] (Me o x)):
  Bt c d fr lo H (.Subscript e i p) r H2:=by
 intro A env π s E R F G L
 refine Subscript_ (he.use R F G L λca s₁ π₁ P₁ F₁ L₁ r₁=>hi.use R F₁ P₁.g L₁ λci s₂ π₂ P₂ F₂ L₂ r₂=>?_)
 exact AJ (hs A π₂ s₂ E ca ci e i R P₂.g (r₁.pg P₂ P₁.g) r₂ hsl) (λcv s₃ h₃=>⟨π₂,(P₁.trans P₂).DU h₃.1,h₃.2⟩) λ_ _ e=>e
set_option tactic.hygienic true in
theorem eB{i:Int}{n j:Nat}(h:(if (decide (0<=i)&&decide (i<n))=true then some i.toNat else none)=some j): 0<=i/\i<n/\i.toNat=j:=by
 split at h
 ·rename_i hc;exact⟨Bi (Ax hc),Bi (Am hc),AQ h⟩
 ·rcases h with ⟨⟩
theorem IY{k:Int}(h:Cp k n=some j)(hn:n<2^20):(-(2^63)<=k/\k<2^63)/\(0<=k->k.toNat=j):=by
 by_cases hk:k<0
 ·have h:=eB (by unfold Cp at h;rw[Bh hk] at h;exact h)
  exact(pw [.t .p (.k (2^20)),.a (.L (.j 0) (.A .p (.n .p))) (.a (.T (.A .p (.n .p)) (.n .p)) (.e (.d (.A .p (.n .p))) .q))] (.a (.a (.L (.g (.j (2^63))) .p) (.T .p (.j (2^63)))) (.i (.L (.j 0) .p) (.e (.d .p) .q))) [_] [_,_]) hn h
 ·have h:=eB (by unfold Cp at h;rw[AD hk] at h;exact h)
  exact(pw [.t .p (.k (2^20)),.a (.L (.j 0) .p) (.a (.T .p (.n .p)) (.e (.d .p) .q))] (.a (.a (.L (.g (.j (2^63))) .p) (.T .p (.j (2^63)))) (.i (.L (.j 0) .p) (.e (.d .p) .q))) [_] [_,_]) hn h
theorem jO(h:n<100000):n<2^20:=EH h ⋯
theorem Ko.list(ha:Jx c H a xs)(hsz:xs.length<100000)(hj:Cp k xs.length=some j)(hx:xs[j]?=some r):Ko c d H a (.int k) r:=by
 intro A π s E ca ci value slice R G ra ri hsl
 refine(ha π s G ca ra).elim λb q=>q.elim λvs q=>ri.int.elim λt ht=>(q.2.2.get hx).elim λv hv=>?_
 rw[q.1,ht]
 have h:=IY hj (jO hsz)
 refine(Sj.em (0<=k)).elim (λh0=>Ig q.2.1.typeIs LU.lookup (wpAny_getItem_list q.2.1 h0 h.1.2 (by rw[h.2 h0];simpa using hv.1) ⟨.refl s,hv.2⟩) (hsl _ _)) λh0=>?_
 have h0:=Fe.mp h0
 exact Ig q.2.1.typeIs LU.lookup (kde_getNeg q.2.1 h0 h.1.1 (q.2.2.length.symm▸hj) hv.1 ⟨.refl s,hv.2⟩) (hsl _ _)
theorem Ko.tup(hsz:xs.length<100000)(hj:Cp k xs.length=some j)(hx:xs[j]?=some r):Ko c d H (.tup xs) (.int k) r:=by
 intro A π s E ca ci value slice R G ra ri hsl
 refine ra.tup.elim λb q=>q.elim λvs q=>ri.int.elim λt ht=>(q.2.2.2.get hx).elim λv hv=>?_
 rw[q.1,ht]
 have h:=IY hj (jO hsz)
 exact Ig q.2.1.typeIs slot_tuple_getitem.lookup (PyProof.Rows.getItem_tuple q.2.1 h.1.1 h.1.2 (q.2.2.2.size.symm▸hj) (by simpa using hv.1) ⟨.refl s,hv.2⟩) (hsl _ _)
theorem Ko.str(hsz:CI x<2^20)(hj:(Cp k (CI x)).bind (x.cps[·]?)=some ch):Ko c d H (.str x) (.int k) (.str ⟨#[ch]⟩):=by
 intro A π s E ca ci value slice R G ra ri hsl
 refine ra.str.elim λt ht=>ri.int.elim λu hu=>?_
 rw[ht,hu]
 have h: -(2^63)<=k/\k<2^63:=by
  cases e:Cp k (CI x) with
  |none=>rw[e] at hj;cases hj
  |some j=>exact(IY e hsz).1
 exact Ig (J2 s x t) F.slot_str_getitem.lookup (PySem.P.getItem_str (by rw[Ct (DD.mpr h.1),Ct (Fe.mpr h.2)];rfl) hj ⟨.toks,.mkStr⟩) (hsl _ _)
def eE(c:Cx):Prop:=∀(d:Nat)(H:List AO)(l dd:Nat)(xs:List AV)(k:Int)(j:Nat)(r:AV),H[l]?=some (.acc dd xs)->xs.length<100000->Cp k xs.length=some j->xs[j]?=some r->Ko c d H (.loc l) (.int k) r
theorem Ko.of{xs:List AV}(h:∀j r,Cp k xs.length=some j->xs[j]?=some r->xs.length<100000->Ko c d H a (.int k) r):
  Ok (Af (decide (xs.length<100000)) ((Cp k xs.length).bind (xs[·]?))) (Ko c d H a (.int k)):=.guard λq=>Ok.self.bind λj hj=>Ok.self.mono λr hr=>h j r hj hr (Bi q)
theorem jP(acc:eE c){a i:AV}:Ok (II S a i) (Ko c d S.H a i):=by
 refine Bd.bind λk e=>e▸?_
 induction a using AV.casesOn with
 |str x=>exact .guard λh=>Ok.self.bind λch hc=>.some (.str (Bi h) hc)
 |tup xs=>exact Ok.bind (.some rfl) λys e=>e▸Ko.of λj r hj hr h=>.tup h hj hr
 |lst xs=>exact(Bs (a:=.lst xs)).bind λys p=>Ko.of λj r hj hr h=>.list p h hj hr
 |loc l=>exact Ok.bind (P:=λys=>Jx c S.H (.loc l) ys\/∃dd,S.H[l]?=some (.acc dd ys)) (Ok.self.bind λo e=>by
   induction o using AO.casesOn with
   |list xs=>exact .some (.inl (Bs xs (by show(S.H[l]?).bind CW=_;rw[e];rfl)))
   |acc dd xs=>exact .some (.inr ⟨dd,e⟩)
   |_=>exact .none) λys p=>Ko.of λj r hj hr h=>p.elim (λp=>.list p h hj hr) λp=>p.elim λdd p=>acc d S.H l dd _ k j r p h hj hr
 |_=>exact .none
def DS(c:Cx)(d:Nat)(fr:FD)(lo:Lo)(H:List AO)(e:Ab Expr)(k:Ab Int)(H':List AO):Prop:=match e with
 |none=>k=none/\H'=H
 |some e=>∃i,k=some i/\Bt c d fr lo H e (.int i) H'
theorem DS.use(h:DS c d fr lo H e k H1)(R:A5 d A)(F:Bu π H.length fr env)(G:Av c π H s)
  (L:Br c π H.length s.heap env.locals lo)
  (q:∀s₁ π₁ pt,PG c fr.wr none π H s H1 π₁ s₁->Bu π₁ H1.length fr env->Br c π₁ H1.length s₁.heap env.locals lo->IsPart (CU pt) k->pt.map (·.1)=k->Q (CU pt) s₁):
  Ae c.m A (evalPart e env) Q E s:=by
 induction e using BK with
 |none=>rw[h.1] at q;rw[h.2] at q;exact An (q s π none (.refl G) F L .none rfl)
 |some e=>exact AH h λi h=>Bt.use h.2 R F G L λcv s₁ π₁ P₁ F₁ L₁ r₁=>r₁.int.elim λt ht=>ht▸q s₁ π₁ (some (i,t)) P₁ F₁ L₁ (h.1▸.int i t) h.1.symm
theorem Ug(vs:AE Ad)(l u:Ab Int):RX vs l u none=(OO vs.toList l u).toArray:=slicePick_plain vs l u
theorem Ag.cut{π n h}(r:Ag π n h xs vs)(l u:Ab Int):Ag π n h (OO xs l u) (OO vs l u):=by
 unfold OO
 rw[r.length]
 exact(r.drop _).take _
noncomputable abbrev Dc(l u:Ad):Obj:={cls:=.type "slice",data:=.fields #[l,u,.none]}
theorem Bt.slice(he:Bt c d fr lo H e a H1)(hl:DS c d fr lo H1 lower l H2)(hu:DS c d fr lo H2 upper u H3)
  (k:∀(A:AG)(π:Pl)(s:Aj)(E:EP)(ca:Ad)(pl pu:Ab (Int×Tok)),A5 d A->Av c π H3 s->As π H3.length s.heap a ca->IsPart (CU pl) l->IsPart (CU pu) u->pl.map (·.1)=l->pu.map (·.1)=u->
   Ae c.m A (Wr e (.Slice lower upper none p) ca (.ref s.heap.objs.size)) (λcv s'=>Kp no s s'/\As π H3.length s'.heap v cv) E {s with heap:=s.heap.push (Dc (CU pl) (CU pu))}):
  Bt c d fr lo H (.Subscript e (.Slice lower upper none p) q) v H3:=by
 intro A env π s E R F G L
 rw[eval_Subscript]
 refine Ac (he.use R F G L λca s₁ π₁ P₁ F₁ L₁ r₁=>?_)
 refine Ac (BE (wpAny_Slice (hl.use R F₁ P₁.g L₁ λs₂ π₂ pl P₂ F₂ L₂ hpl u0=>hu.use R F₂ P₂.g L₂ λs₃ π₃ pu P₃ F₃ L₃ pM Aae=>?_)))
 rw[WH]
 exact An (Ac (DN (AJ (k A π₃ s₃ E ca pl pu R P₃.g ((r₁.pg P₂ P₁.g).pg P₃ P₂.g) hpl pM u0 Aae) (λcv s' h=>⟨π₃,((P₁.trans P₂).trans P₃).DU h.1,h.2⟩) λ_ _ x=>x)))
theorem size_le(h:n<100000)(e:m=n):m<=BY:=e▸AA (DY h) ⋯
theorem Bt.eF(he:Bt c d fr lo H e a H1)(hl:DS c d fr lo H1 lower l H2)(hu:DS c d fr lo H2 upper u H3)
  (ha:Jx c H3 a xs)(hsz:xs.length<100000):Bt c d fr lo H (.Subscript e (.Slice lower upper none p) q) (.lst (OO xs l u)) H3:=
 he.slice hl hu λA π s E ca pl pu R G r hpl pM _ _=>(ha π s G ca r).elim λb q=>q.elim λvs q=>q.1.symm▸(by
  refine Ig ((q.2.1.push _).typeIs) LU.lookup (cK (q.2.1.push _) (WR.new ..) hpl pM .none (by simp) ⟨(Kp.BS _).trans (.BS _),?_⟩ (size_le hsz q.2.2.size)) rfl
  rw[Ug]
  exact As.newList (G.DU (Kp.BS (Dc (CU pl) (CU pu)))) ((q.2.2.push _).cut l u))
theorem Uh(x:Str)(l u:Ab Int)(h:CI x<2^20):(Ox x l u).length<=BY:=AA (Txt.slice_le x l u) (AA (DY h) ⋯)
theorem jQ(x:Str)(t:Tok)(l u:Ab (Int×Tok)):(sliceMade x t l u none=.val (.str x t)/\Ox x (l.map (·.1)) (u.map (·.1))=x)\/sliceMade x t l u none=.str (Ox x (l.map (·.1)) (u.map (·.1))):=by
 by_cases hc:((1:Int)==1&&(Bk.Str.strSliceIndices (l.map (·.1)) (u.map (·.1)) 1 x.length).length==x.length)=true
 ·exact .inl ⟨Bh hc,Bh hc⟩
 ·exact .inr ((AD hc).trans (Ai Made.str (AD hc).symm))
theorem Bt.pN(he:Bt c d fr lo H e (.str x) H1)(hl:DS c d fr lo H1 lower l H2)(hu:DS c d fr lo H2 upper u H3)
  (hsz:CI x<2^20):Bt c d fr lo H (.Subscript e (.Slice lower upper none p) q) (.str (Ox x l u)) H3:=
 he.slice hl hu λA π s E ca pl pu R G r hpl pM el eu=>r.str.elim λt ht=>ht.symm▸el▸eu▸(by
  refine Ig (J2 _ x t) PySem.F.slot_str_getitem.lookup (wpAny_getItem_str_slice (st:=none) ⟨_,Bp _ rfl,rfl,rfl⟩ rfl ?_) rfl
  have hx:=Uh x (pl.map (·.1)) (pu.map (·.1)) hsz
  exact(jQ x t pl pu).elim (λm=>by rw[m.1,m.2];exact⟨.BS _,.mkStr⟩) λm=>by rw[m];exact⟨hx,.push _,.mkStr⟩)
theorem Bt.pO(he:Bt c d fr lo H e (.tup xs) H1)(hl:DS c d fr lo H1 lower (some i) H2)
  (h1: 1<=i)(hi:i<=xs.length)(hsz:xs.length<100000):Bt c d fr lo H (.Subscript e (.Slice lower none none p) q) (.tup (xs.drop i.toNat)) H2:=
 he.slice hl ⟨rfl,rfl⟩ λA π s E ca pl pu R G r hpl pM el eu=>r.tup.elim λb q=>q.elim λvs q=>q.1.symm▸(by
  induction pl using BK with
  |none=>cases el
  |some z=>
  induction pu using BK with
  |some z=>cases eu
  |none=>
  cases el
  have yE:=Q3 (BA ⋯ h1)
  have ej:CU (some z)=.int (z.1.toNat:Nat) z.2:=by rw[yE];rfl
  have t:Ek (s.heap.push (Dc (CU (some z)) .none)) b vs:=q.2.1.keeps λ_ _ e=>B6 _ e
  refine Ig t.typeIs slot_tuple_getitem.lookup (getItem_tuple_from t (by rw[<-ej];exact WR.new ..) (DM.mp (yE.symm▸h1)) (DM.mp (by rw[yE,q.2.2.2.size];exact hi)) ⟨(Kp.BS _).trans (.BS _),?_⟩ (size_le hsz q.2.2.2.size)) rfl
  exact As.newTuple (G.DU (Kp.BS (Dc (CU (some z)) .none))) ((q.2.2.2.push _).drop _))
end
section
variable{c:Cx}{lo Bv BJ:Lo}
theorem Ns.obj{h:Ay}{m}(hn:h.Ns a m):∃o es k,h.get? a=some o/\o.data=.dict es k:=AH hn λo q=>q.elim λes q=>q.elim λep q=>⟨o,es,ep,q.1,q.2.1⟩
theorem YM(x:Str)(v:AV)(y:Str)(l:Lo):(Sv x v l).lookup y=cond (y==x) (some v) (l.lookup y):=by
 induction l with
 |nil=>show C2 y [(x,v)]=_;rw[Dk];cases y==x<;>rfl
 |cons p r ih=>
  show C2 y (cond (sEq x p.1) ((p.1,v)::r) (p::Sv x v r))=_
  cases e:sEq x p.1 with
  |true=>rw[BC e];show C2 y ((p.1,v)::r)=cond _ _ (C2 y ((p.1,p.2)::r));rw[Dk,Dk];cases y==p.1<;>rfl
  |false=>
   show C2 y ((p.1,p.2)::Sv x v r)=cond _ _ (C2 y ((p.1,p.2)::r))
   rw[Dk,Dk,ih]
   cases e1:y==p.1 with
   |true=>rw[show(y==x)=false from Gx.mpr λq=>by rw[Mt,<-eq_of_beq q,e1] at e;cases e];rfl
   |false=>rfl
def Fz(c:Cx)(d:Nat)(fr:FD)(lo:Lo)(H:List AO)(x:Str)(v:AV)(Bv:Lo)(H':List AO):Prop:=
 ∀(A:AG)(env:Env)(π:Pl)(s:Aj)(E:EP)(cv:Ad),A5 d A->Bu π H.length fr env->Av c π H s->Br c π H.length s.heap env.locals lo->As π H.length s.heap v cv->
  Ae c.m A (Io env x cv) (λ_ s'=>PG c fr.wr (some env.locals) π H s H' π s'/\Br c π H'.length s'.heap env.locals Bv/\H'.length=H.length) E s
theorem PG.chg(K:Kp (λb=>b=a) s s')(hX:L=some a\/π.M a)(hthere:∃o,s'.heap.get? a=some o)(G':Av c π H' s')(hlen:H'.length=H.length)(hold:∀l,l<wr->H'[l]?=H[l]?)
  (hsame:∀b,π.M b->(∀l,wr<=l->l<H.length->π.at' l≠b)->b≠a)(G:Av c π H s):PG c wr L π H s H' π s':=
 ⟨Bo hlen.symm,hold,λ_ _=>rfl,λl h1 h2=>AL h2 (EJ.mpr (hlen.symm▸h1)),λ_ h=>h,λ_ h=>.inl h,K.weaken λb q=>q▸hX,λb o e=>(DI (b=a)).elim (λq=>q▸hthere) λq=>K.there b o q e,
  G',λb o hb hn e=>G.keep K hb (hsame b hb hn) e⟩
theorem pP{x:Str}(hk:fr.scope.names.lookup x=some .local):Fz c d fr lo H x v (Sv x v lo) H:=by
 intro A env π s E cv R F G L r
 refine L.ns.elim λm q=>(Ns.obj q.1).elim λo w=>w.elim λes w=>w.elim λk w=>?_
 refine wpAny_storeName_local (F.kindOf hk) q.1 (λh' SN hs=>?_) (by rw[F.scope,F.kind];rfl)
 have K:Kp (λb=>b=env.locals) s {s with heap:=h',toks:=s.toks+1}:=.one w.1 (.data (Fw w.2)) (λb o' hb e=>(hs.2 b hb).trans e) trivial G.tabs
 have hok:mV π s.heap (λb=>b=env.locals):=λb q=>.inr (.inl (.inl ⟨o,es,k,q▸w⟩))
 have hnf:jw s.heap (λb=>b=env.locals):=λb ob q e=>.data (AQ (w.1.symm.trans (q▸e))▸Fw w.2)
 have S:Ju π H.length s.heap π H.length h':=Kp.Eo (s':={s with heap:=h',toks:=s.toks+1}) K G.tabs hok hnf (AP _) (λ_ _=>rfl) (λ_ h=>.inl h)
 have ne:∀l,l<H.length->π.at' l≠env.locals:=λl hl q=>L.nl (q▸G.mem l hl)
 refine⟨.chg K (.inl rfl) ((Ns.obj SN).imp λ_ q=>q.elim λ_ q=>q.elim λ_ q=>q.1) (G.upd K hok hnf (λb q=>q▸L.new) (λb q hm=>AL (q▸hm) L.nl) rfl λl o' e=>.inl ⟨e,ne l (G.lt e)⟩) rfl (λ_ _=>rfl) (λb hb _ q=>L.nl (q▸hb)) G,⟨⟨_,SN,λy z e=>?_⟩,L.nl,L.new⟩,rfl⟩
 rw[YM] at e
 by_cases p:y=x
 ·rw[p,Ke] at e
  exact⟨cv,by simp[p],AQ e▸r.step S⟩
 ·rw[Si p] at e
  exact(q.2 y z e).imp λcw u=>⟨by simpa[p] using u.1,u.2.step S⟩
theorem CY(G:Av c π H s)(hl:l<H.length)(hw:wr<=l)
  (ho:s.heap.get? (π.at' l)=some ob)(hnf:Jh ob)(Aaf:Jh (f ob))(hfr:(f ob).isFreed=false)(tk:Nat)
  (hor:∀h',Ju π H.length s.heap π H.length h'->h'.get? (π.at' l)=some (f ob)->IT π H.length h' o (π.at' l)):
  PG c wr none π H s (H.set l o) π {s with heap:=s.heap.update (π.at' l) f,toks:=tk}/\Ju π H.length s.heap π H.length (s.heap.update (π.at' l) f):=by
 have Qg:=KC f ho hfr
 have hs:Hb (π.at' l) s.heap (s.heap.update (π.at' l) f):=Mm ..
 have K:Kp (λb=>b=π.at' l) s {s with heap:=s.heap.update (π.at' l) f,toks:=tk}:=.one ho hnf (λb o' hb e=>(hs.2 b hb).trans e) trivial G.tabs
 have S:Ju π H.length s.heap π H.length (s.heap.update (π.at' l) f):=Kp.Eo (s':={s with heap:=s.heap.update (π.at' l) f,toks:=tk}) K G.tabs (λb q=>.inl (q▸G.mem l hl)) (λb ob' q e=>AQ (ho.symm.trans (q▸e))▸hnf) (AP _) (λ_ _=>rfl) (λ_ h=>.inl h)
 have ne:∀{j},j<wr->l≠j:=λhj=>Nat.ne_of_gt (BW hj hw)
 exact⟨.chg K (.inr (G.mem l hl)) ⟨_,Qg⟩ (G.set hl K (hor _ S Qg) ⟨_,Qg,Aaf⟩) F4 (λj hj=>Rb (ne hj)) (λb _ hn q=>hn l hw hl q.symm) G,S⟩
theorem pQ(hk:fr.scope.names.lookup x=some .cell)(hcl:(x==("__class__" :Str))=false)(hl:fr.cells.lookup x=some l)(hH:H[l]?=some (.cell v₀))(hW:fr.wr<=l):
  Fz c d fr lo H x v lo (H.set l (.cell (some v))):=by
 intro A env π s E cv R F G L r
 refine(G.objs l _ hH).elim λpR q=>?_
 have hc:=(F.cells x hcl).trans (Ai (Ab.map π.at') hl)
 delta Io
 rw[F.kindOf hk,F.kd]
 show Ae _ _ (cellOf env x>>=_) _ _ _
 delta cellOf
 rw[hc]
 refine Ac (An ?_)
 refine Ac (Oj q.1 (wpAny_update q.1 ?_))
 have P:=CY (o:=.cell (some v)) (f:=λo=>{o with data:=.cell (some cv)}) G (G.lt hH) hW q.1 (.data nofun) (.data nofun) rfl s.toks (λh' S e=>⟨some cv,e,cv,rfl,r.step S⟩)
 exact⟨P.1.any,L.pg P.1 G,F4⟩
def NOk(c:Cx)(d:Nat)(fr:FD)(lo:Lo)(S:St)(x:Str)(v:AV)(p:Rt Lo):Prop:=Fz c d fr lo S.H x v p.v p.S.H/\p.S.ob=S.ob
theorem Jk:Ok (W6 wr S l o) λS'=>wr<=l/\S'=S.on (S.H.set l o):=.guard λh=>.some ⟨Bn h,rfl⟩
theorem E8:Ok (putN fr lo S x v) (NOk c d fr lo S x v):=by
 refine .guard λhb=>Ok.self.bind λk hk=>?_
 have hd:=Nw (HN hb)
 have hk:=O4 hk
 cases k with
 | «local» =>exact .some ⟨pP hk,rfl⟩
 |cell=>exact Ok.self.bind λl hl=>cellAt.bind λv₀ hH=>Jk.bind λS' q=>.some (q.2▸⟨pQ hk hd.2.1 ((D9 ..).symm.trans hl) hH q.1,rfl⟩)
 |_=>exact .none
theorem Fz.use(h:Fz c d fr lo H x v Bv H')(R:A5 d A)(F:Bu π H.length fr env)(G:Av c π H s)
  (L:Br c π H.length s.heap env.locals lo)(r:As π H.length s.heap v cv)
  (k:∀s₁,PG c fr.wr (some env.locals) π H s H' π s₁->Bu π H'.length fr env->Br c π H'.length s₁.heap env.locals Bv->H'.length=H.length->Q () s₁):Ae c.m A (Io env x cv) Q E s:=
 AJ (h A env π s E cv R F G L r) (λ_ s₁ ⟨P,L',hl⟩=>k s₁ P (P.fr F) L' hl) λ_ _ x=>x
def Nf(c:Cx)(d:Nat)(fr:FD)(lo:Lo)(H:List AO)(m:Env->List (Ad->Sem Ce))(vs:List AV)(Bv:Lo)(H':List AO):Prop:=
 ∀(A:AG)(env:Env)(π:Pl)(s:Aj)(E:EP)(cvs:List Ad),A5 d A->Bu π H.length fr env->Av c π H s->Br c π H.length s.heap env.locals lo->Ag π H.length s.heap vs cvs->
  Ae c.m A (assignInOrder (m env) cvs) (λ_ s'=>PG c fr.wr (some env.locals) π H s H' π s'/\Br c π H'.length s'.heap env.locals Bv/\H'.length=H.length) E s
theorem Nf.nil(hm:∀env,m env=[]):Nf c d fr lo H m [] lo H:=by
 intro A env π s E cvs R F G L r
 rw[hm,r]
 exact An ⟨.refl G,L,rfl⟩
theorem Nf.cons(t:Env->Ad->Sem Ce)(hm:∀env,m env=t env::m' env)
  (ht:∀env cv (A:AG)(s:Aj)(E:EP)(Q:Ce->Aj->Prop),Ae c.m A (Io env x cv) Q E s->Ae c.m A (t env cv) Q E s)
  (h:Fz c d fr lo H x v Bv H')(hr:Nf c d fr Bv H' m' vs BJ EZ):Nf c d fr lo H m (v::vs) BJ EZ:=by
 intro A env π s E cvs R F G L r
 refine AH r λcv r=>r.elim λcvs r=>?_
 rw[hm,r.1]
 refine Ac (BE (ht env cv A s E _ (h.use R F G L r.2.1 λs₁ P₁ F₁ L₁ hl₁=>?_)))
 exact AJ (hr A env π s₁ E cvs R F₁ P₁.g L₁ (r.2.2.pg P₁ G L.dict)) (λ_ s₂ q=>⟨P₁.trans q.1,q.2.1,q.2.2.trans hl₁⟩) λ_ _ x=>x
theorem u3(x:Str):∀env cv (A:AG)(s:Aj)(E:EP)(Q:Ce->Aj->Prop),Ae c.m A (Io env x cv) Q E s->Ae c.m A (bindName env x cv) Q E s:=
 λenv cv A s E Q h=>WD h
theorem nI(x:Str)(p:Pos):∀env cv (A:AG)(s:Aj)(E:EP)(Q:Ce->Aj->Prop),Ae c.m A (Io env x cv) Q E s->Ae c.m A (assign (.Name x p) env cv) Q E s:=
 λenv cv A s E Q h=>by rw[arm_assign_Name];exact Ac (DN (WD h))
theorem eG:∀{vs:List AV}{lo:Lo}{S:St},Ok (T6 fr lo S xs vs) λp=>Nf c d fr lo S.H (λenv=>xs.map λn=>bindName env n) vs p.v p.S.H/\p.S.ob=S.ob:=by
 induction xs with
 |nil=>exact .guard λh=>.some (Bj h▸⟨Nf.nil λ_=>rfl,rfl⟩)
 |cons x xs ih=>
  intro vs lo S
  induction vs using B9 with
  |nil=>exact .none
  |cons v vs=>exact E8.bind λp i=>ih.mono λq j=>⟨Nf.cons (λenv=>bindName env x) (λ_=>rfl) (u3 x) i.1 j.1,j.2.trans i.2⟩
theorem O6:Ok (Qt e) λx=>e=.Name x.1 x.2:=by rcases e with ⟨⟩<;>first | exact .none | exact .some rfl
theorem eH:∀{vs:List AV}{lo:Lo}{S:St},Ok (KH fr lo S ts vs) λp=>
  Nf c d fr lo S.H (λenv=>(RS ts env).map (·.2)) vs p.v p.S.H/\p.S.ob=S.ob/\ts.length=vs.length/\∀env,(RS ts env).length=ts.length/\(RS ts env).findIdx? (·.1)=none:=by
 induction ts with
 |nil=>exact .guard λh=>.some (Bj h▸⟨Nf.nil λ_=>rfl,rfl,rfl,λenv=>⟨rfl,rfl⟩⟩)
 |cons t ts ih=>
  intro vs lo S
  induction vs using B9 with
  |nil=>exact .none
  |cons v vs=>
   exact O6.bind λx e=>E8.bind λp i=>ih.mono λq j=>by
           subst e
           refine⟨Nf.cons (λenv=>assign (.Name x.1 x.2) env) (λenv=>rfl) (nI x.1 x.2) i.1 j.1,j.2.1.trans i.2,Ai Gb j.2.2.1,λenv=>⟨Ai Gb (j.2.2.2 env).1,?_⟩⟩
           show List.findIdx? _ ((false,assign (.Name x.1 x.2) env)::RS ts env)=none
           rw[List.findIdx?_cons,(j.2.2.2 env).2] at ⊢;rfl
theorem Fb.Ng{st:Az}(h:Fb c d fr lo H st fl Bv H1)(R:A5 d A)(F:Bu π H.length fr env)(G:Av c π H s)
  (L:Br c π H.length s.heap env.locals lo)
  (k:∀cf s₁ π₁,PG c fr.wr (some env.locals) π H s H1 π₁ s₁->Bu π₁ H1.length fr env->Br c π₁ H1.length s₁.heap env.locals Bv->ak π₁ H1.length s₁.heap fl cf->Q cf s₁):
  Ae c.m A (exec st env) Q E s:=
 AJ (h A env π s E R F G L) (λcf s₁ ⟨π₁,P,L',r⟩=>k cf s₁ π₁ P (P.fr F) L' r) λ_ _ x=>x
theorem Km.Ng{st:List Az}(h:Km c d fr lo H st fl Bv H1)(R:A5 d A)(F:Bu π H.length fr env)(G:Av c π H s)
  (L:Br c π H.length s.heap env.locals lo)
  (k:∀cf s₁ π₁,PG c fr.wr (some env.locals) π H s H1 π₁ s₁->Bu π₁ H1.length fr env->Br c π₁ H1.length s₁.heap env.locals Bv->ak π₁ H1.length s₁.heap fl cf->Q cf s₁):
  Ae c.m A (execs st env) Q E s:=
 AJ (h A env π s E R F G L) (λcf s₁ ⟨π₁,P,L',r⟩=>k cf s₁ π₁ P (P.fr F) L' r) λ_ _ x=>x
theorem Km.nil:Km c d fr lo H [] .next lo H:=λA env π s E R F G L=>WC ⟨π,.refl G,L,rfl⟩
theorem Km.cons{st:Az}(h:Fb c d fr lo H st .next Bv H1)(hr:Km c d fr Bv H1 rest fl BJ H2):Km c d fr lo H (st::rest) fl BJ H2:=by
 intro A env π s E R F G L
 refine wpAny_execs_cons (h.Ng R F G L λcf s₁ π₁ P₁ F₁ L₁ r₁=>?_)
 subst r₁
 exact hr.Ng R F₁ P₁.g L₁ λcf s₂ π₂ P₂ F₂ L₂ r₂=>⟨π₂,P₁.trans P₂,L₂,r₂⟩
theorem Km.stop{st:Az}(hfl:fl.C8=false)(h:Fb c d fr lo H st fl Bv H1):Km c d fr lo H (st::rest) fl Bv H1:=by
 intro A env π s E R F G L
 refine wpAny_execs_cons (h.Ng R F G L λcf s₁ π₁ P₁ F₁ L₁ r₁=>?_)
 cases fl with
 |next=>cases hfl
 |brk=>subst r₁;exact⟨π₁,P₁,L₁,rfl⟩
 |cont=>subst r₁;exact⟨π₁,P₁,L₁,rfl⟩
 |ret v=>exact AH r₁ λcv q=>q.1▸⟨π₁,P₁,L₁,cv,rfl,q.2⟩
theorem QC{a:AF}(h:a.C8=true):a=.next:=by rcases a with ⟨⟩<;>first | rfl | rcases h with ⟨⟩
theorem MR(Sd:Bl c d r){st:List Az}:∀{lo:Lo}{S:St},Ok (Xs r fr lo S st) (zR c d fr lo S st):=by
 induction st with
 |nil=>exact .some (.mk .nil)
 |cons st rest ih=>exact λ{lo S}=>(Sd.X fr lo S st).bind λx i=>.cond (λh=>ih.mono λy j=>AX.bind i j λi j=>.cons (QC h▸i) j) λh=>.some (AX.imp i (.stop h))
theorem Mv(Sd:Bl c d r):∀{S:St},Ok (Ji r fr lo S es) λx=>uN c d fr lo S es x/\x.v.length=es.length:=by
 induction es with
 |nil=>exact .some ⟨.mk .nil,rfl⟩
 |cons e es ih=>exact λ{S}=>(Sd.E fr lo S e).bind λx i=>ih.bind λy j=>.some ⟨AX.bind i j.1 .cons,Ai Gb j.2⟩
theorem Fb.ite{t:Expr}{a b:List Az}(ht:Jw c d fr lo H t z H1)(ha:Km c d fr lo H1 (cond z a b) fl Bv H2):Fb c d fr lo H (.If t a b p) fl Bv H2:=by
 intro A env π s E R F G L
 refine wpAny_If (ht.use R F G L λs₁ π₁ P₁ F₁ L₁=>?_)
 rcases z with ⟨⟩<;>exact ha.Ng R F₁ P₁.g L₁ λcf s₂ π₂ P₂ F₂ L₂ r₂=>⟨π₂,P₁.any.trans P₂,L₂,r₂⟩
theorem Fb.ret(he:Bt c d fr lo H e v H1):Fb c d fr lo H (.Return (some e) p) (.ret v) lo H1:=by
 intro A env π s E R F G L
 exact wpAny_Return_some (he.use R F G L λcv s₁ π₁ P₁ F₁ L₁ r₁=>⟨π₁,P₁.any,L₁,cv,rfl,r₁⟩)
theorem Fb.Aag:Fb c d fr lo H (.Return none p) (.ret .none) lo H:=λA env π s E R F G L=>wpAny_Return_none ⟨π,.refl G,L,.none,rfl,.FV⟩
theorem Fb.brk:Fb c d fr lo H (.Break p) .brk lo H:=by
 intro A env π s E R F G L;rw[arm_exec_Break];exact Ac (DN (An ⟨π,.refl G,L,rfl⟩))
theorem Fb.cont:Fb c d fr lo H (.Continue p) .cont lo H:=by
 intro A env π s E R F G L;rw[arm_exec_Continue];exact Ac (DN (An ⟨π,.refl G,L,rfl⟩))
theorem Fb.pass:Fb c d fr lo H (.Pass p) .next lo H:=λA env π s E R F G L=>wpAny_Pass ⟨π,.refl G,L,rfl⟩
end
section
variable{lo Bv BJ:Lo}{H H' EZ H1 H2 H3:List AO}
theorem Kp.Nx(he:Hc s.heap.objs.size s.heap h'):Kp no s {s with heap:=h'}:=
 .of_keeps λb o e=>he b o (EI (Ex e)) e
def jR(c:Cx)(d:Nat)(H:List AO)(v:AV)(vs:List AV):Prop:=∀(A:AG)(π:Pl)(s:Aj)(E:EP)(cv:Ad),A5 d A->Av c π H s->As π H.length s.heap v cv->∀Q:List Ad->Aj->Prop,
 (∀cvs s₁,Kp no s s₁->Ag π H.length s₁.heap vs cvs->Q cvs s₁)->Ae c.m A (unpackItems cv vs.length none) Q E s
theorem jR.tup:jR c d H (.tup vs) vs:=λA π s E cv R G r Q k=>r.tup.elim λb q=>q.elim λws q=>by
 rw[q.1,<-q.2.2.2.size]
 exact unpackItems_tuple R.handled q.2.1 λh' he=>k _ _ (Kp.Nx he) (q.2.2.2.DU (Kp.Nx he) G.tabs)
theorem jR.lst(p:Jx c H v vs):jR c d H v vs:=λA π s E cv R G r Q k=>(p π s G cv r).elim λb q=>q.elim λws q=>by
 rw[q.1,<-q.2.2.size]
 exact kun_itemsOf R.handled q.2.1 λh' he=>k _ _ (Kp.Nx he) (q.2.2.DU (Kp.Nx he) G.tabs)
theorem eI:Ok (mW H v) (jR c d H v):=by
 induction v using AV.casesOn with
 |tup xs=>exact .some .tup
 |lst xs=>exact(Bs (a:=.lst xs)).mono λ_ p=>.lst p
 |loc l=>exact(Bs (a:=.loc l)).mono λ_ p=>.lst p
 |_=>exact .none
def i9(c:Cx)(d:Nat)(fr:FD)(lo:Lo)(H:List AO)(t:Expr)(v:AV)(Bv:Lo)(H':List AO):Prop:=
 ∀(A:AG)(env:Env)(π:Pl)(s:Aj)(E:EP)(cv:Ad),A5 d A->Bu π H.length fr env->Av c π H s->Br c π H.length s.heap env.locals lo->As π H.length s.heap v cv->
  Ae c.m A (assign t env cv) (λ_ s'=>PG c fr.wr (some env.locals) π H s H' π s'/\Br c π H'.length s'.heap env.locals Bv/\H'.length=H.length) E s
theorem i9.name(h:Fz c d fr lo H x v Bv H'):i9 c d fr lo H (.Name x p) v Bv H':=λA env π s E cv R F G L r=>nI x p env cv A s E _ (h A env π s E cv R F G L r)
theorem i9.tuple(hv:jR c d S.H v vs):Ok (KH fr lo S ts vs) λq=>i9 c d fr lo S.H (.Tuple ts k p) v q.v q.S.H/\q.S.ob=S.ob:=eH.mono λq h=>⟨by
 intro A env π s E cv R F G L r
 rw[arm_assign_Tuple]
 refine Ac (DN ?_)
 unfold unpack
 rw[(h.2.2.2 env).1,(h.2.2.2 env).2,h.2.2.1]
 refine Ac (BE (hv A π s E cv R G r _ λcvs s₁ K rs=>?_))
 exact AJ (h.1 A env π s₁ E cvs R F (G.DU K) (L.DU G K) rs) (λ_ s₂ q=>⟨(PG.pure G K).trans q.1,q.2⟩) λ_ _ x=>x,h.2.1⟩
theorem Ny:Ok (Jv fr lo S t v) λq=>i9 c d fr lo S.H t v q.v q.S.H/\q.S.ob=S.ob:=by
 induction t using Hg with
 |Name x p=>exact E8.mono λq h=>⟨.name h.1,h.2⟩
 |Tuple ts k p=>exact eI.bind λvs hv=>i9.tuple hv
 |_=>exact .none
theorem KS(h:Hh e=true)(t:Ab Expr)(n:Nat)(env:Env):RU e t n env=pure false:=by
 rcases e with ⟨⟩<;>first | rfl | exact ff h
theorem Fb.expr(he:Bt c d fr lo H e v H1)(hn:Hh e=true):Fb c d fr lo H (.Expr e p) .next lo H1:=by
 intro A env π s E R F G L
 refine wpAny_Expr_any (he.use R F G L λcv s₁ π₁ P₁ F₁ L₁ r₁=>⟨π₁,P₁.any,L₁,rfl⟩) ?_ (KS hn _ _ _)
 unfold interactive
 rw[F.scope,F.kind];rfl
theorem Fb.jS(he:Bt c d fr lo H e v H1)(hn:Hh e=true)(h:Fz c d fr lo H1 x v Bv H2):Fb c d fr lo H (.Assign [.Name x xp] e p) .next Bv H2:=by
 intro A env π s E R F G L
 refine wpAny_Assign_Name (he.use R F G L λcv s₁ π₁ P₁ F₁ L₁ r₁=>?_) (KS hn _ _ _)
 exact h.use R F₁ P₁.g L₁ r₁ λs₂ P₂ F₂ L₂ hl=>⟨π₁,P₁.any.trans P₂,L₂,rfl⟩
theorem O7(e:Expr)(ts:List Expr)(k:Nat)(p:Pos)(n:Nat)(env:Env):swapsWithSole [.Tuple ts k p] e n env=pure false:=by rcases e with ⟨⟩<;>rfl
theorem SO(he:aa e=none):L4 [.Tuple ts k p] e env=pure none:=by
 rcases e with ⟨⟩<;>first | rfl | rcases he with ⟨⟩
theorem Fb.eJ(he:Bt c d fr lo H e v H1)(hn:aa e=none)(h:i9 c d fr lo H1 (.Tuple ts k tp) v Bv H2):Fb c d fr lo H (.Assign [.Tuple ts k tp] e p) .next Bv H2:=by
 intro A env π s E R F G L
 refine wpAny_Assign_stores (he.use R F G L λcv s₁ π₁ P₁ F₁ L₁ r₁=>?_) (O7 ..) (SO hn)
 exact AJ (h A env π₁ s₁ E cv R F₁ P₁.g L₁ r₁) (λ_ s₂ q=>⟨π₁,P₁.any.trans q.1,q.2.1,rfl⟩) λ_ _ x=>x
theorem Fb.aug(hk:fr.scope.names.lookup x=some .local)(hx:lo.lookup x=some (.int a))(he:Bt c d fr lo H e (.int b) H1)(h:Fz c d fr lo H1 x (.int (a+b)) Bv H2):
  Fb c d fr lo H (.AugAssign (.Name x xp) .Add e p) .next Bv H2:=λA env π s E R F G L=>(O5 L hx).elim λm q=>q.elim λcv q=>q.2.2.int.elim λt ht=>by
 refine wpAny_AugAssign_Name (Wv F.kd (F.kindOf hk) q.1 q.2.1 ?_)
 rw[ht]
 refine he.use R F G L λcv s₁ π₁ P₁ F₁ L₁ r₁=>r₁.int.elim λu hu=>hu▸?_
 exact PySem.P.iadd_int (h.use R F₁ (P₁.g.DU .toks) (L₁.DU P₁.g .toks) .mkInt λs₂ P₂ F₂ L₂ hl=>⟨π₁,(P₁.any.DU .toks).trans P₂,L₂,rfl⟩)
set_option backward.match.sparseCases true in
theorem eK(F:Bu π n fr env)(line:Nat)(ts:List Expr):(ts.filterMap fun
  |.Name id pos=>if env.kindOf id==some .local&&pos.line==line then some id else none
  |_=>none)=OW fr line ts:=by
 have e:∀x,env.kindOf x=CX fr x:=λx=>by unfold Sg CX;rw[F.scope,D9]
 congr 1
 funext t
 induction t using Hg with
 |Name x p=>show(if (env.kindOf x==some .local&&p.line==line)=true then some x else none)=_;rw[e];rfl
 |_=>rfl
set_option backward.match.sparseCases true in
theorem Xf(h:noStar n vs=true):¬ (vs.any fun | .Starred .. =>true | _=>false)=true:=by
 replace h:(vs.all λe => !T4 22 e)=true:=Am h
 induction vs with
 |nil=>exact BI
 |cons e es ih=>
  have h:=h
  have h1:=HN (Ax h)
  have h2:=ih (Am h)
  rw[Wc]
  rcases e with ⟨⟩<;>first | exact h2 | exact ff (h1.symm▸rfl)
theorem eL(hs:noStar 200 vs=true):
  Ok (YF fr ts vs) λo=>∀{π:Pl}{n:Nat}{env:Env},Bu π n fr env->L4 [.Tuple ts k p] (.Tuple vs k' p') env=pure o:=by
 have main:∀{π:Pl}{n:Nat}{env:Env},Bu π n fr env->L4 [.Tuple ts k p] (.Tuple vs k' p') env=
   if (!(ts.length==2||ts.length==3)||vs.length !=ts.length)=true then pure none else if ((OW fr ((ts.head?.map (·.pos.line)).getD 0) ts).length !=ts.length||(OW fr ((ts.head?.map (·.pos.line)).getD 0) ts).eraseDups.length !=(OW fr ((ts.head?.map (·.pos.line)).getD 0) ts).length)=true then pure none
   else if vs.all (foldedForSure 8)=true then pure none else if vs.all (constantsAlone 8)=true then (RP "assign.tuple-of-constant-expressions:order-of-the-stores" >>=λ_=>pure (some (OW fr ((ts.head?.map (·.pos.line)).getD 0) ts))) else pure (some (OW fr ((ts.head?.map (·.pos.line)).getD 0) ts)):=λ{π n env} F=>by
  have hb:env.blockKind=.function:=by simp only[Env.blockKind,F.scope,F.kind,RW.isAnnotationScope];rfl
  rw[<-eK F]
  unfold L4
  simp -iota only[pure_bind,hb,bne_self_eq_false,VV]
  refine ite_congr rfl (λ_=>rfl) λ_=>(AD (Xf hs)).trans ?_
  rfl
 refine .cond (λh=>.some λF=>(main F).trans (Bh h)) λh1=>.cond (λh=>.some λF=>(main F).trans ((AD (h1▸BI)).trans (Bh h))) λh2=>.cond (λh=>.some λF=>(main F).trans ((AD (h1▸BI)).trans ((AD (h2▸BI)).trans (Bh h)))) λh3=>.guard λh4=>.some λF=>
  (main F).trans ((AD (h1▸BI)).trans ((AD (h2▸BI)).trans ((AD (h3▸BI)).trans (AD (HN h4▸BI)))))
theorem Ag.rev{π n h}(r:Ag π n h xs ys):Ag π n h xs.reverse ys.reverse:=
 r.Na (P:=λxs ys=>Ag π n h xs.reverse ys.reverse) .nil λx xs y ys a _ b=>by rw[List.reverse_cons,List.reverse_cons];exact b.append (.cons a .nil)
theorem Fb.YN{k k':Nat}{tp ep p:Pos}(hsw:∀{π:Pl}{n:Nat}{env:Env},Bu π n fr env->L4 [.Tuple ts k tp] (.Tuple es k' ep) env=pure o)(he:Bt c d fr lo H (.Tuple es k' ep) (.tup vs) H1)
  (h:match o with
   |none=>i9 c d fr lo H1 (.Tuple ts k tp) (.tup vs) Bv H2
   |some xs=>xs.length=vs.length/\Nf c d fr lo H1 (λenv=>xs.reverse.map λn=>bindName env n) vs.reverse Bv H2):
  Fb c d fr lo H (.Assign [.Tuple ts k tp] (.Tuple es k' ep) p) .next Bv H2:=by
 intro A env π s E R F G L
 rw[exec_Assign_arm]
 refine Ac (DN ?_)
 rw[O7]
 refine Ac (An ?_)
 rw[AD ⋯]
 refine Ac (he.use R F G L λcv s₁ π₁ P₁ F₁ L₁ r₁=>?_)
 rw[hsw F]
 refine Ac (An ?_)
 induction o using BK with
 |none=>
  exact Ac (AJ (h A env π₁ s₁ E cv R F₁ P₁.g L₁ r₁) (λ_ s₂ q=>An ⟨π₁,P₁.any.trans q.1,q.2.1,rfl⟩) λ_ _ x=>x)
 |some xs=>
  refine Ac (Gd (Ac ?_))
  rw[h.1]
  exact jR.tup A π₁ s₁ E cv R P₁.g r₁ _ λcvs s₂ K rs=>Ac (AJ (h.2 A env π₁ s₂ E _ R F₁ (P₁.g.DU K) (L₁.DU P₁.g K) rs.rev) (λ_ s₃ q=>An ⟨π₁,(P₁.any.DU K).trans q.1,q.2.1,rfl⟩) λ_ _ x=>x)
end
section
variable{H H' EZ H1 H2 H3:List AO}
theorem Cx.QD(c:Cx)(G:Av c π H s):s.heap.NoLimit:=AH c.nolimit λmc q=>⟨mc,Ns.up G q.1,q.2⟩
theorem Cx.DA(c:Cx)(G:Av c π H s):c.K.In s.heap:=λa o e=>G.base.keep a o id (c.knt a o e) (c.yI a o e)
theorem Cx.codeS(c:Cx)(G:Av c π H s)(h:BZ c.B.heap cd q):BZ s.heap cd q:=G.base.Yw c.tabs .no h
def By(π:Pl)(n:Nat)(cs:List (Str×Ah))(cn:List (Str×Nat)):Prop:=
 (∀x,(x==("__class__" :Str))=false->cs.lookup x=(cn.lookup x).map π.at')/\∀x l,cn.lookup x=some l->l<n
theorem PG.add(G:Av c π H s)(hw:wr<=H.length)(K:Kp no s s')(ha:s.heap.get? a=none)(ho:IT (ext π H.length a) (H.length+1) s'.heap o a)(hex:∃o,s'.heap.get? a=some o/\Jh o):
  PG c wr none π H s (H++[o]) (ext π H.length a) s':=
 ⟨by rw[BO];exact BF _ _,λl hl=>Ra (BW hl hw),λl hl=>Ep hl,λl h1 h2=>by
  rw[BO] at h2
  rw[Rp (Wj h2) h1,D8];exact ha,λb h=>.inl h,λb h=>eh ha b h,K.weaken λ_ x=>x.elim,λb o e=>K.there b o id e,G.add K ha ho hex,λb o hb _ e=>G.keep K hb id e⟩
theorem By.cons{Cc:List (Str×Nat)}(hok:By π H.length acc Cc):By (ext π H.length a) (H++[o]).length ((x,a)::acc) ((x,H.length)::Cc):=by
 rw[BO]
 refine⟨λy hy=>?_,λy l hl=>?_⟩
 ·rw[Dk,Dk]
  induction y==x using Ei with
  |true=>exact Ai some D8.symm
  |false=>
   refine(hok.1 y hy).trans ?_
   cases q:Cc.lookup y with
   |none=>rfl
   |some l=>exact Ai some (Ep (hok.2 y l q)).symm
 ·rw[Dk] at hl
  cases e:y==x with
  |true=>rw[e] at hl;exact AQ hl▸CF _
  |false=>rw[e] at hl;exact N5 (hok.2 y l hl)
theorem Ui(f:Str×BX->List (Str×Ah)->Sem (En (List (Str×Ah))))
  (hf:∀name kind cells,f (name,kind) cells=if kind==.cell then (do let a <-alloc {cls:=.type "cell",data:=.cell none};pure (.yield ((name,a)::cells))) else pure (.yield cells))(names:List (Str×BX)):
  ∀(acc:List (Str×Ah))(Cc:List (Str×Nat))(H:List AO)(π:Pl)(s:Aj)(Q:List (Str×Ah)->Aj->Prop),KL names=true->Av c π H s->By π H.length acc Cc->
   (∀cells s' π',PG c wr none π H s (H++AK names) π' s'->By π' (H++AK names).length cells (IJ H.length names Cc)->cells.lookup ("__class__" :Str)=acc.lookup ("__class__" :Str)->Q cells s')->
   wr<=H.length->Ae c.m A (forIn names acc f) Q E s:=by
 induction names with
 |nil=>
  intro acc Cc H π s Q _ G hok k hw
  rw[show H++AK []=H from DX H] at k
  rw[LL]
  exact An (k acc s π (.refl G) hok rfl)
 |cons p r ih=>
  intro acc Cc H π s Q hnc G hok k hw
  have hnc:=hnc
  have step:∀{b:Aa},EY p.2=b->(p.2==BX.cell)=b:=λe=>e▸by cases p.2<;>rfl
  rw[FO,hf]
  revert k
  show(∀cells s' π',PG c wr none π H s (H++cond (EY p.2) (.cell none::AK r) (AK r)) π' s'->By π' (H++cond (EY p.2) (.cell none::AK r) (AK r)).length cells (cond (EY p.2) (IJ (H.length+1) r ((p.1,H.length)::Cc)) (IJ H.length r Cc))->_->_)->_
  intro k
  cases hk:EY p.2 with
  |true=>
   rw[hk] at k
   rw[step hk,Bh rfl]
   refine Ac (Ac (wpAny_alloc (An ?_)))
   have P:=PG.add (o:=.cell none) G hw (Kp.BS {cls:=.type "cell",data:=.cell none}) (Bx _ (AP _)) ⟨none,Bp _ rfl,rfl⟩ ⟨_,Bp _ rfl,.data (λ_ q=>nomatch q)⟩
   have el:(H++[AO.cell none]).length=H.length+1:=BO
   refine ih ((p.1,s.heap.objs.size)::acc) ((p.1,H.length)::Cc) (H++[.cell none]) _ _ Q (Am hnc) P.g hok.cons (λcells s' π' P' hc hcl=>?_) (el▸JU hw)
   have e:H++.cell none::AK r=(H++[.cell none])++AK r:=by rw[FL];rfl
   refine k cells s' π' (by show PG _ _ _ _ _ _ (H++.cell none::AK r) _ _;rw[e];exact P.trans P') (by show By _ (H++.cell none::AK r).length _ (IJ (H.length+1) r _);rw[e];exact el▸hc) (hcl.trans ?_)
   rw[Dk,show(("__class__" :Str)==p.1)=false from Gx.mpr λq=>?_] at ⊢
   have h1:=HN (Ax hnc)
   rw[hk,<-eq_of_beq q,KQ] at h1
   cases h1
  |false=>
   rw[hk] at k
   rw[step hk,AD BI]
   exact Ac (An (ih acc Cc H π s Q (Am hnc) G hok k hw))
def yN(c:Cx)(fr:FD)(lo:Lo)(S:St)(bs:Lo)(p:Rt Lo):Prop:=p.S.ob=S.ob/\
 ∀(d:Nat)(A:AG)(E:EP)(f:Str×Ad->EX->Sem (En EX))(env:Env),(∀n v u,f (n,v) u=(do Io env n v;pure (.yield ⟨⟩)))->A5 d A->∀(cbs:List (Str×Ad))(π:Pl)(s:Aj)(Q:EX->Aj->Prop),Bu π S.H.length fr env->Av c π S.H s->Br c π S.H.length s.heap env.locals lo->cbs.map (·.1)=bs.map (·.1)->Ag π S.H.length s.heap (bs.map (·.2)) (cbs.map (·.2))->
   (∀s',PG c fr.wr (some env.locals) π S.H s p.S.H π s'->Bu π p.S.H.length fr env->Br c π p.S.H.length s'.heap env.locals p.v->Q ⟨⟩ s')->Ae c.m A (forIn cbs ⟨⟩ f) Q E s
theorem YO:∀{lo:Lo}{S:St},Ok (IK fr lo S bs) (yN c fr lo S bs):=by
 induction bs with
 |nil=>
  exact .some ⟨rfl,λd A E f env hf R cbs π s Q F G L hn hv k=>by
   induction cbs using B9 with
   |nil=>rw[LL];exact An (k s (.refl G) F L)
   |cons _ _=>cases hn⟩
 |cons b bs ih=>
  refine Ok.bind (Ok.self) λp hp=>ih.mono λq j=>⟨j.1.trans (E8 (c:=c) (d:=0) p hp).2,λd A E f env hf R cbs π s Q F G L hn hv k=>?_⟩
  induction cbs using B9 with
  |nil=>cases hn
  |cons cb cbs=>
   have hn:=Gk hn
   have hv:=Ag.inv hv
   rw[FO,hf]
   refine Ac (Ac ((show cb.1=b.1 from hn.1)▸(E8 p hp).1.use R F G L hv.1 λs₁ P₁ F₁ L₁ hl₁=>An ?_))
   exact j.2 d A E f env hf R cbs π s₁ Q F₁ P₁.g L₁ hn.2 (hv.2.pg P₁ G L.dict) λs₂ P₂ F₂ L₂=>k s₂ (P₁.trans P₂) F₂ L₂
theorem PG.Uj(P:PG c wr none π H s H' π' s')(hL:s.heap.get? L=none)(Q:PG c wr (some L) π' H' s' EZ yJ HM):PG c wr none π H s EZ yJ HM:=
 have K:=(P.any).trans Q
 have ne:∀{b o},¬ Xw π none b->s.heap.get? b=some o->¬ Xw π (some L) b:=λhb e x=>x.elim (λq=>nomatch hL.symm.trans ((Ai s.heap.get? (AQ q)).trans e)) λm=>hb (.inr m)
 {K with kp:=⟨λb o hb ht e=>K.kp.keep b o (ne hb e) ht e,λb o hb e=>K.kp.there b o (ne hb e) e,K.kp.tabs,K.kp.tok,K.kp.os,K.kp.gens⟩}
section
theorem OJ.back(ha:∀l,l<n->π'.at' l=π.at' l)(hc:∀x l,k.cells.lookup x=some l->l<n)(t:OJ π' n' h a k):OJ π n h a k:=
 t.imp λo t=>t.imp λfd t=>⟨t.1,t.2.1,t.2.2.1,t.2.2.2.1,t.2.2.2.2.1,λx=>(t.2.2.2.2.2.1 x).trans <| by
  cases q:k.cells.lookup x with
  |none=>rfl
  |some l=>exact Ai some (ha l (hc x l q)),hc⟩
theorem As.YP(ha:∀l,l<n->π'.at' l=π.at' l)(hm:∀b,π.M b->π'.M b):(∀v pR cv,As π n h₀ v pR->As π' n' h v cv->As π n h v cv)/\∀xs u4 vs,Ag π n h₀ xs u4->Ag π' n' h xs vs->Ag π n h xs vs:=by
 have L:=λv=>AV.rec (motive_1:=λv=>∀pR cv,As π n h₀ v pR->As π' n' h v cv->As π n h v cv) (motive_2:=λxs=>∀u4 vs,Ag π n h₀ xs u4->Ag π' n' h xs vs->Ag π n h xs vs)
  (λ_ _ _ _ r=>r) (λ_ _ _ _ r=>r) (λ_ _ _ _ r=>r) (λ_ _ _ _ r=>r)
  (λxs ih pR cv q r=>AH q λ_ q=>q.elim λ_ q=>AH r λa r=>r.elim λvs r=>⟨a,vs,r.1,r.2.1,λz=>r.2.2.1 (hm _ z),ih _ _ q.2.2.2 r.2.2.2⟩)
  (λxs ih pR cv q r=>AH q λ_ q=>q.elim λ_ q=>AH r λa r=>r.elim λvs r=>⟨a,vs,r.1,r.2.1,λz=>r.2.2.1 (hm _ z),ih _ _ q.2.2.2 r.2.2.2⟩)
  (λl pR cv q r=>⟨Fo q,(And.right r).trans (Ai Bq (ha l (Fo q)))⟩)
  (λ_ _ _ _ cv _ r=>AH r λa r=>⟨a,r.1,r.2.1,λz=>r.2.2 (hm _ z)⟩)
  (λk _ cv q r=>AH q λ_ q=>q.2.1.elim λ_ q=>q.elim λ_ q=>AH r λa r=>⟨a,r.1,r.2.1.back ha q.2.2.2.2.2.2,λz=>r.2.2 (hm _ z)⟩)
  (λ_ _ _ r=>r) (λ_ _ i j u4 vs q r=>AH q λ_ q=>q.elim λ_ q=>AH r λv r=>r.elim λws r=>⟨v,ws,r.1,i _ _ q.2.1 r.2.1,j _ _ q.2.2 r.2.2⟩) v
 refine⟨L,λxs=>?_⟩
 induction xs with
 |nil=>exact λ_ _ _ r=>r
 |cons x xs ih=>exact λu4 vs q r=>AH q λ_ q=>q.elim λ_ q=>AH r λv r=>r.elim λws r=>⟨v,ws,r.1,L _ _ _ q.2.1 r.2.1,ih _ _ q.2.2 r.2.2⟩
theorem IT.back(ha:∀l,l<n->π'.at' l=π.at' l)(hm:∀b,π.M b->π'.M b)(q:IT π n h₀ o a)(r:IT π' n' h o a):IT π n h o a:=by
 induction o using AO.casesOn with
 |list xs=>exact AH q λ_ q=>q.elim λ_ q=>r.imp λvs r=>r.imp λk r=>⟨r.1,(As.YP ha hm).2 _ _ _ q.2 r.2⟩
 |cell v=>induction v using BK with
  |none=>exact r
  |some v=>exact AH q λ_ q=>q.2.elim λ_ q=>r.imp λcv r=>⟨r.1,r.2.imp λw r=>⟨r.1,(As.YP ha hm).1 _ _ _ q.2 r.2⟩⟩
 |dict es=>
  refine AH q λ_ q=>q.elim λ_ q=>r.imp λm r=>r.imp λo r=>⟨r.1,r.2.1,r.2.2.1,λx=>?_⟩
  have q:=q.2.2.2 x
  have r:=r.2.2.2 x
  revert q r
  induction es.lookup x using BK with
  |none=>exact λ_ r=>r
  |some v=>exact λq r=>AH q λ_ q=>r.imp λw r=>⟨r.1,(As.YP ha hm).1 _ _ _ q.2 r.2⟩
 |acc d xs=>exact AH q λ_ q=>q.elim λ_ q=>q.elim λ_ q=>r.imp λvs r=>r.imp λk r=>r.imp λsl r=>⟨ha d q.2.1▸r.1,q.2.1,(As.YP ha hm).2 _ _ _ q.2.2 r.2.2⟩
 |inst C d=>exact AH q λ_ q=>r.imp λsl r=>⟨ha d q.2▸r.1,q.2⟩
 |OI=>exact r
 |raw k=>exact r
end
structure LG(π₂:Pl)(n:Nat)(H₂:List AO)(π:Pl)(H:List AO):Prop where
 le:n<=H.length
 old:∀l,l<n->H[l]?=H₂[l]?
 agree:∀l,l<n->π.at' l=π₂.at' l
 mono:∀b,π₂.M b->π.M b
 fresh:∀l,n<=l->l<H.length->¬ π₂.M (π.at' l)
theorem LG.refl:LG π H.length H π H:=⟨AP _,λ_ _=>rfl,λ_ _=>rfl,λ_ h=>h,λl h1 h2=>AL h2 (EJ.mpr h1)⟩
theorem LG.pg(D:LG π₂ n H₂ π H)(G:Av c π H s)(P:PG c wr L π H s H' π' s')(hn:n<=wr):LG π₂ n H₂ π' H' where
 le:=AA D.le P.le
 old:=λl h=>(P.old l (BW h hn)).trans (D.old l h)
 agree:=λl h=>(P.agree l (BW h D.le)).trans (D.agree l h)
 mono:=λb h=>P.mono b (D.mono b h)
 fresh:=λl h1 h2 q=>(Rq l H.length).elim (λhl=>D.fresh l h1 hl (P.agree l hl▸q)) λhl=>(G.ex _ (D.mono _ q)).elim λ_ z=>nomatch (P.ei l hl h2).symm.trans z.1
theorem Av.back(G:Av c π H s)(G':Av c π' H' s')(D:LG π H.length H π' H'):Av c π H s':=
 ⟨G'.base,λl o e=>IT.back D.agree D.mono (G.objs l o e) (D.agree l (G.lt e)▸G'.objs l o ((D.old l (G.lt e)).trans e)),G.inj,G.mem,G.new,λb hb=>G'.ex b (D.mono b hb)⟩
theorem PG.forget(G:Av c π H s)(P:PG c H.length none π H s H' π' s'):PG c wr none π H s H π s':=
 ⟨AP _,λ_ _=>rfl,λ_ _=>rfl,λl h1 h2=>AL h2 (EJ.mpr h1),λ_ h=>h,λ_ h=>.inl h,P.kp,P.there,G.back P.g (LG.refl.pg G P (AP _)),λb o hb _=>P.same b o hb λl h1 h2=>AL h2 (EJ.mpr h1)⟩
def FzP(c:Cx)(n:Nat)(H':List AO)(v v':AV):Prop:=∀(π π':Pl)(H₂:List AO)(s':Aj),LG π n H₂ π' H'->Av c π' H' s'->∀cv,As π' H'.length s'.heap v cv->As π n s'.heap v' cv
theorem O8(hf:∀x,Ok (f x) (FzP c n H' x)):Ok (Gn f xs) λys=>∀(π π':Pl)(H₂:List AO)(s':Aj),LG π n H₂ π' H'->Av c π' H' s'->∀vs,Ag π' H'.length s'.heap xs vs->Ag π n s'.heap ys vs:=by
 induction xs with
 |nil=>exact .some λ_ _ _ _ _ _ _ r=>r
 |cons x xs ih=>exact(hf x).bind λy p=>ih.bind λys q=>.some λπ π' H₂ s' D G vs r=>AH r λv r=>r.elim λws r=>⟨v,ws,r.1,p π π' H₂ s' D G _ r.2.1,q π π' H₂ s' D G _ r.2.2⟩
theorem SP{α:Type}{l:List (Str×α)}{v:α}(h:l.lookup x=some v):(x,v)∈l:=mem_of_lookup h
theorem nJ{n k:Nat}:∀{v:AV},Ok (fz k n H' v) (FzP c n H' v):=by
 induction k with
 |zero=>exact .none
 |succ k ih=>
  intro v
  induction v using AV.casesOn with
  |loc l=>exact .cond (λh=>.some λπ π' H₂ s' D G cv r=>⟨Ru.mp h,r.2.trans (Ai Bq (D.agree l (Ru.mp h)))⟩) λh=>listAt.bind λxs e=>(O8 λ_=>ih).bind λys q=>.some λπ π' H₂ s' D G cv r=>
    (G.objs l _ e).elim λvs z=>z.elim λkk z=>⟨_,vs,r.2,⟨_,z.1,rfl,rfl,kk,rfl⟩,D.fresh l (N6 λq=>BI (h.symm.trans (Ru.mpr q))) r.1,q π π' H₂ s' D G _ z.2⟩
  |tup xs=>exact(O8 λ_=>ih).bind λys q=>.some λπ π' H₂ s' D G cv r=>r.tup.elim λa z=>z.elim λvs z=>⟨a,vs,z.1,z.2.1,λy=>z.2.2.1 (D.mono _ y),q π π' H₂ s' D G _ z.2.2.2⟩
  |lst xs=>exact(O8 λ_=>ih).bind λys q=>.some λπ π' H₂ s' D G cv r=>AH r λa z=>z.elim λvs z=>⟨a,vs,z.1,z.2.1,λy=>z.2.2.1 (D.mono _ y),q π π' H₂ s' D G _ z.2.2.2⟩
  |BH q=>exact .guard λhc=>.some λπ π' H₂ s' D G cv r=>AH r λa r=>⟨a,r.1,r.2.1.back D.agree λx l hx=>Ru.mp (BV.mp hc (x,l) (SP hx)),λz=>r.2.2 (D.mono _ z)⟩
  |Gw x y z=>exact .some λπ π' H₂ s' D G cv r=>AH r λa r=>⟨a,r.1,r.2.1,λz=>r.2.2 (D.mono _ z)⟩
  |_=>exact .some λ_ _ _ _ _ _ _ r=>r
end
section
variable{lo Bv BJ:Lo}
structure FnAt(π:Pl)(n:Nat)(h:Ay)(a:Ah)(fi:FI)(fd:Iq):Prop where
 obj:∃o,h.get? a=some o/\o.data=.func fd
 body:fd.body=fi.body
 scope:fd.scope=fi.scope
 glob:fd.globals=DO
 bi:fd.builtins=C4
 qual:fd.qualname=fi.qual
 code:BZ h fd.code fd.qualname
 YQ:∀a',fi.code=some a'->fd.code=.ref a'
 BH:By π n fd.closure fi.cells
 cls:fi.cls.isSome=true->fd.closure.lookup ("__class__" :Str)=some 173
 kind:fi.scope.kind=.function
 gen:fi.scope.isGenerator=false
 co:fi.scope.isCoroutine=false
 ncl:KL fi.scope.names=true
def O9(c:Cx)(fi:FI)(fd:Iq)(as:List AV)(ks:List (Str×AV))(bs:Lo):Prop:=
 ∀(π:Pl)(n:Nat)(s:Aj)(cargs Gr:List Ad),c.K.In s.heap->Ag π n s.heap as cargs->Ag π n s.heap (ks.map (·.2)) Gr->
  ∃cbs,BindsTo s fd ⟨cargs,(ks.map (·.1)).zip Gr⟩ cbs/\cbs.map (·.1)=bs.map (·.1)/\Ag π n s.heap (bs.map (·.2)) (cbs.map (·.2))
theorem SQ{code:Ad}
  (h:∀f:Str×BX->List (Str×Ah)->Sem (En (List (Str×Ah))),(∀name kind cells,f (name,kind) cells=if kind==.cell then (do let a <-alloc {cls:=.type "cell",data:=.cell none};pure (.yield ((name,a)::cells))) else pure (.yield cells))->
   Ae M A (forIn scope.names closure f) (λcells s₁=>∀g:Str×Ad->EX->Sem (En EX),(∀n v u,g (n,v) u=(do Io (newEnv scope s.heap.objs.size globals cells qual func code none builtins) n v;pure (.yield ⟨⟩)))->
    Ae M A (forIn binds ⟨⟩ g) (λ_ s₂=>Q (newEnv scope s.heap.objs.size globals cells qual func code none builtins) s₂) E s₁) E
    {s with heap:=s.heap.push {cls:=.type "frame",data:=.dict #[]}}):
  Ae M A (Od scope globals closure binds qual func code none builtins) Q E s:=by
 refine Ac (wpAny_alloc ?_)
 refine Ac (AJ (h _ λname kind cells=>by rcases kind with ⟨⟩<;>rfl) (λcells s₁ h₁=>?_) λ_ _ x=>x)
 exact Ac (AJ (h₁ _ λ_ _ _=>rfl) (λ_ s₂ h₂=>An h₂) λ_ _ x=>x)
theorem YR{S:St}{code:Ad}
  (R:A5 d A)(G:Av c π S.H s)(hw:(Au fi S.H.length wr).wr<=S.H.length)(hclo:By π S.H.length closure fi.cells)(hcls:fi.cls.isSome=true->closure.lookup ("__class__" :Str)=some 173)(hk:fi.scope.kind=.function)(hnc:KL fi.scope.names=true)
  (hcode:∀a',fi.code=some a'->code=.ref a')(hput:yN c (Au fi S.H.length wr) [] (S.on (S.H++AK fi.scope.names)) bs p)
  (hn:cbs.map (·.1)=bs.map (·.1))(hv:Ag π S.H.length s.heap (bs.map (·.2)) (cbs.map (·.2)))
  (k:∀env s₁ π₁,env.func=func->env.code=code->env.locals=s.heap.objs.size->PG c (Au fi S.H.length wr).wr none π S.H s p.S.H π₁ s₁->
   Bu π₁ p.S.H.length (Au fi S.H.length wr) env->Br c π₁ p.S.H.length s₁.heap env.locals p.v->Q env s₁):
  Ae c.m A (Od fi.scope DO closure cbs (fi.qual++".<locals>.") func code none C4) Q E s:=by
 have hfr:s.heap.get? s.heap.objs.size=none:=Bx _ (AP _)
 have K0:Kp no s {s with heap:=s.heap.push {cls:=.type "frame",data:=.dict #[]}}:=Kp.BS _
 have G0:=G.DU K0
 refine SQ λf hf=>Ui f hf fi.scope.names closure fi.cells S.H π _ _ hnc G0 hclo (λcells s₁ π₁ P₁ hc hcl g hg=>?_) hw
 have hL0:Br c π S.H.length (s.heap.push {cls:=.type "frame",data:=.dict #[]}) s.heap.objs.size []:=⟨⟨_,Ay.Ns.new s.heap (.type "frame"),λx v e=>nomatch e⟩,G.Kk,G.absent hfr⟩
 have F1:Bu π₁ (S.H++AK fi.scope.names).length (Au fi S.H.length wr) (newEnv fi.scope s.heap.objs.size DO cells (fi.qual++".<locals>.") func code none C4):=
  ⟨rfl,hk,rfl,rfl,hc.1,λq=>hcl.trans (hcls q),hc.2,λhne=>by
   revert hne
   show T7 fi.code≠.none->code=T7 fi.code
   cases q:fi.code with
   |none=>exact λh=>AL rfl h
   |some a'=>exact λ_=>hcode a' q,rfl,AA hw (BO▸BF _ _)⟩
 exact hput.2 d A E g _ hg R cbs π₁ s₁ _ F1 P₁.g (hL0.pg P₁ G0) hn ((hv.push _).pg P₁ G0) λs₂ P₂ F₂ L₂=>k _ s₂ π₁ rfl rfl rfl (PG.Uj ((PG.pure G K0).trans P₁) hfr P₂) F₂ L₂
def nK(c:Cx)(d:Nat)(fr:FD)(lo:Lo)(H:List AO)(b:EM)(x:Rt AV):Prop:=match b with
 |.stmts b=>∃fl u5,Km c d fr lo H b fl u5 x.S.H/\fl.Nb=some x.v
 |.expr e=>Bt c d fr lo H e x.v x.S.H
theorem Xg(Sd:Bl c d r):Ok (KN r fr b lo S) λx=>AX S x.S (nK c d fr lo S.H b x):=by
 cases b with
 |stmts b=>exact(MR Sd).bind λx i=>Ok.self.bind λv hv=>.some (AX.imp i λi=>⟨_,_,i,hv⟩)
 |expr e=>exact Sd.E fr lo S e
def jT(c:Cx)(d:Nat)(fi:FI)(S:St)(wr:Nat)(bs:Lo)(v:AV)(H':List AO):Prop:=
 ∀(A:AG)(π:Pl)(s:Aj)(a:Ah)(fd:Iq)(E:EP)(args:Args)(cbs:List (Str×Ad)),A5 (d+1) A->wr<=S.H.length->Av c π S.H s->
  FnAt π S.H.length s.heap a fi fd->BindsTo s fd args cbs->cbs.map (·.1)=bs.map (·.1)->Ag π S.H.length s.heap (bs.map (·.2)) (cbs.map (·.2))->
  EO c.m A (.call (.ref a) ⟨args.pos,args.kw⟩) (wants (FU c wr π S.H s v H') E) s
theorem pS(hput:yN c (Au fi S.H.length wr) [] (S.on (S.H++AK fi.scope.names)) bs p)(hb:nK c d (Au fi S.H.length wr) p.v p.S.H fi.body x):
  jT c d fi S (Au fi S.H.length wr).wr bs x.v x.S.H:=by
 intro A π s a fd E args cbs R hw G Fn hbind hn hv
 refine Fn.obj.elim λo ja=>?_
 have enter:∀(E:EP)(Q:Env->Aj->Prop),(∀env s₁ π₁,env.locals=s.heap.objs.size->PG c (Au fi S.H.length wr).wr none π S.H s p.S.H π₁ s₁->Bu π₁ p.S.H.length (Au fi S.H.length wr) env->Br c π₁ p.S.H.length s₁.heap env.locals p.v->Q env s₁)->
   Ae c.m A.in1 (Od fd.scope fd.globals fd.closure cbs (fd.qualname++".<locals>.") (some a) fd.code none fd.builtins) Q E s:=λE Q k=>by
  rw[Fn.scope,Fn.glob,Fn.bi,Fn.qual]
  exact YR R.in1 G hw Fn.BH Fn.cls Fn.kind Fn.ncl Fn.YQ hput hn hv λenv s₁ π₁ _ _=>k env s₁ π₁
 have co:=Fn.scope▸Fn.co
 have gn:=Fn.scope▸Fn.gen
 have bd:=Fn.body
 revert bd hb
 cases fi.body with
 |stmts b=>
  exact λhb bd=>AH hb λfl hb=>hb.elim λu5 hb=>codeAny_call_function R.rl ja.1 ja.2 co gn bd Fn.code.Na (hbind _ _ _ _ (enter _ _ λenv s₁ π₁ hL P₁ F₁ L₁=>⟨c.QD P₁.g,codeAny_func (hb.1.Ng (R.deeper) F₁ P₁.g L₁ λcf s₂ π₂ P₂ F₂ L₂ r₂=>by
   have P:=PG.Uj P₁ (hL▸Bx _ (AP _)) P₂
   have hv:=hb.2
   cases fl with
   |next=>subst r₂;exact AQ hv▸⟨π₂,P,rfl⟩
   |ret v=>exact AH r₂ λcv q=>q.1▸AQ hv▸⟨π₂,P,q.2⟩
   |brk=>cases hv
   |cont=>cases hv)⟩))
 |expr e=>
  exact λhb bd=>kla_callFunE R.rl ja.1 ja.2 co gn bd Fn.code.Na (hbind _ _ _ _ (enter _ _ λenv s₁ π₁ hL P₁ F₁ L₁=>⟨c.QD P₁.g,kla_codeExpr (Bt.use hb (R.deeper) F₁ P₁.g L₁ λcv s₂ π₂ P₂ F₂ L₂ r₂=>⟨π₂,P₁.trans P₂,r₂⟩)⟩))
theorem QE(h:∀v s,P v s->Q v s):∀r s,wants P E r s->wants Q E r s:=by
 rintro (e | (v | _ | _ | _)) s hr<;>first | exact h _ _ hr | exact hr
theorem Uk(Sd:Bl c d r):Ok (CM r fi as ks wr S) λx=>AX S x.S (∃bs,Cv fi as ks=some bs/\jT c d fi S wr bs x.v x.S.H):=
 Ok.self.bind λbs yO=>YO.bind λp hp=>(Xg Sd).bind λx i=>by
  have main:AX S x.S (jT c d fi S (Au fi S.H.length wr).wr bs x.v x.S.H):=λo=>⟨hp.1▸(i o).1,pS hp (i o).2⟩
  revert main
  show AX S x.S (jT c d fi S (cond fi.Ss wr S.H.length) bs x.v x.S.H)->_
  cases fi.Ss with
  |true=>exact λmain=>.some (main.imp λh=>⟨bs,yO,h⟩)
  |false=>exact λmain=>nJ.bind λv hz=>.some (main.imp λh=>⟨bs,yO,λA π s a fd E args cbs R hw G Fn hbind hn hv=>codeAny_mono (h A π s a fd E args cbs R (AP _) G Fn hbind hn hv) (QE λv s' q=>q.elim λπ' q=>⟨π,PG.forget G q.1,hz π π' S.H s' (LG.refl.pg G q.1 (AP _)) q.1.g _ q.2⟩)⟩)
end
theorem aw(h:W7 l=true):l.Nodup:=by
 induction l with
 |nil=>exact Wb
 |cons x r ih=>
  have h:=h
  have h1:=HN (Ax h)
  rw[SJ] at h1
  exact ED.mpr ⟨λq=>BI (h1.symm.trans (V9.mpr q)),ih (Am h)⟩
theorem filterMap_eq{α β:Type}{f g:α->Ab β}{l:List α}(h:∀a∈l,f a=g a):l.filterMap f=l.filterMap g:=by
 induction l with
 |nil=>rfl
 |cons a l ih=>rw[LC,LC,h a (CT ..),ih λb hb=>h b (Ee _ hb)]
theorem Xh{α:Type}{ns:List Str}:∀{vs:List α},ns.Nodup->ns.length=vs.length->ns.filterMap (λn=>((ns.zip vs).lookup n).map (n,·))=ns.zip vs/\∀n∈ns,((ns.zip vs).lookup n).isNone=false:=by
 induction ns with
 |nil=>exact λ_ _=>⟨rfl,λ_ q=>nomatch q⟩
 |cons n ns ih=>
  intro vs hd hl
  induction vs using B9 with
  |nil=>cases hl
  |cons v vs=>
   have hd:=ED.mp hd
   have i:=ih hd.2 (He hl)
   have e:∀m∈ns,C2 m ((n::ns).zip (v::vs))=(ns.zip vs).lookup m:=λm hm=>by rw[cq,Dk,Si (λq:m=n=>hd.1 (q▸hm))]
   have e0:C2 n ((n::ns).zip (v::vs))=some v:=by rw[cq,Dk,Ke]
   refine⟨?_,λm hm=>(Bc.mp hm).elim (λq=>by rw[q,e0];rfl) λhm=>by rw[e m hm];exact i.2 m hm⟩
   rw[LC,e0]
   exact Ai ((n,v) :: ·) (Hd (filterMap_eq λm hm=>by rw[e m hm]) i.1)
theorem Pa(h:KJ p=true):(p.posonlyargs=[]/\p.vararg=none/\p.kwonlyargs=[]/\p.kwarg=none)/\(p.args.map (·.arg)).Nodup:=
 ⟨⟨Bj (Ax (Ax h)),CN (Ax (Am (Ax h))),Bj (Ax (Am (Am (Ax h)))),CN (Am (Am (Am (Ax h))))⟩,aw (Am h)⟩
theorem Pd{vals:List Ad}(hp:KJ fd.params=true)(hd:fd.defaults=.none)(hl:fd.params.args.length=vals.length):
  bindArgs fd ⟨vals,[]⟩=pure ((fd.params.args.map (·.arg)).zip vals):=by
 obtain ⟨⟨h1,h2,h3,h4⟩,hnd⟩:=Pa hp
 have hlen:(fd.params.args.map (·.arg)).length=vals.length:=(AY _).trans hl
 obtain ⟨i1,i2⟩:=Xh hnd hlen
 have u6:((fd.params.args.map (·.arg)).filter λn=>(((fd.params.args.map (·.arg)).zip vals).lookup n).isNone)=[]:=List.filter_eq_nil_iff.mpr λn hn=>by rw[i2 n hn];exact BI
 unfold bindArgs
 generalize fd.params=p at*
 cases p with
 |mk po as va ko kd kw ds=>
 subst h1;subst h2;subst h3;subst h4
 rw[hd]
 show(if (decide (vals.length>(List.map (·.arg) as).length)&&true)=true then _ else _)=_
 refine(AD (λq=>AL (Bi (Ax q)) (by rw[hlen];exact F9 _))).trans ?_
 show(if (!(List.filter (λn=>(C2 n ((as.map (·.arg)).zip vals)).isNone) (List.take ((as.map (·.arg)).length-(Rk (0-(as.map (·.arg)).length) ([]:List Ad)).length) (as.map (·.arg)))).isEmpty)=true then _ else _)=_
 refine(AD (by rw[List.drop_nil,Ri,Wp,Wa,u6];exact BI)).trans ?_
 show(forIn ((Rk ((as.map (·.arg)).length-(Rk (0-(as.map (·.arg)).length) ([]:List Ad)).length) (as.map (·.arg))).zip (Rk (0-(as.map (·.arg)).length) ([]:List Ad))) ((as.map (·.arg)).zip vals) _>>=_)=_
 rw[List.drop_nil,Ri,Wp,List.drop_length]
 show(pure (List.filterMap (λn=>((C2 n ((as.map (·.arg)).zip vals)).map λx=>(n,x))) (as.map (·.arg)++[])):Sem (List (Str×Ad)))=_
 rw[DX,i1]
section
theorem Ul{α β:Type}{ns:List α}:∀{vs:List β},ns.length=vs.length->(ns.zip vs).map (·.1)=ns/\(ns.zip vs).map (·.2)=vs:=by
 induction ns with
 |nil=>intro vs h;induction vs using B9 with
  |nil=>exact⟨rfl,rfl⟩
  |cons=>cases h
 |cons n ns ih=>intro vs h;induction vs using B9 with
  |nil=>cases h
  |cons v vs=>exact⟨Ai (n :: ·) (ih (He h)).1,Ai (v :: ·) (ih (He h)).2⟩
theorem MS(hpar:fd.params=fi.params)(hdf:(nil fi.dflt&&nil fi.kwd)=true)(hd:fd.defaults=.none)(h:Cv fi as ks=some bs):O9 c fi fd as ks bs:=by
 unfold Cv at h
 rw[hdf] at h
 revert h
 refine Ok.guard (λhs=>.some λπ n s cargs Gr X ra rk=>?_) bs
 have hl:=Cb (Am (Am hs))
 have hl':=hl.trans ra.length.symm
 rw[Bj (Ax hs)] at rk ⊢
 rw[rk]
 have z:=Ul (ns:=fi.params.args.map (·.arg)) ((AY _).trans hl)
 have y:=Ul (ns:=fi.params.args.map (·.arg)) ((AY _).trans hl')
 exact⟨(fi.params.args.map (·.arg)).zip cargs,BindsTo.of_eq (hpar▸Pd (hpar▸Ax (Am hs)) hd (hpar▸hl')),y.1.trans z.1.symm,by rw[z.2,y.2];exact ra⟩
structure u7(c:Cx)(fi:FI)(fd:Iq):Prop where
 params:fd.params=fi.params
 body:fd.body=fi.body
 scope:fd.scope=fi.scope
 glob:fd.globals=DO
 bi:fd.builtins=C4
 qual:fd.qualname=fi.qual
 code:BZ c.B.heap fd.code fd.qualname
 YQ:∀a',fi.code=some a'->fd.code=.ref a'
 cells:fi.cells=[]
 BH:∀x,(x==("__class__" :Str))=false->fd.closure.lookup x=none
 cls:fi.cls.isSome=true->fd.closure.lookup ("__class__" :Str)=some 173
 sc:Sx fi.scope=true
 plain:(nil fi.dflt&&nil fi.kwd)=true->fd.defaults=.none
 bind:(nil fi.dflt&&nil fi.kwd)=false->∀as ks bs,Cv fi as ks=some bs->O9 c fi fd as ks bs
structure EA(c:Cx):Prop where
 fn:∀a fi,FT a=some fi->∃o fd,c.K.lookup a=some o/\o.data=.func fd/\u7 c fi fd
theorem Um(h:isFun k=true):k=.function:=by rcases k with ⟨⟩<;>first | rfl | exact ff h
theorem SR(h:Sx sc=true):sc.kind=.function/\sc.isGenerator=false/\sc.isCoroutine=false/\KL sc.names=true:=
 ⟨Um (Ax h),HN (Ax (Am h)),HN (Ax (Am (Am h))),Am (Am (Am h))⟩
def CoP(c:Cx)(d:Nat)(wr:Nat)(H:List AO)(a:Ah)(as:List AV)(ks:List (Str×AV))(v:AV)(H':List AO):Prop:=
 ∀(A:AG)(π:Pl)(s:Aj)(E:EP)(cargs Gr:List Ad),A5 (d+1) A->wr<=H.length->Av c π H s->Ag π H.length s.heap as cargs->Ag π H.length s.heap (ks.map (·.2)) Gr->
  EO c.m A (.call (.ref a) ⟨cargs,(ks.map (·.1)).zip Gr⟩) (wants (FU c wr π H s v H') E) s
theorem u7.at(q:u7 c fi fd)(hK:c.K.lookup a=some o)(hd:o.data=.func fd)(G:Av c π H s):FnAt π H.length s.heap a fi fd:=
 have k:=SR q.sc
 ⟨⟨o,c.DA G a o hK,hd⟩,q.body,q.scope,q.glob,q.bi,q.qual,c.codeS G q.code,q.YQ,⟨λx hx=>by rw[q.BH x hx,q.cells];rfl,λx l hl=>by rw[q.cells] at hl;rcases hl with ⟨⟩⟩,q.cls,k.1,k.2.1,k.2.2.1,k.2.2.2⟩
theorem u7.bx(q:u7 c fi fd)(h:Cv fi as ks=some bs):O9 c fi fd as ks bs:=by
 cases e:nil fi.dflt&&nil fi.kwd with
 |true=>exact MS q.params e (q.plain e) h
 |false=>exact q.bind e _ _ _ h
theorem Pe(Fs:EA c)(Sd:Bl c d r)(hf:FT a=some fi):Ok (CM r fi as ks wr S) λx=>AX S x.S (CoP c d wr S.H a as ks x.v x.S.H):=
 (Uk Sd).mono λx i=>i.imp λi=>i.elim λbs i=>(Fs.fn a fi hf).elim λo q=>q.elim λfd q=>λA π s E cargs Gr R hw G ra rk=>
  (q.2.2.bx i.1 π S.H.length s cargs Gr (c.DA G) ra rk).elim λcbs b=>i.2 A π s a fd E ⟨cargs,(ks.map (·.1)).zip Gr⟩ cbs R hw G (q.2.2.at q.1 q.2.1 G) b.1 b.2.1 b.2.2
theorem SU(Fs:EA c)(Sd:Bl c d r)(hf:FT a=some fi):Ok (CM r fi as ks wr S) (nC c (d+1) wr S (.val (.ref a)) as ks):=
 (Pe Fs Sd hf).mono λx i=>AX.imp i λrun A π s E cf cargs Gr R hw G rf ra rk=>by
  rcases rf.val with ⟨⟩
  exact DE (run A π s E cargs Gr R hw G ra rk)
theorem Un(Sd:Bl c d r):Ok (Xa r k as ks wr S) (nC c (d+1) wr S (.BH k) as ks):=
 .guard λu9=>have k:=SR u9;(Uk Sd).mono λx i=>AX.imp i λi A π s E cf cargs Gr R hw G rf ra rk=>i.elim λbs i=>rf.BH.elim λa p=>p.2.1.elim λo q=>q.elim λfd q=>by
  rw[p.1]
  exact(MS q.2.2.2.1.params rfl q.2.2.2.1.dflt i.1 π S.H.length s cargs Gr (c.DA G) ra rk).elim λcbs b=>DE (i.2 A π s a fd E ⟨cargs,(ks.map (·.1)).zip Gr⟩ cbs R hw G
   ⟨⟨o,q.1,q.2.2.1⟩,q.2.2.2.1.body,q.2.2.2.1.scope,q.2.2.2.1.glob,q.2.2.2.1.bi,q.2.2.2.1.qual,q.2.2.2.1.qual.symm▸q.2.2.2.2.1,λa' z=>(nomatch z),⟨λx _=>q.2.2.2.2.2.1 x,q.2.2.2.2.2.2⟩,λz=>(nomatch z),k.1,k.2.1,k.2.2.1,k.2.2.2⟩ b.1 b.2.1 b.2.2)
end
section
variable{c:Cx}{d wr:Nat}{H H':List AO}{π π':Pl}{s s':Aj}
theorem ay(f:m9 x=true)(r:As π n h x v):As π' n' h' x v:=by
 induction x using AV.casesOn with
 |int i=>exact r
 |str x=>exact r
 |_=>exact ff f
theorem Mw:∀{xs:List AV}{vs:List Ad},dY xs=true->Ag π n h xs vs->Ag π' n' h' xs vs
 |[],_,_,r=>r
 |_::_,_,f,r=>AH r λv r=>r.elim λws r=>⟨v,ws,r.1,ay (Ax f) r.2.1,Mw (Am f) r.2.2⟩
theorem PG.off(G:Av c π H s)(P:PG c 0 none π [] s H' π' s'):PG c wr none π H s H ⟨π.at',π'.M⟩ s':=
 have up:=λb o hb e=>P.same b o hb (λl _ h=>AL h (F8 l)) e
 have S:Ju π H.length s.heap ⟨π.at',π'.M⟩ H.length s'.heap:=P.kp.Eo G.tabs (PG.uL .none) (PG.uM G .none) (AP _) (λ_ _=>rfl) P.new
 ⟨AP _,λ_ _=>rfl,λ_ _=>rfl,λl h1 h2=>AL h2 (EJ.mpr h1),P.mono,P.new,P.kp,P.there,
  ⟨P.g.base,λl o e=>(G.objs l o e).step S λo' e'=>up _ _ (G.mem l (G.lt e)) e',G.inj,λl h=>P.mono _ (G.mem l h),P.g.new,P.g.ex⟩,λb o hb _ e=>up b o hb e⟩
theorem az(Fs:EA c)(Sd:Bl c d r):Ok (IL r a as S) (nC c (d+1) wr S (.val (.ref a)) as []):=
 .guard λhf=>Ok.self.bind λfi hfi=>(Pe Fs Sd hfi).bind λx i=>Fv.bind λxs e=>.guard λhx=>.some λo=>
  ⟨(i o).1,λA π s E cf cargs Gr R hw G rf ra rk=>by
   cases rf.val
   exact AJ (DE ((i o).2 A π s E cargs Gr R (AP _) ⟨G.base,nofun,nofun,nofun,G.new,G.ex⟩ (Mw hf ra) rk)) (λcv s' q=>q.elim λπ' q=>⟨_,q.1.off G,by
    have q:=q.2
    rw[e] at q
    exact AH q λa q=>q.elim λvs q=>⟨a,vs,q.1,q.2.1,q.2.2.1,Mw hx q.2.2.2⟩⟩) λ_ _ x=>x⟩
end
section
variable{lo Bv BJ:Lo}
def Eg(c:Cx)(f:AV):Prop:=
 ∀(H:List AO)(π:Pl)(s:Aj)(cf:Ad),Av c π H s->As π H.length s.heap f cf->∃k,(k=Keeper.frame\/k=Keeper.machine\/k=Keeper.boundFrame)/\AR c.m s.heap (keeperOf cf) k
theorem Eg.bi{id:A3}:Eg c (.val (.builtin id)):=λH π s cf G r=>by cases r.val;exact⟨_,.inr (.inl rfl),.now⟩
theorem Eg.ty{id:A3}:Eg c (.val (.type id)):=λH π s cf G r=>by cases r.val;exact⟨_,.inr (.inl rfl),.now⟩
theorem Eg.BH:Eg c (.BH k):=λH π s cf G r=>r.BH.elim λa p=>p.2.1.elim λo q=>q.elim λfd q=>by
 rw[p.1]
 refine⟨.frame,.inl rfl,(D4 q.1).andThen ?_⟩
 rw[q.2.2.1];exact .now
def JG(c:Cx)(d:Nat)(fr:FD)(lo:Lo)(H:List AO)(ks:List EN)(vs:List (Str×AV))(H':List AO):Prop:=
 (∀env pos,(Fi pos (Fh ks env)).all (·.1.isSome)=true/\(Fi pos (Fh ks env)).filterMap (·.1)=vs.map (·.1))/\
 ∀(A:AG)(env:Env)(π:Pl)(pos:Pos)(s:Aj)(E:EP),A5 d A->Bu π H.length fr env->Av c π H s->Br c π H.length s.heap env.locals lo->
  Ae c.m A (evalAll ((Fi pos (Fh ks env)).map (·.2))) (λcvs s'=>∃π',PG c fr.wr none π H s H' π' s'/\Ag π' H'.length s'.heap (vs.map (·.2)) cvs) E s
theorem JG.nil:JG c d fr lo H [] [] H:=⟨λ_ _=>⟨rfl,rfl⟩,λA env π pos s E R F G L=>JY ⟨π,.refl G,.nil⟩⟩
theorem JG.cons(he:Bt c d fr lo H e v H1)(hr:JG c d fr lo H1 ks vs H2):JG c d fr lo H (⟨some n,e,p⟩::ks) ((n,v)::vs) H2:=
 ⟨λenv pos=>⟨by
   show((some n).isSome&&(Fi pos (Fh ks env)).all (·.1.isSome))=true
   rw[(hr.1 env pos).1];rfl,by
   show n::(Fi pos (Fh ks env)).filterMap (·.1)=_
   rw[(hr.1 env pos).2];rfl⟩,
  λA env π pos s E R F G L=>PyProof.Rows.kwAll_cons (he.use R F G L λcv s₁ π₁ P₁ F₁ L₁ r₁=>
   AJ (hr.2 A env π₁ pos s₁ E R F₁ P₁.g L₁) (λcvs s₂ h=>h.imp λπ₂ q=>⟨P₁.trans q.1,.cons (r₁.pg q.1 P₁.g) q.2⟩) λ_ _ x=>x)⟩
theorem jU(Sd:Bl c d r):∀{S:St},Ok (Sw r fr lo S ks) λx=>AX S x.S (JG c d fr lo S.H ks x.v x.S.H):=by
 induction ks with
 |nil=>exact .some (.mk .nil)
 |cons k ks ih=>
  intro S
  obtain ⟨x,e,p⟩:=k
  induction x using BK with
  |none=>exact .none
  |some x=>exact(Sd.E fr lo S e).bind λa i=>ih.bind λb j=>.some (AX.bind i j .cons)
theorem Dd{trees:List (Sem Ad)}
  (hall:keywords.all (·.1.isSome)=true)
  (h:Ae M A (spliced (trees.map λt=>(false,t))) (λvs s₁=>Ae M A (evalAll (keywords.map (·.2))) (λks s₂=>Q ⟨vs,(keywords.filterMap (·.1)).zip ks⟩ s₂) E s₁) E s):
  Ae M A (evalArgs f true (trees.map λt=>(false,t)) keywords) Q E s:=by
 induction trees using B9 with
 |nil=>
  refine PySem.evalArgs_kw_nil hall ?_
  intro Γ p hΓ
  exact(h Γ p hΓ:Ae M A (evalAll (keywords.map (·.2))) (λks s₂=>Q ⟨[],(keywords.filterMap (·.1)).zip ks⟩ s₂) E s) Γ p hΓ
 |cons x rest=>exact PySem.evalArgs_kw hall h
theorem any_false{α:Type}{l:List α}{f:α->Aa}(h:∀a∈l,f a=false):l.any f=false:=by
 rw[List.any_eq_false];exact λa ha=>h a ha▸BI
theorem Bt.Ub{ks:List EN}(hf:Bt c d fr lo H (.Name x xp) f H)(ha:IU c d fr lo H es vs H1)(hk:JG c d fr lo H1 ks vc H2)
  (hst:Ea es)(hkp:Eg c f)(hc:DR c d H2 fr.wr f vs vc r H3):Bt c d fr lo H (.Call (.Name x xp) es ks p) r H3:=by
 intro A env π s E R F G L
 refine Ac (hf.use R F G L λcf s₁ π₁ P₁ F₁ L₁ r₁=>?_)
 rw[hst env p]
 have em:(es.map λe=>(false,eval e env))=(es.map λe=>eval e env).map λt=>(false,t):=by rw[F6];rfl
 have hall:=hk.1 env p
 refine IA (NQ.mpr ⟨any_false λx hx=>(CD.mp hx).elim λe q=>q.2▸rfl,any_false λy hy=>?_⟩) (λh x=>x) ?_
 ·have:=BV.mp hall.1 y hy
  revert this
  induction y.1 using BK with
  |none=>exact λq=>ff q
  |some _=>exact λ_=>rfl
 rw[em]
 refine Dd hall.1 ?_
 rw[<-em]
 refine AJ (ha A env π₁ s₁ E R F₁ P₁.g L₁) (λcvs s₂ h=>h.elim λπ₂ q₂=>?_) λ_ _ e=>e
 refine AJ (hk.2 A env π₂ p s₂ E R (q₂.1.fr F₁) q₂.1.g (L₁.pg q₂.1 P₁.g)) (λkcs s₃ h=>h.elim λπ₃ q₃=>?_) λ_ _ e=>e
 have rf:=(r₁.pg q₂.1 P₁.g).pg q₃.1 q₂.1.g
 refine⟨hkp H2 π₃ s₃ cf q₃.1.g rf,?_⟩
 rw[hall.2]
 exact AJ (hc A π₃ s₃ E cf cvs kcs R ((q₃.1.fr (q₂.1.fr F₁)).wr) q₃.1.g rf (q₂.2.pg q₃.1 q₂.1.g) q₃.2) (λcv s₄ h=>h.imp λπ₄ q=>⟨((P₁.trans q₂.1).trans q₃.1).trans q.1,q.2⟩) λ_ _ e=>e
end
section
variable{c:Cx}{d:Nat}{fr:FD}{lo Bv BJ:Lo}{H H' EZ H1 H2 H3:List AO}
structure nL(o:Obj):Prop where
 nv:¬ Mr o.cls
 nn:o.cls≠.none
 nc:o.cls≠.type "code"
 fs:∃fs,o.data=.fields fs
noncomputable def jV(ty:A3):Aa:=ty !="list" &&(ty !="tuple" &&(ty !="range" &&(ty !="function" &&ty !="code")))
theorem eM(h:(a !=b)=true):(Fk a)≠.type b:=λq=>by rw[Fk.inj q] at h;simp at h
theorem nL.of{fs}(h:jV ty=true)(hc:o.cls=.type ty)(hd:o.data=.fields fs):nL o:=
 ⟨hc▸λq=>q.elim (eM (Ax h)) λq=>q.elim (eM (Ax (Am h))) λq=>q.elim (eM (Ax (Am (Am h)))) (eM (Ax (Am (Am (Am h))))),hc▸nofun,hc▸eM (Am (Am (Am (Am h)))),fs,hd⟩
theorem nL.ok(h:nL o):Jh o:=.inl ⟨h.nc,h.nn⟩
theorem nL.nd(h:nL o){es k}(hd:o.data=.dict es k):Cd:=h.fs.elim λfs q=>nomatch hd.symm.trans q
def Kq(π:Pl)(h:Ay)(b:Ah):Prop:=¬ π.M b/\∃o,h.get? b=some o/\nL o
theorem Kq.ne(x:Kq π h b)(hL:C9 h L):¬ Xw π L b:=λq=>q.elim (λq=>(hL b q).elim λo' y=>y.elim λes y=>y.elim λk y=>x.2.elim λo z=>z.2.nd (AQ (y.1.symm.trans z.1)▸y.2)) x.1
theorem Kq.up(x:Kq π s.heap b)(K:Kp X s s')(T:TabsOk s.heap)(hx:¬ X b)(e:s.heap.get? b=some o):s'.heap.get? b=some o:=x.2.elim λo' q=>K.keep b o hx (T.D5 e (AQ (q.1.symm.trans e)▸q.2.nn)) e
theorem Kq.pg(P:PG c wr L π H s H' π' s')(G:Av c π H s)(hL:C9 s.heap L)(x:Kq π s.heap b):Kq π' s'.heap b/\∀o,s.heap.get? b=some o->s'.heap.get? b=some o:=
 have up:=λo e=>x.up P.kp G.tabs (x.ne hL) e
 ⟨⟨λq=>(P.new b q).elim x.1 λq=>x.2.elim λo y=>(nomatch q.symm.trans y.1),x.2.imp λo y=>⟨up o y.1,y.2⟩⟩,up⟩
structure BM(c:Cx)(π:Pl)(H:List AO)(X:Ah->Prop)(s s':Aj):Prop where
 kp:Kp X s s'
 is:∀b,X b->(Kq π s.heap b/\c.B.heap.get? b=none)\/∃l k,H[l]?=some (.raw k)/\π.at' l=b
 raw:∀l k,H[l]?=some (.raw k)->X (π.at' l)->IT π H.length s'.heap (.raw k) (π.at' l)
section
variable{π:Pl}{X:Ah->Prop}{s s':Aj}
theorem BM.uL(G:Av c π H s)(K:BM c π H X s s'):mV π s.heap X:=λb x=>(K.is b x).elim (λq=>.inr (.inl (.inr (q.1.2.imp λo z=>⟨z.1,z.2.nv⟩)))) λq=>q.elim λl q=>q.elim λk q=>.inl (q.2▸G.mem l (G.lt q.1))
theorem BM.uM(G:Av c π H s)(K:BM c π H X s s'):jw s.heap X:=λb o' x e=>(K.is b x).elim (λq=>q.1.2.elim λo z=>AQ (z.1.symm.trans e)▸z.2.ok) λq=>q.elim λl q=>q.elim λk q=>G.ok (q.2▸G.mem l (G.lt q.1)) e
theorem BM.Eo(G:Av c π H s)(K:BM c π H X s s'):Ju π H.length s.heap π H.length s'.heap:=K.kp.Eo G.tabs (K.uL G) (K.uM G) (AP _) (λ_ _=>rfl) (λ_ h=>.inl h)
theorem BM.g(G:Av c π H s)(K:BM c π H X s s'):Av c π H s':=
 G.upd K.kp (K.uL G) (K.uM G) (λb x=>(K.is b x).elim (·.2) λq=>q.elim λl q=>q.elim λk q=>q.2▸G.new _ (G.mem l (G.lt q.1)))
  (λb x hm=>(K.is b x).elim (λq=>AL hm q.1.1) λq=>q.elim λl q=>q.elim λk q=>by
   have r:=K.raw l k q.1 (q.2.symm▸x)
   rw[q.2] at r
   exact AH r λvs r=>r.elim λj r=>⟨_,r.1,.data nofun⟩) rfl λl o e=>
  (DI (X (π.at' l))).elim (λx=>.inr ((K.is _ x).elim (λq=>AL (G.mem l (G.lt e)) q.1.1) λq=>q.elim λl' q=>q.elim λk q=>by
   cases G.inj l' l (G.lt q.1) (G.lt e) q.2
   rw[AQ (e.symm.trans q.1)]
   exact K.raw _ _ q.1 x)) λx=>.inl ⟨e,x⟩
theorem BM.l(G:Av c π H s)(K:BM c π H X s s')(R:Br c π H.length s.heap A lo):Br c π H.length s'.heap A lo:=
 R.obj.elim λo q=>q.elim λes q=>q.elim λep q=>
  have hx:=λx=>(K.is A x).elim (λy=>y.1.2.elim λo' z=>z.2.nd (AQ (q.1.symm.trans z.1)▸q.2)) λy=>y.elim λl y=>y.elim λk y=>R.nl (y.2▸G.mem l (G.lt y.1))
  ⟨R.ns.imp λm r=>⟨r.1.at' λo' e=>K.kp.keep A o' hx (G.tabs.Mq e (AQ (q.1.symm.trans e)▸Fw q.2)) e,λx v e=>(r.2 x v e).imp λcv r=>⟨r.1,r.2.step (K.Eo G)⟩⟩,R.nl,R.new⟩
theorem PG.step(P:PG c wr L π₀ H₀ s₀ H π s)(K:BM c π H X s s')(hX:∀b,X b->s₀.heap.get? b=none):PG c wr L π₀ H₀ s₀ H π s':=
 have nx:∀{b o},s₀.heap.get? b=some o->¬ X b:=λe x=>nomatch (hX _ x).symm.trans e
 {P with
  kp:=P.kp.trans' K.kp (λ_ x=>x) (λb o x e=>AL x (nx e))
  there:=λb o e=>(P.there b o e).elim λo' e'=>K.kp.there b o' (nx e) e'
  g:=K.g P.g
  same:=λb o hb hn e=>have e':=P.same b o hb hn e;K.kp.keep _ o (nx e) (P.g.tabs.W0 e' (P.g.ok (P.mono b hb) e')) e'}
end
def LsSt(π:Pl)(n:Nat)(h:Ay)(I:Ah)(i:Nat)(xs:List AV):Prop:=∃a,(h.IsListIter I a i/\As π n h (.lst xs) (.ref a))\/(h.IsTupleIter I a i/\As π n h (.tup xs) (.ref a))
def vd(h:Ay)(I:Ah)(i:Nat)(x:List Nat):Prop:=∃ty t y,(ty="str_ascii_iterator" \/ty="str_iterator")/\h.IsStrIter I ty y t i/\y.cps.toList=x
def ve(h:Ay)(I:Ah)(i:Nat)(a b k:Int):Prop:=k≠0/\IsRangeIter h I (a+k*i) (E4 a b k-i) k
def KU(src:Src)(I:Ah)(i:Nat)(π:Pl)(n:Nat)(h:Ay):Prop:=match src with
 |.lst xs=>LsSt π n h I i xs
 |.loc l=>l<n/\h.IsListIter I (π.at' l) i
 |.Gw a b k=>ve h I i a b k
 |.str x=>vd h I i x
 |.zip _ _=>Cd
def Kz(c:Cx)(src:Src)(it:Ad)(i:Nat)(π:Pl)(n:Nat)(h:Ay):Prop:=∃I,it=.ref I/\Kq π h I/\c.B.heap.get? I=none/\KU src I i π n h
theorem KU.up(S:Ju π n h π' n' h')(up:∀o,h.get? I=some o->h'.get? I=some o)(x:KU src I i π n h):KU src I i π' n' h':=by
 induction src using Src.casesOn with
 |lst xs=>exact AH x λa x=>⟨a,x.imp (λx=>⟨x.1.at up,x.2.step S⟩) λx=>⟨x.1.imp λo q=>⟨up o q.1,q.2⟩,x.2.step S⟩⟩
 |loc l=>exact⟨BW x.1 S.le,by rw[S.ag l x.1];exact x.2.at up⟩
 |Gw a b k=>exact⟨x.1,up _ x.2⟩
 |str x=>exact WT (λty q=>q.imp λt q=>q.imp λy q=>⟨q.1,q.2.1.imp λo q=>⟨up o q.1,q.2⟩,q.2.2⟩) x
 |zip _ _=>exact x
theorem Kz.pg(P:PG c wr L π H s H' π' s')(G:Av c π H s)(hL:C9 s.heap L)(x:Kz c src it i π H.length s.heap):Kz c src it i π' H'.length s'.heap:=
 x.imp λI q=>have y:=q.2.1.pg P G hL;⟨q.1,y.1,q.2.2.1,q.2.2.2.up (P.Eo G hL) y.2⟩
theorem Kz.step(G:Av c π H s)(K:BM c π H X s s')(hX:∀I,it=.ref I->¬ X I)(x:Kz c src it i π H.length s.heap):Kz c src it i π H.length s'.heap:=
 x.imp λI q=>have up:=λo e=>q.2.1.up K.kp G.tabs (hX I q.1) (o:=o) e;⟨q.1,⟨q.2.1.1,q.2.1.2.imp λo z=>⟨up o z.1,z.2⟩⟩,q.2.2.1,q.2.2.2.up (K.Eo G) up⟩
def Mx(c:Cx)(H:List AO)(v:AV)(src:Src):Prop:=∀(A:AG)(π:Pl)(s:Aj)(E:EP)(cv:Ad),Av c π H s->As π H.length s.heap v cv->∀Q:Ad->Aj->Prop,
 (∀it s₁,Kp no s s₁->(∀I,it=.ref I->s.heap.get? I=none)->Kz c src it 0 π H.length s₁.heap->Q it s₁)->Ae c.m A (Fj cv) Q E s
theorem Jl(G:Av c π H s)(ho:nL o)(hf:o.isFreed=false){Q:EP}(k:∀it s₁,Kp no s s₁->(∀I,it=.ref I->s.heap.get? I=none)->Kz c src it 0 π H.length s₁.heap->Q it s₁)
  (h:(s.heap.push o).get? s.heap.objs.size=some o->KU src s.heap.objs.size 0 π H.length (s.heap.push o)):Q (.ref s.heap.objs.size) {s with heap:=s.heap.push o}:=
 have g:=Bp s.heap hf
 k _ _ (Kp.BS _) (λI q=>CV q▸Bx _ (AP _)) ⟨_,rfl,⟨G.Kk,o,g,ho⟩,G.absent (Bx _ (AP _)),h g⟩
theorem KV{S:St}:Ok (ni S v) (Mx c S.H v):=by
 induction v using AV.casesOn with
 |str x=>
  exact .some λA π s E cv G r Q k=>r.str.elim λt ht=>by
   rw[ht]
   cases ha:x.cps.all (· <128) with
   |true=>exact wpAny_pyIter_ascii ha (Jl G (.of ⋯ rfl rfl) rfl k λg=>⟨_,t,x,.inl rfl,⟨_,g,rfl,rfl⟩,rfl⟩)
   |false=>exact wpAny_pyIter_wide ha (Jl G (.of ⋯ rfl rfl) rfl k λg=>⟨_,t,x,.inr rfl,⟨_,g,rfl,rfl⟩,rfl⟩)
 |tup xs=>exact .some λA π s E cv G r Q k=>r.tup.elim λa q=>q.elim λvs q=>q.1.symm▸wpAny_pyIter_tuple q.2.1 (Jl G (.of ⋯ rfl rfl) rfl k λg=>⟨a,.inr ⟨⟨_,g,rfl,rfl⟩,(q.1▸r).push _⟩⟩)
 |lst xs=>exact .some λA π s E cv G r Q k=>r.lst.elim λa q=>q.elim λvs q=>q.1.symm▸RC q.2.1 (Jl G (.of ⋯ rfl rfl) rfl k λg=>⟨a,.inl ⟨⟨_,g,rfl,rfl⟩,(q.1▸r).push _⟩⟩)
 |loc l=>exact listAt.bind λxs e=>.some λA π s E cv G r Q k=>(G.objs l _ e).elim λvs q=>q.elim λkk q=>r.2.symm▸RC ⟨_,q.1,rfl,kk,rfl⟩ (Jl G (.of ⋯ rfl rfl) rfl k λg=>⟨r.1,⟨_,g,rfl,rfl⟩⟩)
 |Gw a b kk=>
  exact .guard λhc=>.some λA π s E cv G r Q k=>r.Gw.elim λad q=>q.2.1.elim λtx h=>h.elim λty h=>h.elim λtz ho=>by
   rw[q.1]
   refine wpAny_pyIter_range ho (Am hc) (Jl G (.of ⋯ rfl rfl) rfl k λg=>⟨Bi (Ax hc),?_⟩)
   rw[show kk*((0:Nat):Int)=0 from V6 _,Ej,show E4 a b kk-((0:Nat):Int)=E4 a b kk from Int.sub_zero _]
   exact g
 |_=>exact .none
theorem Hm(G:Av c π H s)(hI:Kq π s.heap I)(hB:c.B.heap.get? I=none)(he:Hc I s.heap h'):
  BM c π H (λb=>Bq I=.ref b) s {s with heap:=h',toks:=tk}:=
 hI.2.elim λo q=>⟨(Kp.one (s':={s with heap:=h',toks:=tk}) q.1 q.2.ok (λb o' hb e=>he b o' hb e) trivial G.tabs).weaken λb q=>Ai Bq q.symm,λb q=>.inl (CV q▸⟨hI,hB⟩),λl k e q=>AL (CV q▸G.mem l (G.lt e)) hI.1⟩
def NxQ(c:Cx)(src:Src)(it:Ad)(i:Nat)(π:Pl)(n:Nat)(h:Ay)(o:Ab AV)(co:Ab Ad):Prop:=match o with
 |some v=>∃cv,co=some cv/\Kz c src it (i+1) π n h/\As π n h v cv
 |none=>co=none
def NxP(c:Cx)(d:Nat)(H:List AO)(src:Src)(i:Nat)(o:Ab AV):Prop:=∀(A:AG)(π:Pl)(s:Aj)(E:EP)(it:Ad),A5 d A->Av c π H s->Kz c src it i π H.length s.heap->∀Q:Ab Ad->Aj->Prop,
 (∀co s₁,BM c π H (λb=>it=.ref b) s s₁->NxQ c src it i π H.length s₁.heap o co->Q co s₁)->Ae c.m A (pyNext it) Q E s
section
variable{src:Src}{i:Nat}{A:AG}{π:Pl}{s:Aj}{E:EP}{I:Ah}{Q:Ab Ad->Aj->Prop}
theorem vg{fs}(hM:¬ π.M I)(h:∃o,h'.get? I=some o/\o.cls=.type ty/\o.data=.fields fs)(hc:jV ty=true):Kq π h' I:=⟨hM,h.imp λo q=>⟨q.1,.of hc q.2.1 q.2.2⟩⟩
theorem My(G:Av c π H s)(hI:Kq π s.heap I)(hB:c.B.heap.get? I=none)(he:Hc I s.heap h'){fs}(hty:jV ty=true)(hit:∃o,h'.get? I=some o/\o.cls=.type ty/\o.data=.fields fs)
  (k:∀co s₁,BM c π H (λb=>Bq I=.ref b) s s₁->NxQ c src (.ref I) i π H.length s₁.heap (some v) co->Q co s₁)(h:Ju π H.length s.heap π H.length h'->KU src I (i+1) π H.length h'/\As π H.length h' v cv):Q (some cv) {s with heap:=h',toks:=tk}:=
 have K:=Hm G hI hB he
 have q:=h (K.Eo G)
 k _ _ K ⟨cv,rfl,⟨I,rfl,vg hI.1 hit hty,hB,q.1⟩,q.2⟩
theorem Jm{vs:AE Ad}(hr:Ag π n h xs vs.toList)(e:xs[i]?=none):vs[i]?=none:=AE.getElem?_eq_none (hr.size.symm▸bS.mp e)
theorem Kr{vs:AE Ad}(hr:Ag π n h xs vs.toList)(e:xs[i]?=some v):∃w,vs[i]?=some w/\As π n h v w:=(hr.get e).imp λw q=>⟨by simpa using q.1,q.2⟩
theorem eO{src:Src}:Ok (src.at H i) (NxP c d H src i):=by
 induction src using Src.casesOn with
 |lst xs=>
  refine .some λA π s E it R G x Q k=>x.elim λI q=>?_
  rw[q.1] at k ⊢
  refine AH q.2.2.2 λa z=>?_
  cases e:xs[i]? with
  |none=>exact have fin:=λh' he=>k none _ (Hm G q.2.1 q.2.2.1 (h':=h') he) (e▸rfl);z.elim (λz=>z.2.lst.elim λa' y=>y.elim λvs y=>wpAny_pyNext_list_end R.handled z.1 (CV y.1▸y.2.1) (Jm y.2.2.2 e) fin) λz=>z.2.tup.elim λa' y=>y.elim λvs y=>wpAny_pyNext_tuple_end R.handled z.1 (CV y.1▸y.2.1) (Jm y.2.2.2 e) fin
  |some v=>
   rw[e] at k
   exact z.elim (λz=>z.2.lst.elim λa' y=>y.elim λvs y=>(Kr y.2.2.2 e).elim λw u=>wpAny_pyNext_list_item z.1 (CV y.1▸y.2.1) u.1 λh' hit hs=>My G q.2.1 q.2.2.1 hs.extBut ⋯ hit k λS=>⟨⟨a,.inl ⟨hit,z.2.step S⟩⟩,u.2.step S⟩)
    λz=>z.2.tup.elim λa' y=>y.elim λvs y=>(Kr y.2.2.2 e).elim λw u=>wpAny_pyNext_tuple_item z.1 (CV y.1▸y.2.1) u.1 λh' hit hs=>My G q.2.1 q.2.2.1 hs.extBut ⋯ hit k λS=>⟨⟨a,.inr ⟨hit,z.2.step S⟩⟩,u.2.step S⟩
 |loc l=>
  refine listAt.bind λxs ex=>.some λA π s E it R G x Q k=>x.elim λI q=>(G.objs l _ ex).elim λvs y=>y.elim λkk y=>?_
  rw[q.1] at k ⊢
  cases e:xs[i]? with
  |none=>exact wpAny_pyNext_list_end R.handled q.2.2.2.2 ⟨_,y.1,rfl,kk,rfl⟩ (Jm y.2 e) λh' he=>k none _ (Hm G q.2.1 q.2.2.1 (h':=h') he) (e▸rfl)
  |some v=>
   rw[e] at k
   exact(Kr y.2 e).elim λw u=>wpAny_pyNext_list_item q.2.2.2.2 ⟨_,y.1,rfl,kk,rfl⟩ u.1 λh' hit hs=>My G q.2.1 q.2.2.1 hs.extBut ⋯ hit k λS=>⟨⟨q.2.2.2.1,hit⟩,u.2.step S⟩
 |Gw a b kk=>
  refine .some λA π s E it R G x Q k=>x.elim λI q=>?_
  rw[q.1] at k ⊢
  cases e:decide (0<E4 a b kk-i) with
  |false=>exact wpAny_pyNext_range_end R.handled q.2.2.2.2 (DD.mp (Mn e)) λh' he=>k none _ (Hm G q.2.1 q.2.2.1 (h':=h') he) (e▸rfl)
  |true=>
   rw[e] at k
   refine wpAny_pyNext_range_item q.2.2.2.2 (Bi e) λh' hit hs=>My G q.2.1 q.2.2.1 hs.extBut ⋯ ⟨_,hit,rfl,rfl⟩ k λS=>⟨⟨q.2.2.2.1,?_⟩,.mkInt⟩
   rw[show a+kk*((i+1:Nat):Int)=a+kk*i+kk from by rw[Int.natCast_add,NX,<-V3];exact Ai (a+kk*i + ·) (Fd kk),show E4 a b kk-((i+1:Nat):Int)=E4 a b kk-i-1 from by rw[Int.natCast_add];exact(Int.sub_sub ..).symm]
   exact hit
 |str x=>
  refine .some λA π s E it R G x Q k=>x.elim λI q=>AH q.2.2.2 λty z=>z.elim λt z=>z.elim λy z=>?_
  rw[q.1,<-z.2.2] at k
  rw[q.1]
  have hy:y.cps.toList[i]?=y.cps[i]?:=by simp
  cases e:y.cps[i]? with
  |none=>
   have fin:=λh' he=>k none _ (Hm G q.2.1 q.2.2.1 (h':=h') he (tk:=s.toks)) (by rw[hy,e];rfl)
   exact z.1.elim (λw=>wpAny_pyNext_ascii_end R.handled (w▸z.2.1) e fin) λw=>wpAny_pyNext_wide_end R.handled (w▸z.2.1) e fin
  |some ch=>
   rw[hy,e] at k
   exact z.1.elim (λw=>wpAny_pyNext_ascii_item (w▸z.2.1) e λh' hit hs=>My G q.2.1 q.2.2.1 hs.extBut ⋯ hit k λS=>⟨⟨_,t,y,.inl rfl,hit,rfl⟩,.mkStr⟩)
    λw=>wpAny_pyNext_wide_item (w▸z.2.1) e λh' hit hs=>My G q.2.1 q.2.2.1 hs.extBut ⋯ hit k λS=>⟨⟨_,t,y,.inr rfl,hit,rfl⟩,.mkStr⟩
 |zip l ss=>exact λo _ A π s E it R G x Q k=>x.elim λI q=>q.2.2.2.elim
end
end
section
variable{c:Cx}{lo Bv BJ:Lo}
theorem Ok.any{o:Ab α}:Ok o λ_=>True:=λ_ _=>trivial
theorem FA{α β:Type}{o:Ab α}{f:α->Ab β}{y:β}(h:o.bind f=some y):∃a,o=some a/\f a=some y:=by
 induction o using BK with
 |none=>cases h
 |some a=>exact⟨a,rfl,h⟩
def NxT(c:Cx)(t:Expr)(it:Ad)(X:Ah->Prop)(I:Nat->Pl->Nat->Ay->Prop)(A:AG)(i:Nat)(π:Pl)(H:List AO)(s:Aj)(o:Ab AV)(co:Ab Ad)(s₁:Aj):Prop:=match o with
 |some v=>∃cv,co=some cv/\∀(E':EP)(Q':Ce->Aj->Prop),(∀s₂,BM c π H X s s₂->I (i+1) π H.length s₂.heap->As π H.length s₂.heap v cv->Q' () s₂)->Ae c.m A (WB t it cv) Q' E' s₁
 |none=>co=none/\BM c π H X s s₁
structure Pf(c:Cx)(d:Nat)(src:Src)(t:Expr)(it:Ad)(X:Ah->Prop)(I:Nat->Pl->Nat->Ay->Prop):Prop where
 pg:∀{i wr:Nat}{L:Ab Ah}{π π':Pl}{H H':List AO}{s s':Aj},PG c wr L π H s H' π' s'->Av c π H s->C9 s.heap L->I i π H.length s.heap->I i π' H'.length s'.heap
 nx:∀{H:List AO}{i:Nat},Ok (src.at H i) λo=>∀(A:AG)(π:Pl)(s:Aj)(E:EP)(Q:Ab Ad->Aj->Prop),A5 d A->Av c π H s->I i π H.length s.heap->(∀co s₁,NxT c t it X I A i π H s o co s₁->Q co s₁)->Ae c.m A (pyNext it) Q E s
 self:∀{i:Nat}{π:Pl}{n:Nat}{A:AG}{s:Aj}{E:EP}{Q:EP},I i π n s.heap->Q it s->Ae c.m A (Fj it) Q E s
noncomputable def Uo(ty:A3):Aa:=["enumerate","zip","dict_itemiterator","dict_reverseitemiterator","odict_iterator","itertools.zip_longest","itertools.pairwise"].contains ty
set_option backward.match.sparseCases true in
theorem eP(h:∃o,s.heap.get? I=some o/\o.cls=.type ty)
  (hn:Uo ty=false)(hq:Q () s):Ae c.m A (WB t (.ref I) cv) Q E s:=by
 have main:Ae c.m A (do
   let (.ref r,.ref a):=((Bq I,cv):Ad×Ad) | return
   let o <-load r
   match o.cls,o.data with
   |.type n,.fields vs=>
    if ["enumerate","zip","dict_itemiterator","dict_reverseitemiterator","odict_iterator","itertools.zip_longest","itertools.pairwise"].contains n&&vs[0]?==some (D1 a) then
     rule "for.unpacks-the-owned-tuple"
     updateField r 0 .none
   |_,_=>pure ()) Q E s:=by
  rcases cv with ⟨⟩<;>first | exact An hq | skip
  refine h.elim λo q=>Ac (Oj q.1 ?_)
  rw[q.2]
  rcases o.data with ⟨⟩<;>first | exact An hq | skip
  refine(show Ae _ A (if (Uo ty&&_)=true then _ else _) Q E s from ?_)
  rw[hn]
  exact An hq
 rcases t with ⟨⟩<;>first | exact An hq | exact main
theorem KU.cls(x:KU src I i π n h):∃ty,(∃o,h.get? I=some o/\o.cls=.type ty)/\Uo ty=false:=by
 have cl:∀{ty:A3}{fs},(∃o,h.get? I=some o/\o.cls=.type ty/\o.data=.fields fs)->Uo ty=false->∃ty,(∃o,h.get? I=some o/\o.cls=.type ty)/\Uo ty=false:=λq e=>⟨_,q.imp λo q=>⟨q.1,q.2.1⟩,e⟩
 induction src using Src.casesOn with
 |lst xs=>exact AH x λa z=>z.elim (λz=>cl z.1 ⋯) λz=>cl z.1 ⋯
 |loc l=>exact cl x.2 ⋯
 |Gw a b k=>exact⟨_,⟨_,x.2,rfl⟩,by decide +kernel⟩
 |str x=>exact AH x λty z=>z.elim λt z=>z.elim λy z=>cl z.2.1 (z.1.elim (λe=>e▸⋯) λe=>e▸⋯)
 |zip _ _=>exact x.elim
theorem Kz.self(x:Kz c src it i π n s.heap)(q:Q it s):Ae c.m A (Fj it) Q E s:=x.elim λI z=>by
 rw[z.1] at q ⊢
 have h:=z.2.2.2
 induction src using Src.casesOn with
 |lst xs=>exact AH h λa h=>h.elim (λh=>Ws h.1 q) λh=>wpAny_pyIter_tupleiter h.1 q
 |loc l=>exact Ws h.2 q
 |Gw a b k=>exact wpAny_pyIter_rangeiter h.2 q
 |str x=>exact AH h λty h=>h.elim λt h=>h.elim λy h=>h.1.elim (λe=>wpAny_pyIter_striter_ascii (e▸h.2.1) q) λe=>wpAny_pyIter_striter_wide (e▸h.2.1) q
 |zip _ _=>exact h.elim
theorem Kz.iter(src:Src)(t:Expr)(it:Ad):Pf c d src t it (λb=>it=.ref b) (λi π n h=>Kz c src it i π n h) where
 pg:=λP G hL x=>x.pg P G hL
 nx:=eO.mono λo h A π s E Q R G x k=>h A π s E it R G x Q λco s₁ K q=>by
  refine k co s₁ ?_
  induction o using BK with
  |none=>exact⟨q,K⟩
  |some v=>exact WT (λcv q=>⟨q.1,λE' Q' k'=>q.2.1.elim λI z=>z.2.2.2.cls.elim λty y=>by rw[z.1];exact eP y.1 y.2 (k' s₁ K q.2.1 q.2.2)⟩) q
 self:=Kz.self
theorem AF.eQ{a:AF}(h:a.GB=false):a=.brk\/∃v,a=.ret v:=by
 cases a with
 |brk=>exact .inl rfl
 |ret v=>exact .inr ⟨v,rfl⟩
 |_=>rcases h with ⟨⟩
theorem AF.jW{a:AF}(h:a.GB=true):a=.next\/a=.cont:=by rcases a with ⟨⟩<;>first | exact .inl rfl | exact .inr rfl | rcases h with ⟨⟩
theorem Nz(Sd:Bl c d r):∀{i:Nat}{lo:Lo}{S:St},Ok (forL r fr src t body k i lo S) λx=>(x.S.ob=true->S.ob=true)/\(x.fl=.next\/x.fl.GB=false):=by
 induction k with
 |zero=>exact .none
 |succ k ih=>
  exact λ{i lo S}=>Ok.any.bind λo _=>by
   induction o using BK with
   |none=>exact .some ⟨id,.inl rfl⟩
   |some v=>exact(Ny (c:=c) (d:=d)).bind λp q=>(MR Sd).bind λx i=>.cond (λ_=>ih.mono λy j=>⟨λo=>q.2▸(i (j.1 o)).1,j.2⟩) λh=>.some ⟨λo=>q.2▸(i o).1,.inr h⟩
theorem Bm{G:Prop}(h:∀P:Prop,(G->P)->P):G:=h G id
def vh(c:Cx)(fr:FD)(r:Ev)(src:Src)(t:Expr)(body:List Az)(x:Rx)(L₀:Ah)(env:Env)(π₀:Pl)(H₀:List AO)(s₀:Aj)(I:Nat->Pl->Nat->Ay->Prop)(n:Nat)(s:Aj):Prop:=
 ∃i lo S π,forL r fr src t body n i lo S=some x/\PG c fr.wr (some L₀) π₀ H₀ s₀ S.H π s/\Bu π S.H.length fr env/\Br c π S.H.length s.heap L₀ lo/\I i π S.H.length s.heap
theorem Up(g:a.GB=true)(r:ak π n h a cf):cf=.next\/cf=.cont:=(AF.jW g).elim (λw=>by rw[w] at r;exact .inl r) λw=>by rw[w] at r;exact .inr r
theorem QF(g:a.GB=false)(r:ak π n h a cf):(a=.brk/\cf=.brk)\/∃v cv,a=.ret v/\cf=.ret cv/\As π n h v cv:=(AF.eQ g).elim (λw=>by rw[w] at r;exact .inl ⟨w,r⟩) λw=>w.elim λv w=>by rw[w] at r;exact .inr (AH r λcv q=>⟨v,cv,w,q.1,q.2⟩)
theorem Xi(Sd:Bl c d r)(IP:Pf c d src t it X I)
  (h:forL r fr src t body k 0 lo S=some x)(ho:x.S.ob=true)(R:A5 d A)(hX:∀b,X b->s₀.heap.get? b=none)
  (hE:∀s' π' cf,PG c fr.wr (some env.locals) π₀ H₀ s₀ x.S.H π' s'->Bu π' x.S.H.length fr env->Br c π' x.S.H.length s'.heap env.locals x.lo->ak π' x.S.H.length s'.heap x.fl cf->match x.fl with
   |.next=>Ae c.m A (execs orelse env) (λf s₃=>RR (.ok f) s₃) (J5 c.m A env λe s'=>RR (.error e) s') s'
   |.brk=>RR (.ok .next) s'
   |.cont=>True
   |.ret _=>RR (.ok cf) s')
  (P:PG c fr.wr (some env.locals) π₀ H₀ s₀ S.H π s)(F:Bu π S.H.length fr env)(L:Br c π S.H.length s.heap env.locals lo)(x₀:I 0 π S.H.length s.heap):
  EO c.m A (.forLoop t it body orelse env) RR s:=by
 refine codeAny_forLoop_any (vh c fr r src t body x env.locals env π₀ H₀ s₀ I) (λn s h=>Bm λGG fin=>?_) k ⟨0,lo,S,π,h,P,F,L,x₀⟩
 refine AH h λi h=>h.elim λlo h=>h.elim λS h=>h.elim λπ h=>?_
 induction n using LR with
 |zero=>cases h.1
 |succ n=>
  refine(FA h.1).elim λo q=>fin (IP.nx o q.1 A π s _ _ R h.2.1.g h.2.2.2.2 λco s₁ hn=>?_)
  induction o using BK with
  |none=>
   cases q.2
   rw[hn.1]
   exact hE s₁ π .next (h.2.1.step hn.2 hX) h.2.2.1 (hn.2.l h.2.1.g h.2.2.2.1) rfl
  |some v=>
   refine Bm λGG fin=>(FA q.2).elim λp q=>(FA q.2).elim λy z=>AH hn λcv hn=>?_
   have bx:=MR Sd y z.1
   have oy:y.S.ob=true:=by
    have e:=z.2
    cases g:y.fl.GB with
    |true=>rw[g] at e;exact(Nz Sd x e).1 ho
    |false=>rw[g] at e;exact(AQ e).symm▸ho
   refine fin ?_
   rw[hn.1]
   refine hn.2 _ _ λs₂ K x₂ r₂=>?_
   have P₂:=h.2.1.step K hX
   have L₂:=K.l h.2.1.g h.2.2.2.1
   refine AJ ((Ny p q.1).1 A env π s₂ _ cv R h.2.2.1 P₂.g L₂ r₂) (λ_ s₃ u=>(bx oy).2.Ng R (u.1.fr h.2.2.1) u.1.g u.2.1 λcf s₄ π₄ P₄ F₄ L₄ r₄=>Bm λGG fin=>?_) λ_ _ x=>x
   have P₅:=(P₂.trans u.1).trans P₄
   have e:=z.2
   cases g:y.fl.GB with
   |true=>
    rw[g] at e
    have N:∃m,m<n+1/\vh c fr r src t body x env.locals env π₀ H₀ s₀ I m s₄:=⟨n,CF n,i+1,y.lo,y.S,π₄,e,P₅,F₄,L₄,IP.pg P₄ u.1.g u.2.1.dict (IP.pg u.1 P₂.g L₂.dict x₂)⟩
    exact fin ((Up g r₄).elim (λw=>by rw[w];exact N) λw=>by rw[w];exact N)
   |false=>
    rw[g] at e
    cases AQ e
    have z:=hE s₄ π₄ cf P₅ F₄ L₄ r₄
    exact fin ((QF g r₄).elim (λw=>by rw[w.1] at z;exact w.2▸z) λw=>w.elim λv w=>w.elim λcv w=>by rw[w.1,w.2.1] at z;exact w.2.1▸z)
def Ph(c:Cx)(d:Nat)(fr:FD)(lo:Lo)(H:List AO)(e:Expr)(t:Expr)(src:Src)(H':List AO):Prop:=
 ∀(A:AG)(env:Env)(π:Pl)(s:Aj)(E:EP),A5 d A->Bu π H.length fr env->Av c π H s->Br c π H.length s.heap env.locals lo->
  Ae c.m A (eval e env) (λx s₁=>Ae c.m A (Fj x) (λit s₂=>∃π' X I,PG c fr.wr none π H s H' π' s₂/\(∀b,X b->s.heap.get? b=none)/\Pf c d src t it X I/\I 0 π' H'.length s₂.heap) E s₁) E s
theorem Ph.base(he:Bt c d fr lo H e v H1)(hs:Mx c H1 v src):Ph c d fr lo H e t src H1:=
 λA env π s E R F G L=>he.use R F G L λcv s₁ π₁ P₁ F₁ L₁ r₁=>hs A π₁ s₁ E cv P₁.g r₁ _ λit s₂ K hf x=>⟨π₁,λb=>it=.ref b,λi π n h=>Kz c src it i π n h,P₁.DU K,λb q=>P₁.gone (hf b q),Kz.iter src t it,x⟩
theorem JH(h:Gp e=true)(env:Env)(x:Ad):foldedSetIterable e env x=pure x:=by
 rcases e with ⟨⟩<;>first | rfl | exact ff h
theorem Uq(h:x.fl=.ret v):IQ x=x:=by unfold IQ;rw[h];rfl
theorem Ur(h:x.fl=.brk):IQ x=⟨.next,x.lo,x.S⟩:=by unfold IQ;rw[h];rfl
theorem eU:(IQ x).S=x.S:=by unfold IQ;rcases x.fl.mY with ⟨⟩<;>rfl
theorem Fb.vk(Sd:Bl c d r)(hit:Ph c d fr lo H it t src S1.H)(hn:Gp it=true)
  (hl:forL r fr src t body k 0 lo S1=some x)(ho:x.S.ob=true)(hy:(x.fl=.next/\Km c d fr x.lo x.S.H orelse y.fl y.lo y.S.H)\/(x.fl.GB=false/\y=IQ x)):
  Fb c d fr lo H (.For t it body orelse p) y.fl y.lo y.S.H:=by
 intro A env π s E R F G L
 refine wpAny_For (AJ (hit A env π s E R F G L) (λx s₁ h₁=>AJ h₁ (λitv s₂ h₂=>?_) λ_ _ x=>x) λ_ _ x=>x) (JH hn env)
 refine h₂.elim λπ₂ q=>q.elim λX q=>q.elim λI q=>Xi Sd q.2.2.1 hl ho R q.2.1 (λs₃ π₃ cf P₃ F₃ L₃ r₃=>?_) q.1.any (q.1.fr F) (L.pg q.1 G) q.2.2.2
 refine hy.elim (λz=>?_) λz=>(AF.eQ z.1).elim (λw=>?_) λw=>w.elim λv w=>?_
 ·rw[z.1];exact z.2.Ng R F₃ P₃.g L₃ λcf s₄ π₄ P₄ F₄ L₄ r₄=>⟨π₄,P₃.trans P₄,L₄,r₄⟩
 ·rw[z.2,Ur w,w];exact⟨π₃,P₃,L₃,rfl⟩
 ·rw[z.2,Uq w,w];exact⟨π₃,P₃,L₃,w▸r₃⟩
theorem QG(Sd:Bl c d r):∀{lo:Lo}{S:St},Ok (Hk r fr t body k lo S) λx=>x.S.ob=true->S.ob=true:=by
 induction k with
 |zero=>exact .none
 |succ k ih=>exact λ{lo S}=>(Sd.T fr lo S t).bind λb j=>.cond (λ_=>(MR Sd).bind λx i=>.cond (λ_=>ih.mono λy z o=>(j (i (z o)).1).1) λ_=>.some λo=>(j (i o).1).1) λ_=>.some λo=>(j o).1
def WhI(c:Cx)(fr:FD)(r:Ev)(t:Expr)(body:List Az)(x:Rx)(L₀:Ah)(env:Env)(π₀:Pl)(H₀:List AO)(s₀:Aj)(n:Nat)(s:Aj):Prop:=
 ∃lo1 S1 π1,Hk r fr t body n lo1 S1=some x/\PG c fr.wr (some L₀) π₀ H₀ s₀ S1.H π1 s/\Bu π1 S1.H.length fr env/\Br c π1 S1.H.length s.heap L₀ lo1
theorem Fb.pT(Sd:Bl c d r)(h:Hk r fr t body k lo S=some x)(ho:x.S.ob=true):
  Fb c d fr lo S.H (.While t body [] p) (IQ x).fl (IQ x).lo (IQ x).S.H:=by
 intro A env π s E R F G L
 refine wpAny_While (codeAny_whileLoop (WhI c fr r t body x env.locals env π S.H s) (λn s₁ h=>Bm λGG fin=>?_) k ⟨lo,S,π,h,.refl G,F,L⟩)
 refine AH h λlo1 h=>h.elim λS1 h=>h.elim λπ₁ h=>?_
 induction n using LR with
 |zero=>cases h.1
 |succ n=>
  refine(FA h.1).elim λb q=>?_
  have tx:=Sd.T fr lo1 S1 t b q.1
  have e:=q.2
  cases g:b.v with
  |false=>
   rw[g] at e
   cases AQ e
   refine fin ((tx ho).2.use R h.2.2.1 h.2.1.g h.2.2.2 λs₂ π₂ P₂ F₂ L₂=>?_)
   rw[g]
   exact WC ⟨π₂,h.2.1.trans P₂.any,L₂,rfl⟩
  |true=>
   rw[g] at e
   refine(FA e).elim λy z=>?_
   have bx:=MR Sd y z.1
   have e:=z.2
   have oy:y.S.ob=true:=by
    cases g:y.fl.GB with
    |true=>rw[g] at e;exact QG Sd x e ho
    |false=>rw[g] at e;exact(AQ e).symm▸ho
   refine fin ((tx (bx oy).1).2.use R h.2.2.1 h.2.1.g h.2.2.2 λs₂ π₂ P₂ F₂ L₂=>?_)
   rw[g]
   refine(bx oy).2.Ng R F₂ P₂.g L₂ λcf s₃ π₃ P₃ F₃ L₃ r₃=>Bm λGG fin=>?_
   have P:=(h.2.1.trans P₂.any).trans P₃
   cases g:y.fl.GB with
   |true=>
    rw[g] at e
    have N:∃m,m<n+1/\WhI c fr r t body x env.locals env π S.H s m s₃:=⟨n,CF n,y.lo,y.S,π₃,e,P,F₃,L₃⟩
    exact fin ((Up g r₃).elim (λw=>by rw[w];exact N) λw=>by rw[w];exact N)
   |false=>
    rw[g] at e
    cases AQ e
    exact fin ((QF g r₃).elim (λw=>w.2▸by rw[Ur w.1];exact⟨π₃,P,L₃,rfl⟩) λw=>w.elim λv w=>w.elim λcv w=>w.2.1▸by rw[Uq w.1,w.1];exact⟨π₃,P,L₃,cv,rfl,w.2.2⟩)
end
section
variable{c:Cx}{d:Nat}{fr:FD}{lo Bv BJ:Lo}{H H' EZ H1 H2 H3:List AO}
theorem aA(I:Nat->Aj->Prop)
  (turn:∀n s,I n s->Ae (AW prog w) A (pyNext it) (λr s₁=>match r with
   |none=>R (.ok .next) s₁
   |some v=>Ae (AW prog w) A (WB target it v) (λ_ s₁'=>Ae (AW prog w) A (assign target env v) (λ_ s₂=>
     Ae (AW prog w) A (forIn ifs true λc r=>if r=true then do let ok <-isTrue c env (eval c env);pure (Gj ok) else pure (Gj r)) (λok s₃=>
      if ok=true then Ae (AW prog w) A (eval elt env) (λx s₄=>
       Ae (AW prog w) A (call (.builtin "list.append") [acc,x]) (λ_ s₅=>∃m,m<n/\I m s₅) (J5 (AW prog w) A env λe s'=>R (.error e) s') s₄) (J5 (AW prog w) A env λe s'=>R (.error e) s') s₃
      else ∃m,m<n/\I m s₃) (J5 (AW prog w) A env λe s'=>R (.error e) s') s₂) (J5 (AW prog w) A env λe s'=>R (.error e) s') s₁')
     (J5 (AW prog w) A env λe s'=>R (.error e) s') s₁) (J5 (AW prog w) A env λe s'=>R (.error e) s') s)
  (n:Nat)(h:I n s):EO (AW prog w) A (.compLoop (.ListComp elt [⟨target,iter,ifs,0⟩] scope pos) 0 it acc env) R s:=by
 refine codeAny_loop rfl I (λn s hI=>?_) n h
 refine wpAny_noted ?_
 rw[compTurn_list]
 refine Ac (DN (Ac (AJ (turn n s hI) (λr s₁ h₁=>?_) λ_ _ h'=>h')))
 induction r using BK with
 |none=>exact An h₁
 |some v=>
  refine Ac (AJ h₁ (λ_ s₁' h₁'=>?_) λ_ _ h'=>h')
  refine Ac (AJ h₁' (λ_ s₂ h₂=>Ac (AJ h₂ (λok s₃ h₃=>?_) λ_ _ h'=>h')) λ_ _ h'=>h')
  induction ok using Ei with
  |false=>exact An ⟨rfl,h₃⟩
  |true=>
   exact Ac (Ac (AJ h₃ (λx s₄ h₄=>Ac (AJ h₄ (λ_ s₅ h₅=>An (An ⟨rfl,h₅⟩)) λ_ _ h'=>h')) λ_ _ h'=>h'))
theorem aB(ts:List Expr)(h:Q false s):
  Ae c.m A (forIn ts false λc r=>if r=true then do let ok <-isTrue c env (eval c env);pure (Gj ok) else pure (Gj r)) Q E s:=by
 induction ts with
 |nil=>exact An h
 |cons t ts ih=>rw[FO,AD BI];exact Ac (An ih)
def Aah(c:Cx)(d:Nat)(fr:FD)(lo:Lo)(H:List AO)(ts:List Expr)(b:Aa)(H':List AO):Prop:=
 ∀(A:AG)(env:Env)(π:Pl)(s:Aj)(E:EP)(Q:Aa->Aj->Prop),A5 d A->Bu π H.length fr env->Av c π H s->Br c π H.length s.heap env.locals lo->
  (∀s₁ π₁,PG c fr.wr none π H s H' π₁ s₁->Bu π₁ H'.length fr env->Br c π₁ H'.length s₁.heap env.locals lo->Q b s₁)->
  Ae c.m A (forIn ts true λc r=>if r=true then do let ok <-isTrue c env (eval c env);pure (Gj ok) else pure (Gj r)) Q E s
theorem YS(Sd:Bl c d r):∀{S:St},Ok (SE r fr lo S ts) λx=>AX S x.S (Aah c d fr lo S.H ts x.v x.S.H):=by
 induction ts with
 |nil=>exact .some (.mk λA env π s E Q R F G L k=>An (k s π (.refl G) F L))
 |cons t ts ih=>
  intro S
  refine(Sd.T fr lo S t).bind λx i=>.cond (λhv=>ih.mono λy j=>AX.bind i j λi j A env π s E Q R F G L k=>?_) λhv=>.some (AX.imp i λi A env π s E Q R F G L k=>?_)
  ·rw[FO,Bh rfl]
   exact Ac (Ac (i.use R F G L λs₁ π₁ P₁ F₁ L₁=>An (hv▸j A env π₁ s₁ E Q R F₁ P₁.g L₁ λs₂ π₂ P₂ F₂ L₂=>k s₂ π₂ (P₁.trans P₂) F₂ L₂)))
  ·rw[FO,Bh rfl]
   exact Ac (Ac (i.use R F G L λs₁ π₁ P₁ F₁ L₁=>An (by
    have k:=k s₁ π₁ P₁ F₁ L₁
    rw[hv] at k ⊢
    exact aB ts k)))
theorem By.add{Cc:List (Str×Nat)}(hok:By π n acc Cc)(hl:l<n):By π n ((x,π.at' l)::acc) ((x,l)::Cc):=
 ⟨λy hy=>by
  rw[Dk,Dk]
  induction y==x using Ei with
  |true=>rfl
  |false=>exact hok.1 y hy,λy l' h=>by
  rw[Dk] at h
  cases e:y==x with
  |true=>rw[e] at h;exact AQ h▸hl
  |false=>rw[e] at h;exact hok.2 y l' h⟩
theorem aC(names:List (Str×BX)):∀(Cc:List (Str×Nat)),Ok (Cy fr names Cc) λfc=>∀{env:Env}{π:Pl}{n:Nat}(acc:List (Str×Ah)),Bu π n fr env->By π n acc Cc->acc.lookup ("__class__" :Str)=none->
  ∃cl,(forIn names acc λ(x:Str×BX) (cs:List (Str×Ah))=>(match x with | (name,kind)=>if kind==.free then (do let a <-cellOf env name;pure (Gj ((name,a)::cs))) else pure (Gj cs):Sem (En (List (Str×Ah)))))=pure cl/\
   By π n cl fc/\cl.lookup ("__class__" :Str)=none:=by
 induction names with
 |nil=>exact λCc=>.some λacc F hok hc=>⟨acc,rfl,hok,hc⟩
 |cons p t ih=>
  have step:∀{b:Aa},isFree p.2=b->(p.2==BX.free)=b:=λe=>e▸by rcases p.2 with ⟨⟩<;>rfl
  refine λCc=>.cond (λhk=>.guard λhb=>Ok.self.bind λl hl=>(ih _).mono λfc i=>λ{env π n} acc F hok hc=>?_) λhk=>(ih _).mono λfc i=>λ{env π n} acc F hok hc=>?_
  ·have hd:=Nw (HN hb)
   have hl:=(D9 ..).symm.trans hl
   have e1:cellOf env p.1=pure (π.at' l):=by unfold cellOf;rw[F.cells p.1 hd.2.1,hl];rfl
   have hc':((p.1,π.at' l)::acc).lookup ("__class__" :Str)=none:=by
    rw[Dk,show(("__class__" :Str)==p.1)=false from Gx.mpr λq=>by have h:=hd.2.1;rw[<-eq_of_beq q,Ke] at h;cases h]
    exact hc
   refine(i _ F (hok.add (F.lt p.1 l hl)) hc').imp λcl q=>⟨?_,q.2⟩
   rw[FO]
   show((if (p.2==BX.free)=true then _ else _)>>=_)=_
   rw[step hk,Bh rfl,e1]
   exact q.1
  ·refine(i acc F hok hc).imp λcl q=>⟨?_,q.2⟩
   rw[FO]
   show((if (p.2==BX.free)=true then _ else _)>>=_)=_
   rw[step hk,AD BI]
   exact q.1
theorem JI:Ok (Cy fr sc.names []) λfc=>∀{env:Env}{π:Pl}{n:Nat},Bu π n fr env->∃cl,Ma sc env=pure cl/\By π n cl fc/\cl.lookup ("__class__" :Str)=none:=
 (aC sc.names []).mono λfc h=>λ{env π n} F=>(h [] F ⟨λ_ _=>rfl,λ_ _ q=>nomatch q⟩ rfl).imp λcl q=>⟨by
  unfold Ma
  exact(Ai (λm=>m>>=λcs=>(pure cs:Sem (List (Str×Ah)))) q.1).trans (pure_bind _ _),q.2⟩
end
section
variable{c:Cx}{d:Nat}{fr:FD}{lo Bv BJ:Lo}{H H' EZ H1 H2 H3:List AO}
theorem Ag.snoc{vs:AE Ad}(hv:Ag π n h xs vs.toList)(r:As π n h v cv):Ag π n h (xs++[v]) (vs.push cv).toList:=by
 rw[AE.toList_push];exact hv.append (.cons r .nil)
theorem jX(e:H[l]?=some (.list xs))(hsz:xs.length<100000)(hw:wr<=l)(G:Av c π H s)
  (r:As π H.length s.heap v cv)(k:∀s₁,PG c wr none π H s (H.set l (.list (xs++[v]))) π s₁->Q .none s₁):
  Ae c.m A (call (.builtin "list.append") [.ref (π.at' l),cv]) Q E s:=
 (G.objs l _ e).elim λvs q=>q.elim λn q=>Il RF ⟨_,q.1,rfl⟩ Wy (WA _ _) (list_append (π.at' l) vs n cv (by rw[q.2.size];exact AA (DY hsz) ⋯))
  ⟨q.1,k _ (CY (o:=.list (xs++[v])) (f:=C6 λx=>x.push cv) G (G.lt e) hw q.1 (.data nofun) (.data nofun) rfl s.toks λh' S e'=>⟨vs.push cv,_,e',(q.2.step S).snoc (r.step S)⟩).1⟩
theorem QH:Ok (Kj S acc v) λS'=>∃xs,S.H[acc]?=some (.list xs)/\xs.length<100000/\S'=setAt S acc (.list (xs++[v])):=listAt.bind λxs e=>.guard λh=>.some ⟨xs,e,EH (Bi h) ⋯,rfl⟩
theorem Pj(Sd:Bl c d r):∀{i:Nat}{lo:Lo}{S:St},Ok (Ey r fr acc src t ifs elt k i lo S) λS'=>S'.ob=true->S.ob=true:=by
 induction k with
 |zero=>exact .none
 |succ k ih=>
  exact λ{i lo S}=>Ok.any.bind λo _=>by
   induction o using BK with
   |none=>exact .some id
   |some v=>exact(Ny (c:=c) (d:=d)).bind λp q=>(YS Sd).bind λb j=>.cond (λ_=>(Sd.E _ _ _ _).bind λx i=>QH.bind λS' w=>ih.mono λy z o=>q.2▸(j (i (w.elim λxs w=>(show S'.ob=x.S.ob by rw[w.2.2];rfl)▸z o)).1).1) λ_=>ih.mono λy z o=>q.2▸(j (z o)).1
def vm(c:Cx)(fr:FD)(r:Ev)(acc:Nat)(src:Src)(t:Expr)(ifs:List Expr)(elt:Expr)(S':St)(wr:Nat)(L₀:Ah)(env:Env)(π₀:Pl)(H₀:List AO)(s₀:Aj)(I:Nat->Pl->Nat->Ay->Prop)(a:Ah)(π₂:Pl)(n₂:Nat)(H₂:List AO)(n:Nat)(s:Aj):Prop:=
 ∃i lo S π,Ey r fr acc src t ifs elt n i lo S=some S'/\PG c wr (some L₀) π₀ H₀ s₀ S.H π s/\Bu π S.H.length fr env/\Br c π S.H.length s.heap L₀ lo/\I i π S.H.length s.heap/\acc<S.H.length/\π.at' acc=a/\LG π₂ n₂ H₂ π S.H
theorem Us(Sd:Bl c d r)(IP:Pf c d src t it X I)
  (h:Ey r fr acc src t ifs elt k 0 lo S=some S')(ho:S'.ob=true)(R:A5 d A)(hX:∀b,X b->s₀.heap.get? b=none)
  (hw:wr<=fr.wr)(hwa:wr<=acc)(hn₂:n₂<=fr.wr)(hna:n₂<=acc)
  (hR:∀Bv s' π',PG c wr (some env.locals) π₀ H₀ s₀ S'.H π' s'->LG π₂ n₂ H₂ π' S'.H->Br c π' S'.H.length s'.heap env.locals Bv->acc<S'.H.length->π'.at' acc=a->RR (.ok .next) s')
  (P:PG c wr (some env.locals) π₀ H₀ s₀ S.H π s)(F:Bu π S.H.length fr env)(L:Br c π S.H.length s.heap env.locals lo)(x:I 0 π S.H.length s.heap)(hacc:acc<S.H.length)(ha:π.at' acc=a)(D:LG π₂ n₂ H₂ π S.H):
  EO c.m A (.compLoop (.ListComp elt [⟨t,iter,ifs,0⟩] sc pos) 0 it (.ref a) env) RR s:=by
 refine aA (vm c fr r acc src t ifs elt S' wr env.locals env π₀ H₀ s₀ I a π₂ n₂ H₂) (λn s h=>Bm λGG fin=>?_) k ⟨0,lo,S,π,h,P,F,L,x,hacc,ha,D⟩
 refine AH h λi h=>h.elim λlo h=>h.elim λS h=>h.elim λπ h=>?_
 induction n using LR with
 |zero=>cases h.1
 |succ n=>
  refine(FA h.1).elim λo q=>fin (IP.nx o q.1 A π s _ _ R h.2.1.g h.2.2.2.2.1 λco s₁ hn=>?_)
  induction o using BK with
  |none=>
   cases q.2
   rw[hn.1]
   exact hR lo s₁ π (h.2.1.step hn.2 hX) h.2.2.2.2.2.2.2 (hn.2.l h.2.1.g h.2.2.2.1) h.2.2.2.2.2.1 h.2.2.2.2.2.2.1
  |some v=>
   refine Bm λGG fin=>(FA q.2).elim λp q=>(FA q.2).elim λb z=>AH hn λcv hn=>?_
   have bi:=YS Sd b z.1
   have e:=z.2
   refine fin ?_
   rw[hn.1]
   refine hn.2 _ _ λs₂ K x₂ r₂=>?_
   have P₂:=h.2.1.step K hX
   have L₂:=K.l h.2.1.g h.2.2.2.1
   refine AJ ((Ny p q.1).1 A env π s₂ _ cv R h.2.2.1 P₂.g L₂ r₂) (λ_ s₃ u=>Bm λGG fin=>?_) λ_ _ x=>x
   have D₃:=h.2.2.2.2.2.2.2.pg P₂.g u.1 hn₂
   have x₃:=IP.pg u.1 P₂.g L₂.dict x₂
   have P03:=P₂.trans (u.1.Kl hw)
   have YT:=BW h.2.2.2.2.2.1 u.1.le
   cases g:b.v with
   |true=>
    rw[g] at e
    refine(FA e).elim λy z=>have ye:=z.1;(FA z.2).elim λS₆ z=>(QH S₆ z.1).elim λxs w=>?_
    have oy:=(show S₆.ob=y.S.ob by rw[w.2.2];rfl)▸Pj Sd S' z.2 ho
    have ev:=Sd.E _ _ _ _ y ye oy
    refine fin ((bi ev.1).2 A env π s₃ _ _ R (u.1.fr h.2.2.1) u.1.g u.2.1 λs₄ π₄ P₄ F₄ L₄=>?_)
    rw[g,Bh rfl]
    refine ev.2.use R F₄ P₄.g L₄ λcx s₅ π₅ P₅ F₅ L₅ r₅=>?_
    have nM:=BW YT P₄.le
    have ha5:π₅.at' acc=a:=by rw[P₅.agree acc nM,P₄.agree acc YT];exact h.2.2.2.2.2.2.1
    rw[<-ha5]
    refine jX w.1 w.2.1 (Nat.max_le.mpr ⟨hwa,hna⟩) P₅.g r₅ λs₆ P₆=>?_
    have e6:S₆.H=y.S.H.set acc (.list (xs++[y.v])):=by rw[w.2.2];rfl
    rw[<-e6] at P₆
    have P05:=(P03.trans (P₄.any.Kl hw)).trans (P₅.any.Kl hw)
    exact⟨n,CF n,i+1,p.v,S₆,π₅,z.2,P05.trans (P₆.any.Kl (LP _ _)),P₆.fr F₅,L₅.pg P₆ P₅.g,IP.pg P₆ P₅.g C9.none (IP.pg P₅ P₄.g C9.none (IP.pg P₄ u.1.g C9.none x₃)),BW nM (AA P₅.le P₆.le),rfl,
     ((D₃.pg u.1.g P₄ hn₂).pg P₄.g P₅ hn₂).pg P₅.g P₆ (LO _ _)⟩
   |false=>
    rw[g] at e
    refine fin ((bi (Pj Sd S' e ho)).2 A env π s₃ _ _ R (u.1.fr h.2.2.1) u.1.g u.2.1 λs₄ π₄ P₄ F₄ L₄=>?_)
    rw[g,AD BI]
    exact⟨n,CF n,i+1,p.v,b.S,π₄,e,P03.trans (P₄.any.Kl hw),F₄,L₄,IP.pg P₄ u.1.g C9.none x₃,BW YT P₄.le,(P₄.agree acc YT).trans h.2.2.2.2.2.2.1,D₃.pg u.1.g P₄ hn₂⟩
end
section
variable{c:Cx}{d:Nat}{fr:FD}{lo Bv BJ:Lo}{H H' EZ H1 H2 H3:List AO}
theorem Qh
  (h:∀f:Str×BX->List (Str×Ah)->Sem (En (List (Str×Ah))),(∀name kind cells,f (name,kind) cells=if kind==.cell then (do let a <-alloc {cls:=.type "cell",data:=.cell none};pure (.yield ((name,a)::cells))) else pure (.yield cells))->
   Ae M A (forIn scope.names closure f) (λcells s₁=>Q {scope,locals:=s.heap.objs.size,globals,cells,qual,func:=none,code:=outer.code,frame:=outer.frame,builtins:=outer.builtins} s₁) E
    {s with heap:=s.heap.push {cls:=.type "dict",data:=.dict #[]}}):
  Ae M A (Od scope globals closure [] qual none .none (some outer)) Q E s:=by
 simp only[Od,Ab.isSome_some,if_true]
 refine Ac (wpAny_alloc ?_)
 refine Ac (AJ (h _ λname kind cells=>by rcases kind with ⟨⟩<;>rfl) (λcells s₁ h₁=>?_) λ_ _ x=>x)
 rw[LL]
 exact Ac (An (An h₁))
theorem jY(F:Bu π n fr env)(names:List (Str×BX)):(names.map λ(x,k)=>if (k==.free&&env.scope.kind==.function&&env.kindOf x==some .cell) then (x,BX.cell) else (x,k))=T8 fr names:=by
 induction names with
 |nil=>rfl
 |cons p t ih=>
  obtain ⟨x,k⟩:=p
  have hk:env.kindOf x=CX fr x:=by unfold Sg CX;rw[F.scope,D9]
  have hs:(env.scope.kind==RW.function)=true:=by rw[F.kd];rfl
  rw[EF,ih]
  show(if (k==BX.free&&env.scope.kind==RW.function&&env.kindOf x==some BX.cell)=true then (x,BX.cell) else (x,k))::T8 fr t=cond (isFree k) ((x,cond (Bz (CX fr x) EY) .cell .free)::T8 fr t) ((x,k)::T8 fr t)
  rw[hk,hs,NR]
  cases k with
  |free=>induction CX fr x using BK with
   |none=>rfl
   |some q=>rcases q with ⟨⟩<;>rfl
  |_=>rfl
theorem DL(h:isLocal k=true):k=.local:=by rcases k with ⟨⟩<;>first | rfl | exact ff h
theorem A0{p:α->Aa}(h:Bz o p=true):∃a,o=some a/\p a=true:=by
 induction o using BK with
 |none=>cases h
 |some a=>exact⟨a,rfl,h⟩
theorem eW(h:Qw all names=true)(x)(hx:x∈names)(hl:x.2=.local):all.lookup x.1=some .local:=by
 have h:=BV.mp h x hx
 rw[hl] at h
 exact(A0 h).elim λk q=>(D9 ..).symm.trans (DL q.2▸q.1)
theorem PG.vn(P₂:PG c wr none π H s H1 π₂ s₂)(P':PG c wr (some C) π H s H2 π' s')(D:LG π₂ H1.length H1 π' H2)(hC:s.heap.get? C=none):PG c wr none π H s H1 π₂ s':=
 have ne:∀{b o},¬ Xw π none b->s.heap.get? b=some o->¬ Xw π (some C) b:=λhb e x=>x.elim (λq=>nomatch hC.symm.trans ((Ai s.heap.get? (AQ q)).trans e)) λm=>hb (.inr m)
 {P₂ with
  kp:=⟨λb o hb ht e=>P'.kp.keep b o (ne hb e) ht e,λb o hb e=>P'.kp.there b o (ne hb e) e,P'.kp.tabs,P'.kp.tok,P'.kp.os,P'.kp.gens⟩
  there:=P'.there
  g:=P₂.g.back P'.g D
  same:=P'.same}
theorem PG.vo{m}(G0:Av c π H s)(P:PG c wr L π H s H1 π₁ s₁)(hC:s.heap.get? C=none)(hM:¬ π₁.M C)(hn:s₁.heap.Ns C m)(hs:Hb C s₁.heap h'):
  PG c wr L π H s H1 π₁ {s₁ with heap:=h'}/\Ju π₁ H1.length s₁.heap π₁ H1.length h':=by
 refine(Ns.obj hn).elim λo q=>q.elim λes q=>q.elim λk q=>?_
 have K:Kp (λb=>b=C) s₁ {s₁ with heap:=h'}:=.one q.1 (.data (Fw q.2)) (λb o' hb e=>(hs.2 b hb).trans e) trivial P.g.tabs
 have hok:mV π₁ s₁.heap (λb=>b=C):=λb z=>.inr (.inl (.inl ⟨o,es,k,z▸q⟩))
 have hnf:jw s₁.heap (λb=>b=C):=λb ob z e=>.data (AQ (q.1.symm.trans (z▸e))▸Fw q.2)
 have ne:∀{b o},s.heap.get? b=some o->b≠C:=λe q=>nomatch hC.symm.trans ((Ai s.heap.get? q.symm).trans e)
 exact⟨{P with
  kp:=P.kp.trans' K (λ_ x=>x) λb o' x e=>AL x (ne e)
  there:=λb o' e=>(P.there b o' e).imp λo'' uc=>(hs.2 b (ne e)).trans uc
  g:=P.g.upd K hok hnf (λb q=>q▸G0.absent hC) (λb q hm=>AL (q▸hm) hM) rfl λl o' e=>.inl ⟨e,λq=>hM (q▸P.g.mem l (P.g.lt e))⟩
  same:=λb o' hb hn e=>(hs.2 _ (ne e)).trans (P.same b o' hb hn e)},Kp.Eo (s':={s₁ with heap:=h'}) K P.g.tabs hok hnf (AP _) (λ_ _=>rfl) (λ_ h=>.inl h)⟩
def jZ(c:Cx)(d:Nat)(fr:FD)(lo:Lo)(H:List AO)(elt t iter:Expr)(ifs:List Expr)(sc:BQ)(cp:Pos)(v:AV)(H1:List AO):Prop:=
 ∀(A:AG)(env:Env)(π:Pl)(s:Aj)(E:EP)(pos:Pos)(use:Ab (Ad->Sem Ce))(Q:EP),A5 d A->Bu π H.length fr env->Av c π H s->Br c π H.length s.heap env.locals lo->
  (∀acc C s' π',PG c fr.wr none π H s H1 π' s'->As π' H1.length s'.heap v acc->(∃m,s'.heap.Ns C m)->s.heap.get? C=none->¬ π'.M C->compPost c.m A E use Q acc C (.ok .next) s')->
  Ae c.m A (comprehension (.ListComp elt [⟨t,iter,ifs,0⟩] sc cp) sc env pos (newList []) false (eval iter env) use) Q E s
theorem By.lay(hok:By π n cl fc)(hle:n<=n₂)(ha:∀l,l<n->π₂.at' l=π.at' l):By (ext π₂ n₂ a) (n₂+1) cl fc:=
 ⟨λx hx=>(hok.1 x hx).trans <| by
  cases q:fc.lookup x with
  |none=>rfl
  |some l=>exact Ai some ((Ep (BW (hok.2 x l q) hle)).trans (ha l (hok.2 x l q))).symm,λx l hl=>Nat.lt_succ_of_le (DY (BW (hok.2 x l hl) hle))⟩
theorem Xj(Sd:Bl c d r):Ok (SG r fr S1 src t ifs elt sc) λx=>AX S1 x.S (x.S.H=S1.H/\SD src t=true/\
  ∀{lo:Lo}{H:List AO}{iter:Expr}{cp:Pos},Ph c d fr lo H iter t src S1.H->Gp iter=true->jZ c d fr lo H elt t iter ifs sc cp x.v S1.H):=by
 refine .guard λu9=>JI.bind λfc hfc=>Ok.self.bind λS2 hl=>(nJ (c:=c)).bind λv hz=>.some λho=>⟨(show(S1.on ((S1.H++[.list []])++AK sc.names)).ob=true from Pj Sd S2 hl ho),rfl,Ax u9,λ{lo H iter cp} hit hn A env π s E pos use Q R F G L post=>?_⟩
 have k:=SR (Ax (Am u9))
 refine(hfc F).elim λcl hcl=>wpAny_comprehension_free rfl (JH hn env) hcl.1 k.1 (eW (Am (Am u9))) ?_
 refine AJ (hit A env π s E R F G L) (λx s₁ h₁=>AJ h₁ (λit s₂ h₂=>Bm λGG fin=>h₂.elim λπ₂ q=>q.elim λX q=>q.elim λI q=>fin (Of ?_)) λ_ _ x=>x) λ_ _ x=>x
 have P₂:=q.1
 have IP:=q.2.2.1
 have P₃:PG c S1.H.length none π₂ S1.H s₂ (S1.H++[.list []]) (ext π₂ S1.H.length s₂.heap.objs.size) {s₂ with heap:=s₂.heap.push {cls:=.type "list",data:=.seq ([]:List Ad).toArray}}:=
  .add P₂.g (AP _) (Kp.BS _) (Bx _ (AP _)) ⟨#[],_,Bp _ rfl,.nil⟩ ⟨_,Bp _ rfl,.data nofun⟩
 rw[F.glob]
 refine Qh λf hf=>?_
 generalize ({s₂ with heap:=s₂.heap.push {cls:=.type "list",data:=.seq ([]:List Ad).toArray}}:Aj)=s₃ at P₃ ⊢
 have e1:(S1.H++[AO.list []]).length=S1.H.length+1:=BO
 have vp:s₃.heap.get? s₃.heap.objs.size=none:=Bx _ (AP _)
 have P₄:=P₃.DU (HM:={s₃ with heap:=s₃.heap.push {cls:=.type "dict",data:=.dict #[]}}) (Kp.BS _)
 refine Ui (wr:=S1.H.length) f hf sc.names cl fc (S1.H++[.list []]) _ _ _ k.2.2.2 P₄.g (e1.symm▸hcl.2.1.lay P₂.le P₂.agree) (λcells s₅ π₅ P₅ hc Aep=>?_) (e1.symm▸Dw _)
 have pU:=P₄.trans P₅
 have hL0:Br c (ext π₂ S1.H.length s₂.heap.objs.size) (S1.H++[AO.list []]).length (s₃.heap.push {cls:=.type "dict",data:=.dict #[]}) s₃.heap.objs.size []:=⟨⟨_,Ay.Ns.new s₃.heap (.type "dict"),λx v e=>nomatch e⟩,P₃.g.Kk,P₃.g.absent vp⟩
 have IZ:(S1.H++[AO.list []]).length<=((S1.H++[AO.list []])++AK sc.names).length:=by rw[BO (as:=S1.H++[AO.list []])];exact BF _ _
 have Aaj:relabel sc env={sc with names:=T8 fr sc.names}:=by unfold relabel;rw[jY F]
 have F₅:Bu π₅ ((S1.H++[AO.list []])++AK sc.names).length (DK fr S1.H.length sc fc)
   {scope:=relabel sc env,locals:=s₃.heap.objs.size,globals:=DO,cells:=cells,qual:=env.qual,func:=none,code:=env.code,frame:=env.frame,builtins:=env.builtins}:=
  ⟨Aaj,k.1,rfl,F.bi,λx hx=>(hc.1 x hx).trans (by rw[e1];rfl),λq=>(nomatch q),λx l hx=>hc.2 x l (by rw[e1];exact hx),λq=>AL rfl q,F.qual,AA (Bo e1.symm) IZ⟩
 have hCs:=P₂.gone (P₃.gone vp)
 have vq:S1.H.length<((S1.H++[AO.list []])++AK sc.names).length:=BW (e1▸CF _) IZ
 have hw:=AA F.wr P₂.le
 have eY:∀it',Pf c d src t it' X I->EO c.m A (.compLoop (.ListComp elt [⟨t,iter,ifs,0⟩] sc cp) 0 it' (.ref s₂.heap.objs.size)
   {scope:=relabel sc env,locals:=s₃.heap.objs.size,globals:=DO,cells:=cells,qual:=env.qual,func:=none,code:=env.code,frame:=env.frame,builtins:=env.builtins})
   (compPost c.m A E use Q (.ref s₂.heap.objs.size) s₃.heap.objs.size) s₅:=λit' IP'=>
  Us Sd IP' hl ho R q.2.1 (AA hw (Dw _)) hw (Dw _) (AP _) (λBv s₆ π₆ P₆ D₆ L₆ vr Aal=>
    post _ _ s₆ π₂ (PG.vn P₂ P₆ D₆ hCs) (hz π₂ π₆ S1.H s₆ D₆ P₆.g _ ⟨vr,by rw[Aal]⟩) (L₆.ns.imp λm q=>q.1) hCs λq=>L₆.nl (D₆.mono _ q))
   (P₂.trans (pU.Kl hw)).any F₅ (hL0.pg P₅ P₄.g) (IP.pg pU P₂.g C9.none q.2.2.2) vq ((P₅.agree _ (e1▸CF _)).trans D8) (LG.refl.pg P₂.g pU (AP _))
 exact codeAny_compStart_list (eY it IP) (IP.self (IP.pg pU P₂.g C9.none q.2.2.2) (eY it IP))
theorem Bt.comp(run:jZ c d fr lo H elt t iter ifs sc cp v H1):Bt c d fr lo H (.ListComp elt [⟨t,iter,ifs,0⟩] sc cp) v H1:=by
 intro A env π s E R F G L
 rw[eval_ListComp]
 refine run A env π s E _ none _ R F G L λacc C s' π' P rv hm hC hM=>hm.elim λm hn=>⟨m,hn,λh' hs=>?_⟩
 have q:=PG.vo G P hC hM hn hs
 exact⟨π',q.1,rv.step q.2⟩
end
section
variable{c:Cx}{d:Nat}{fr:FD}{lo Bv BJ:Lo}{H H' EZ H1 H2 H3:List AO}
def Pn(h:Ay)(e:Ah):Prop:=∃o,h.get? e=some o/\o.cls=.type "StopIteration"
theorem YU(hh:A.handled=none)(hit:s.heap.IsTupleIter it t i)(ht:s.heap.IsTuple t items)
  (hQ:∀x,items[i]?=some x->∀h',h'.IsTupleIter it t (i+1)->Hb it s.heap h'->Q x {s with heap:=h'})
  (hE:items[i]?=none->∀h' e,Hc it s.heap h'->Pn h' e->E (.ref e) {s with heap:=h'}):Ae c.m A (Sa (.ref it)) Q E s:=by
 refine Bm λGG fin=>AH hit λo q=>(Mu ht).elim λdd z=>z.elim λn z=>z.elim λsl hol=>fin ?_
 refine Ac (Oa hit.typeIs cZ (GY cZ hit.typeIs F.entry_tuple_iterator_next ?_ (F.args_tuple_iterator_next_1 _)))
 show Ae _ _ (field (.ref it) 0>>=_) _ _ s
 refine Ac (D0 q.1 q.2.2 rfl ?_)
 show Ae _ _ (if (Bq t==D2)=true then _ else _) _ _ s
 rw[AD (show ¬ ((Bq t==D2)=true) from BI)]
 refine Ac (D0 q.1 q.2.2 rfl ?_)
 refine Ac (FQ hol rfl ?_)
 simp only[NV]
 cases hx:items[i]? with
 |some x=>
  refine Ac (RJ q.1 q.2.2 (by simp) (An ⟨x,rfl,An (hQ x hx _ ⟨_,KC _ q.1 (dm (R4 q.2.2 _)),(Obj.cls_mapFields ..).trans q.2.1,?_⟩ (Mm ..))⟩))
  rw[R4 q.2.2];rfl
 |none=>
  refine Ac (Gd (Ac (RJ q.1 q.2.2 (by simp) ?_)))
  refine Ac ?_
  refine Ac (Ew ?_ (by size_fits))
  refine Ac (Ci (by first | rfl | (simp only[firstArgMember];rfl)) ?_)
  refine Ew ?_ (by size_fits)
  refine Ac (wpAny_handled ?_)
  first | rw[hh] | rw[hh]
  exact Ac (An (wpAny_throw (hE hx _ _ (((Mm ..).extBut.push _).push _) ⟨_,Bp _ rfl,rfl⟩)))
noncomputable def nN:Src->Aa
 |.lst _=>true
 |.loc _=>true
 |_=>false
def DrQ(c:Cx)(π:Pl)(H:List AO)(s:Aj)(src:Src)(it:Ad)(i:Nat)(o:Ab AV)(Q E:EP):Prop:=match o with
 |some v=>∀cv s₁,BM c π H (λb=>it=.ref b) s s₁->Kz c src it (i+1) π H.length s₁.heap->As π H.length s₁.heap v cv->Q cv s₁
 |none=>∀s₁ e,BM c π H (λb=>it=.ref b) s s₁->Pn s₁.heap e->E (.ref e) s₁
section
variable{src:Src}{i:Nat}{A:AG}{π:Pl}{s:Aj}{E Q:EP}{I:Ah}
theorem Xk(G:Av c π H s)(hI:Kq π s.heap I)(hB:c.B.heap.get? I=none)(he:Hc I s.heap h'){fs}(hty:jV ty=true)(hit:∃o,h'.get? I=some o/\o.cls=.type ty/\o.data=.fields fs)
  (k:DrQ c π H s src (.ref I) i (some v) Q E)(h:Ju π H.length s.heap π H.length h'->KU src I (i+1) π H.length h'/\As π H.length h' v cv):Q cv {s with heap:=h'}:=
 have K:=Hm G hI hB he
 have q:=h (K.Eo G)
 k _ _ K ⟨I,rfl,vg hI.1 hit hty,hB,q.1⟩ q.2
theorem j0(hz:nN src=true):Ok (src.at H i) λo=>∀(A:AG)(π:Pl)(s:Aj)(it:Ad)(Q E:EP),A.handled=none->Av c π H s->Kz c src it i π H.length s.heap->DrQ c π H s src it i o Q E->Ae c.m A (Sa it) Q E s:=by
 induction src using Src.casesOn with
 |lst xs=>
  refine .some λA π s it Q E hh G x k=>x.elim λI q=>?_
  rw[q.1] at k ⊢
  refine AH q.2.2.2 λa z=>?_
  cases e:xs[i]? with
  |none=>
   rw[e] at k
   have fin:∀h' e,Hc I s.heap h'->Pn h' e->E (.ref e) {s with heap:=h'}:=λh' e he hs=>k _ e (Hm G q.2.1 q.2.2.1 he) hs
   exact z.elim (λz=>z.2.lst.elim λa' y=>y.elim λvs y=>wpAny_nextOf_list_end hh z.1 (CV y.1▸y.2.1) (Jm y.2.2.2 e) fin) λz=>z.2.tup.elim λa' y=>y.elim λvs y=>YU hh z.1 (CV y.1▸y.2.1) (λx hx=>nomatch (Jm y.2.2.2 e).symm.trans hx) λ_=>fin
  |some v=>
   rw[e] at k
   exact z.elim (λz=>z.2.lst.elim λa' y=>y.elim λvs y=>(Kr y.2.2.2 e).elim λw u=>wpAny_nextOf_list_item z.1 (CV y.1▸y.2.1) u.1 λh' hit hs=>Xk G q.2.1 q.2.2.1 hs.extBut ⋯ hit k λS=>⟨⟨a,.inl ⟨hit,z.2.step S⟩⟩,u.2.step S⟩)
    λz=>z.2.tup.elim λa' y=>y.elim λvs y=>(Kr y.2.2.2 e).elim λw u=>YU hh z.1 (CV y.1▸y.2.1) (λx hx h' hit hs=>AQ (u.1.symm.trans hx)▸Xk G q.2.1 q.2.2.1 hs.extBut ⋯ hit k λS=>⟨⟨a,.inr ⟨hit,z.2.step S⟩⟩,u.2.step S⟩) λhx=>nomatch u.1.symm.trans hx
 |loc l=>
  refine listAt.bind λxs ex=>.some λA π s it Q E hh G x k=>x.elim λI q=>(G.objs l _ ex).elim λvs y=>y.elim λkk y=>?_
  rw[q.1] at k ⊢
  cases e:xs[i]? with
  |none=>
   rw[e] at k
   exact wpAny_nextOf_list_end hh q.2.2.2.2 ⟨_,y.1,rfl,kk,rfl⟩ (Jm y.2 e) λh' e he hs=>k _ e (Hm G q.2.1 q.2.2.1 he) hs
  |some v=>
   rw[e] at k
   exact(Kr y.2 e).elim λw u=>wpAny_nextOf_list_item q.2.2.2.2 ⟨_,y.1,rfl,kk,rfl⟩ u.1 λh' hit hs=>Xk G q.2.1 q.2.2.1 hs.extBut ⋯ hit k λS=>⟨⟨q.2.2.2.1,hit⟩,u.2.step S⟩
 |_=>exact ff hz
end
structure aD(c:Cx)(l:Nat)(zs:List (Src×Ah))(z TI:Ah)(f0:Ad)(i:Nat)(π:Pl)(n:Nat)(h:Ay):Prop where
 hz:Ir h z TI (π.at' l) f0
 zM:¬ π.M z
 zB:c.B.heap.get? z=none
 lt:l<n
 ti:h.get? TI=some {cls:=.type "tuple",data:=.seq (zs.map λp=>Bq p.2).toArray}
 tM:¬ π.M TI
 nd:(zs.map (·.2)).Nodup
 QI:∀p∈zs,nN p.1=true/\Kz c p.1 (.ref p.2) i π n h
theorem eZ(hz:Ir h z TI TO f0)(zM:¬ π.M z):Kq π h z:=⟨zM,_,hz,.of ⋯ rfl rfl⟩
theorem aD.pg(P:PG c wr L π H s H' π' s')(G:Av c π H s)(hL:C9 s.heap L)(x:aD c l zs z TI f0 i π H.length s.heap):
  aD c l zs z TI f0 i π' H'.length s'.heap:=
 have w:=(eZ x.hz x.zM).pg P G hL
 ⟨by rw[P.agree l x.lt];exact w.2 _ x.hz,w.1.1,x.zB,BW x.lt P.le,P.kp.keep TI _ (λq=>q.elim (λq=>(hL TI q).elim λo' y=>y.elim λes y=>y.elim λk y=>by have e:=AQ (y.1.symm.trans x.ti);rw[e] at y;rcases y.2 with ⟨⟩) x.tM) (G.tabs.D5 x.ti nofun) x.ti,
  λq=>(P.new TI q).elim x.tM λq=>(nomatch q.symm.trans x.ti),x.nd,λp hp=>⟨(x.QI p hp).1,(x.QI p hp).2.pg P G hL⟩⟩
def ZX(z TO:Ah)(zs:List (Src×Ah)):Ah->Prop:=λb=>b=z\/b=TO\/∃p∈zs,p.2=b
theorem BM.trans(G:Av c π H s)(K:BM c π H X s s')(K':BM c π H Y s' HM)(hY:∀b,Y b->X b):BM c π H X s HM:=
 ⟨K.kp.trans (K'.kp.weaken hY),K.is,λl k e _=>(K'.g (K.g G)).objs l _ e⟩
theorem BM.no(K:Kp no s s'):BM c π H no s s':=⟨K,λ_ x=>x.elim,λ_ _ _ x=>x.elim⟩
theorem Ut(G:Av c π H s)(hz:Ir s.heap z TI TO f0)(zM:¬ π.M z)(zB:c.B.heap.get? z=none)(hs:Hb z s.heap h'):BM c π H (λb=>b=z) s {s with heap:=h'}:=
 have K:=Hm G (eZ hz zM) zB (h':=h') hs.extBut
 ⟨K.kp.weaken λb q=>(CV q).symm,λb q=>K.is b (Ai Bq q.symm),λl k e q=>K.raw l k e (Ai Bq q.symm)⟩
theorem pV(G:Av c π H s)(e:H[l]?=some (.raw k))(ho:s.heap.get? (π.at' l)=some {cls:=.type "tuple",data:=.seq vs kd})(j:Nat)(x:Ad):
  BM c π H (λb=>b=π.at' l) s {s with heap:=s.heap.update (π.at' l) (C6 (·.setIfInBounds j x))}/\
   (s.heap.update (π.at' l) (C6 (·.setIfInBounds j x))).get? (π.at' l)=some {cls:=.type "tuple",data:=.seq (vs.setIfInBounds j x) kd}:=by
 have Qg:(s.heap.update (π.at' l) (C6 (·.setIfInBounds j x))).get? (π.at' l)=some {cls:=.type "tuple",data:=.seq (vs.setIfInBounds j x) kd}:=KC (C6 (·.setIfInBounds j x)) ho rfl |>.trans (by simp[C6])
 have hs:Hb (π.at' l) s.heap (s.heap.update (π.at' l) (C6 (·.setIfInBounds j x))):=Mm ..
 refine⟨⟨.one ho (.data nofun) (λb o' hb e=>(hs.2 b hb).trans e) trivial G.tabs,λb q=>.inr ⟨l,k,e,q.symm⟩,λl' k' e' q=>?_⟩,Qg⟩
 rcases G.inj l' l (G.lt e') (G.lt e) q with ⟨⟩
 exact AH (G.objs _ _ e') λvs' y=>y.elim λkd' y=>⟨_,_,Qg,by
  have h:=AQ (ho.symm.trans y.1)
  rcases h with ⟨⟩
  rw[VQ];exact y.2⟩
structure e9(c:Cx)(π:Pl)(H:List AO)(s:Aj)(l:Nat)(zs:List (Src×Ah))(z TI:Ah)(i:Nat)(zs₁ zs₂:List (Src×Ah))(vs₁:List AV)(s':Aj):Prop where
 K:BM c π H (ZX z (π.at' l) zs) s s'
 z:Ir s'.heap z TI (π.at' l) .ellipsis
 to:∃arr kd cvs,s'.heap.get? (π.at' l)=some {cls:=.type "tuple",data:=.seq arr kd}/\arr.size=zs.length/\Ag π H.length s'.heap vs₁ cvs/\cvs.length=zs₁.length/\∀q,q<cvs.length->arr[q]?=cvs[q]?
 i1:∀p∈zs₁,Kz c p.1 (.ref p.2) (i+1) π H.length s'.heap
 i2:∀p∈zs₂,nN p.1=true/\Kz c p.1 (.ref p.2) i π H.length s'.heap
theorem Kz.isIt(x:Kz c src (.ref it) i π n h):Kq π h it/\c.B.heap.get? it=none:=x.elim λI q=>CV q.1▸⟨q.2.1,q.2.2.1⟩
theorem Kz.yP(x:Kz c src (.ref it) i π n h)(hz:Ir h z TI TO f0):it≠z:=λq=>x.elim λI y=>y.2.2.2.cls.elim λty w=>w.1.elim λo u=>by
 rcases y.1 with ⟨⟩;subst q
 have e:=AQ (u.1.symm.trans hz)
 have t:=(by rw[e] at u;exact u.2)
 have h:=w.2
 rw[<-Fk.inj t] at h
 revert h;decide +kernel
def nO(z TO:Ah)(f:Ad×Nat->Ab G3×Ce->Sem (En (Ab G3×Ce))):Prop:=
 ∃(W:Ad->Nat->Sem (En (Ab G3×Ce))),∀(it:Ad)(k:Nat)(u:Ab G3×Ce),f (it,k) u=(((Sa it>>=λv=>pure (some v)).onRaise λ_=>setField (.ref z) 0 .none)>>=λr=>match r with
  |some x=>(seqItems? (.ref TO)>>=λo=>match o with
   |some kept=>(updateSeq TO (·.setIfInBounds k x)>>=λ_=>PySem.letGo [kept.getD k .none]>>=λ_=>pure (Gj (none,())))
   |none=>(RP "internal:zip.__next__" >>=λ(_:Ce)=>pure (Gj (none,()))))
  |none=>W it k)
theorem YV(h:b≠a):¬ Bq a=.ref b:=λq=>h (CV q).symm
theorem le8(h:n<=8):n<=BY:=AA h ⋯
section
variable{A:AG}{π:Pl}{s s':Aj}{l:Nat}{z TI:Ah}{i:Nat}{zs zs₁ zs₂:List (Src×Ah)}{vs₁:List AV}
theorem nP{E:EP}{Q:En (Ab G3×Ce)->Aj->Prop}(hh:A.handled=none)
  (hf:nO z (π.at' l) f)(h8:zs.length<=8)(hr:H[l]?=some (.raw zs.length))(zM:¬ π.M z)(zB:c.B.heap.get? z=none)(hs:zs=zs₁++(src,it)::zs₂)(nd:(zs.map (·.2)).Nodup)(G:Av c π H s)
  (M:e9 c π H s l zs z TI i zs₁ ((src,it)::zs₂) vs₁ s')(hv:src.at H i=some o)(u:Ab G3×Ce)
  (k:match o with
   |some v=>∀HM,e9 c π H s l zs z TI i (zs₁++[(src,it)]) zs₂ (vs₁++[v]) HM->Q (.yield (none,())) HM
   |none=>∀HM e,BM c π H (ZX z (π.at' l) zs) s HM->Pn HM.heap e->E (.ref e) HM):Ae c.m A (f (.ref it,zs₁.length) u) Q E s':=by
 refine Bm λGG fin=>AH hf λW hf=>M.to.elim λarr t=>t.elim λkd t=>t.elim λcvs t=>fin ?_
 rw[hf]
 have G':=M.K.g G
 have hit:=M.i2 (src,it) (CT ..)
 have vt:=G.mem l (G.lt hr)
 have vu:=hit.2.isIt.1.1
 have mem:=hs▸LB _ (CT ..)
 have toZ:∀b,Bq it=.ref b->ZX z (π.at' l) zs b:=λb q=>.inr (.inr ⟨_,mem,CV q⟩)
 have nz:=hit.2.yP M.z
 refine Ac (wpAny_onRaise (Ac (j0 hit.1 o hv A π s' _ _ _ hh G' hit.2 ?_)))
 induction o using BK with
 |none=>
  refine λs₁ e K₁ he=>he.elim λo he=>?_
  have hz₁:=K₁.kp.keep _ _ (YV nz.symm) (G'.tabs.D5 M.z nofun) M.z
  have hez:e≠z:=λq=>by have h:=AQ ((q▸he.1).symm.trans hz₁);rw[h] at he;exact AL he.2 (by simp)
  refine RB hz₁ (by simp) λh₂ hz₂ hs₂=>k _ e ((M.K.trans G K₁ toZ).trans G (Ut (K₁.g G') hz₁ zM zB hs₂) λb q=>.inl q) ⟨o,hs₂.extBut _ _ hez he.1,he.2⟩
 |some v=>
  refine λcv s₁ K₁ x₁ r₁=>An ?_
  have G₁:=K₁.g G'
  have pW:=K₁.kp.keep _ _ (YV λq=>vu (q▸vt)) (G'.tabs.D5 t.1 nofun) t.1
  have hz₁:=K₁.kp.keep _ _ (YV nz.symm) (G'.tabs.D5 M.z nofun) M.z
  refine Ac (FQ pW rfl ?_)
  have K₂:=pV G₁ hr pW zs₁.length cv
  refine Ac (EK pW rfl (_hz':=by rw[VQ,t.2.1];exact JU (le8 h8)) (Ac (L6 (An (k _ ?_)))))
  have ne2:∀{b},¬ π.M b->¬ (b=π.at' l):=λh q=>h (q▸vt)
  have S:=λ{v cv} (r:As π H.length s'.heap v cv)=>(r.step (K₁.Eo G')).step (K₂.1.Eo G₁)
  have hnd:∀p,p∈zs₁\/p∈zs₂->p.2≠it:=λp hp q=>by
   rw[hs,LK,EF] at nd
   have h1:=List.nodup_append.mp nd
   exact hp.elim (λhp=>h1.2.2 p.2 (b8 hp) it (CT ..) q) λhp=>(ED.mp h1.2.1).1 (CD.mpr ⟨p,hp,q⟩)
  have bs:∀{vv:Src}{p:Ah}{j:Nat},p≠it->Kz c vv (.ref p) j π H.length s'.heap->Kz c vv (.ref p) j π H.length (s₁.heap.update (π.at' l) (C6 (·.setIfInBounds zs₁.length cv))):=λhp x=>
   (x.step G' K₁ λI q=>CV q▸YV hp).step G₁ K₂.1 λI q=>CV q▸ne2 x.isIt.1.1
  refine⟨(M.K.trans G K₁ toZ).trans G K₂.1 λb q=>.inr (.inl q),K₂.1.kp.keep _ _ (ne2 zM) (G₁.tabs.D5 hz₁ nofun) hz₁,⟨_,_,cvs++[cv],K₂.2,(VQ ..).trans t.2.1,((t.2.2.1.step (K₁.Eo G')).step (K₂.1.Eo G₁)).append (.cons (r₁.step (K₂.1.Eo G₁)) .nil),by rw[BO,BO,t.2.2.2.1];rfl,λq hq=>?_⟩,
   λp hp=>(LJ.mp hp).elim (λhp=>bs (hnd p (.inl hp)) (M.i1 p hp)) λhp=>by
    rcases CL.mp hp with ⟨⟩
    exact x₁.step G₁ K₂.1 λI q=>CV q▸ne2 vu,
   λp hp=>have w:=M.i2 p (Ee _ hp);⟨w.1,bs (hnd p (.inr hp)) w.2⟩⟩
  rw[AE.getElem?_setIfInBounds] at ⊢
  by_cases h:zs₁.length=q
  ·subst h
   rw[Bh rfl,Bh (show zs₁.length<arr.size by rw[t.2.1,hs,BO];exact Wf (N7 _)),<-t.2.2.2.1,bR] at ⊢
  ·have hq':=Nat.lt_of_le_of_ne (Wj (by rw[BO] at hq;exact hq)) λe=>h (t.2.2.2.1▸e.symm)
   rw[AD h,Ra hq',t.2.2.2.2 q hq'] at ⊢
def Aam(c:Cx)(π:Pl)(H:List AO)(s:Aj)(l:Nat)(zs:List (Src×Ah))(z TI:Ah)(i:Nat)(vs₁:List AV)(E:EP)(Q:Ab G3×Ce->Aj->Prop)(r:Ab (List AV)):Prop:=match r with
 |some vs₂=>∀HM,e9 c π H s l zs z TI i zs [] (vs₁++vs₂) HM->Q (none,()) HM
 |none=>∀HM e,BM c π H (ZX z (π.at' l) zs) s HM->Pn HM.heap e->E (.ref e) HM
theorem vw(hh:A.handled=none)
  (hf:nO z (π.at' l) f)(h8:zs.length<=8)(hr:H[l]?=some (.raw zs.length))(zM:¬ π.M z)(zB:c.B.heap.get? z=none)(nd:(zs.map (·.2)).Nodup)(G:Av c π H s):
  ∀{zs₁:List (Src×Ah)}{vs₁:List AV}{s':Aj},zs=zs₁++zs₂->e9 c π H s l zs z TI i zs₁ zs₂ vs₁ s'->Ok (Src.i8 H i (zs₂.map (·.1))) λr=>Aam c π H s l zs z TI i vs₁ E Q r->
   Ae c.m A (forIn ((zs₂.map λp=>Bq p.2).zipIdx zs₁.length) ((none,()):Ab G3×Ce) f) Q E s':=by
 induction zs₂ with
 |nil=>
  intro zs₁ vs₁ s' hs M
  rw[DX] at hs
  subst hs
  exact .some λk=>An (k s' (by rw[DX];exact M))
 |cons p zs₂ ih=>
  intro zs₁ vs₁ s' hs M
  refine Ok.self.bind λo hv=>?_
  rw[EF,List.zipIdx_cons,FO]
  induction o using BK with
  |none=>exact .some λk=>Ac (nP hh hf h8 hr zM zB hs nd G M hv _ k)
  |some v=>
   refine Ok.self.bind λr hr'=>.some λk=>Ac (nP hh hf h8 hr zM zB hs nd G M hv _ λHM M'=>?_)
   have e:(zs₁++[p]).length=zs₁.length+1:=BO
   rw[<-e]
   refine ih (hs.trans (by rw[FL];rfl)) M' r hr' ?_
   induction r using BK with
   |none=>exact k
   |some vs₂=>exact λs3 M3=>k s3 (by rw[FL] at M3;exact M3)
theorem pX(G:Av c π H s)(Z:aD c l zs z TI .none i π H.length s.heap)(hr:H[l]?=some (.raw zs.length))
  (hz₁:Ir h₁ z TI (π.at' l) .ellipsis)(hs₁:Hb z s.heap h₁):e9 c π H s l zs z TI i [] zs [] {s with heap:=h₁}:=
 have K₁:=Ut G Z.hz Z.zM Z.zB hs₁
 have G₁:=K₁.g G
 ⟨⟨K₁.kp.weaken λb q=>.inl q,λb x=>x.elim (λx=>.inl (x▸⟨eZ Z.hz Z.zM,Z.zB⟩)) λx=>x.elim (λx=>.inr ⟨l,_,hr,x.symm⟩) λx=>x.elim λp hp=>.inl (hp.2▸(Z.QI p hp.1).2.isIt),λl' k e _=>G₁.objs l' _ e⟩,hz₁,
  (G₁.objs l _ hr).elim λvs y=>y.elim λkd y=>⟨vs,kd,[],y.1,y.2,.nil,rfl,λq hq=>nomatch hq⟩,λp hp=>(nomatch hp),λp hp=>⟨(Z.QI p hp).1,(Z.QI p hp).2.step G K₁ λI q=>CV q▸(Z.QI p hp).2.yP Z.hz⟩⟩
theorem aD.vx(Z:aD c l zs z TI f0 i π H.length s.heap)(G:Av c π H s):¬ ZX z (π.at' l) zs TI:=λx=>x.elim (λq=>by have h:=(q▸Z.ti).symm.trans Z.hz;simp at h) λx=>x.elim (λq=>Z.tM (q▸G.mem l Z.lt)) λx=>
 x.elim λp hp=>(Z.QI p hp.1).2.isIt.1.2.elim λo y=>y.2.nv (AQ ((hp.2▸y.1).symm.trans Z.ti)▸.inr (.inl rfl))
def ZNx(c:Cx)(π:Pl)(H:List AO)(s:Aj)(l:Nat)(zs:List (Src×Ah))(z TI:Ah)(i:Nat)(Q:Ab Ad->Aj->Prop)(r:Ab (List AV)):Prop:=match r with
 |some vs=>∀(T:Ah) s₁,BM c π H (ZX z (π.at' l) zs) s s₁->aD c l zs z TI (D1 T) (i+1) π H.length s₁.heap->As π H.length s₁.heap (.tup vs) (.ref T)->Q (some (.ref T)) s₁
 |none=>∀s₁,BM c π H (ZX z (π.at' l) zs) s s₁->Q none s₁
theorem vz(Z:aD c l zs z TI f0 i π H.length s.heap)(G:Av c π H s)(G₃:Av c π H s₃)(K03:BM c π H (ZX z (π.at' l) zs) s s₃)
  (hz₃:Ir s₃.heap z TI (π.at' l) .ellipsis)(its₃:∀p∈zs,Kz c p.1 (.ref p.2) (i+1) π H.length s₃.heap)(rt:As π H.length s₃.heap (.tup vs) (.ref T))(k:ZNx c π H s l zs z TI i Q (some vs)):
  Ae c.m A' (Bk.SmallTypes.ownedTupleHandOut (.ref z) (.ref T)>>=λ_=>ret (.ref T)) (λfin s'=>∃v,fin=G3.done (.ret v)/\Ae c.m A (pure (some v)) Q E s') E' s₃:=by
 refine Ac ?_
 refine Ac (RB hz₃ (by simp) λh₄ hz₄ hs₄=>?_)
 have K₄:=Ut G₃ hz₃ Z.zM Z.zB hs₄
 have G₄:=K₄.g G₃
 refine RB hz₄ (by simp) λh₅ hz₅ hs₅=>?_
 have K₅:=Ut G₄ hz₄ Z.zM Z.zB hs₅
 have K05:=(K03.trans G K₄ (λb q=>.inl q)).trans G K₅ λb q=>.inl q
 exact An ⟨_,rfl,An (k T _ K05 ⟨hz₅,Z.zM,Z.zB,Z.lt,K05.kp.keep TI _ (Z.vx G) (G.tabs.D5 Z.ti nofun) Z.ti,Z.tM,Z.nd,λp hp=>have w:=its₃ p hp;have ne:=w.yP hz₃
  ⟨(Z.QI p hp).1,(w.step G₃ K₄ λI q=>CV q▸ne).step G₄ K₅ λI q=>CV q▸ne⟩⟩ ((rt.step (K₄.Eo G₃)).step (K₅.Eo G₄)))⟩
theorem vA(hh:A.handled=none)(G:Av c π H s)(Z:aD c l zs z TI .none i π H.length s.heap)(hr:H[l]?=some (.raw zs.length))(h8:zs.length<=8)(hne:zs≠[]):
  Ok (Src.i8 H i (zs.map (·.1))) λr=>ZNx c π H s l zs z TI i Q r->Ae c.m A (pyNext (.ref z)) Q E s:=Ok.self.mono λr hv k=>by
 have hT:s.TypeIs (.ref z) "zip" :=⟨_,Z.hz,rfl⟩
 refine Ac (GZ (Oa hT F.slot_zip_next (GY F.slot_zip_next hT F.entry_zip_next ?_ (F.args_zip_next_1 _))))
 show Ae _ _ (field (.ref z) 2>>=_) _ _ _
 refine Ac (D0 Z.hz rfl rfl ?_)
 refine Ac (D0 Z.hz rfl rfl (Ac (FQ Z.ti rfl ?_)))
 have h0:(zs.map λp=>Bq p.2).toArray.isEmpty=false:=by
  induction zs using B9 with
  |nil=>exact AL rfl hne
  |cons _ _=>simp
 show Ae _ _ (if (zs.map λp=>Bq p.2).toArray.isEmpty=true then _ else _) _ _ _
 rw[h0]
 refine Ac ?_
 refine Ac (D0 Z.hz rfl rfl (An ?_))
 refine Ac (Gd (Ac (D0 Z.hz rfl rfl (Ac (RB Z.hz (by simp) λh₁ hz₁ hs₁=>Ac (vw (A:=A.in1) hh ?hf h8 hr Z.zM Z.zB Z.nd G rfl (pX G Z hr hz₁ hs₁) r hv ?_))))))
 case hf=>
  refine⟨?W,λit k u=>?_⟩
  rotate_left
  ·show(Sa it>>=λv=>pure (some v)).onRaise _>>=_=_
   congr 1
   funext r
   rcases r with ⟨⟩
   ·rfl
   ·show(seqItems? (.ref (π.at' l))>>=_)=seqItems? (.ref (π.at' l))>>=_
    congr 1
    funext o
    rcases o with ⟨⟩<;>rfl
 induction r using BK with
 |none=>exact λs₂ e K he=>Ac (Ii he isSubtype_stop (An (k _ K)))
 |some vs=>
  refine λs₂ M=>Bm λGG fin=>M.to.elim λarr t=>t.elim λkd t=>t.elim λcvs t=>fin ?_
  have Aao:arr.toList=cvs:=List.ext_getElem? λq=>(Rq q cvs.length).elim (λhq=>by rw[<-t.2.2.2.2 q hq];simp) λhq=>by
   rw[H5 (by rw[Dt,t.2.1,<-t.2.2.2.1];exact hq),H5 hq] at ⊢
  refine Ac (FQ t.1 rfl ?_)
  show Ae _ _ (newTuple arr.toList>>=_) _ _ _
  rw[Aao]
  have G₂:=M.K.g G
  refine Ac (LY ?_)
  have rt:=As.newTuple G₂ t.2.2.1
  generalize s₂.heap.objs.size=T at rt ⊢
  have Kp3:Kp no s₂ {s₂ with heap:=s₂.heap.push {cls:=.type "tuple",data:=.seq cvs.toArray}}:=Kp.BS _
  have K₃:=BM.no (c:=c) (π:=π) (H:=H) Kp3
  have hz₃:Ir (s₂.heap.push {cls:=.type "tuple",data:=.seq cvs.toArray}) z TI (π.at' l) .ellipsis:=B6 _ M.z
  have K03:=M.K.trans G K₃ λ_ x=>x.elim
  have its₃:=λp hp=>(M.i1 p hp).step G₂ K₃ λ_ _=>id
  have G₃:=G₂.DU Kp3
  exact vz Z G G₃ K03 hz₃ its₃ rt k
theorem pY:Ok ((Src.zip l ss).at H i) λo=>H[l]?=some (.raw ss.length)/\∃r,Src.i8 H i ss=some r/\o=r.bind λvs=>some (.tup vs):=
 uJ.bind λk hk=>.guard λh=>Ok.self.bind λr hr=>.some ⟨Cb h▸hk,r,hr,rfl⟩
theorem aD.iter(ht:T4 25 t=true)(h8:zs.length<=8)(hne:zs≠[]):
  Pf c d (.zip l (zs.map (·.1))) t (.ref z) (ZX z TO zs) (λi π n h=>aD c l zs z TI .none i π n h/\π.at' l=TO) where
 pg:=λP G hL x=>⟨x.1.pg P G hL,(P.agree _ x.1.lt).trans x.2⟩
 nx:=pY.mono λo h A π s E Q R G x k=>h.2.elim λr hr=>by
  have hTO:=x.2
  subst hTO
  have h1:=h.1
  rw[AY] at h1
  rw[hr.2] at k
  refine vA R.handled G x.1 h1 h8 hne r hr.1 ?_
  induction r using BK with
  |none=>exact λs₁ K=>k _ s₁ ⟨rfl,K⟩
  |some vs=>
   refine λT s₁ K Z r=>k _ s₁ ⟨_,rfl,λE' Q' q=>?_⟩
   rcases t with ⟨⟩<;>first | exact ff ht | skip
   refine wpAny_letOwnedTupleGo_zip Z.hz λh' hz' nQ=>?_
   have G₁:=K.g G
   have K':=Ut G₁ Z.hz Z.zM Z.zB nQ
   exact q _ (K.trans G K' λb q=>.inl q) ⟨⟨hz',Z.zM,Z.zB,Z.lt,nQ.extBut _ _ (λq=>Z.vx G₁ (.inl q)) Z.ti,Z.tM,Z.nd,λp hp=>have w:=Z.QI p hp;⟨w.1,w.2.step G₁ K' λI q=>CV q▸w.2.yP Z.hz⟩⟩,rfl⟩ (r.step (K'.Eo G₁))
 self:=λx q=>wpAny_pyIter_zip x.1.hz q
end
end
section
variable{c:Cx}{d:Nat}{fr:FD}{lo Bv BJ:Lo}{H H' EZ H1 H2 H3:List AO}
theorem QJ(hf:Bt c d fr lo H (.Name x xp) f H)(ha:IU c d fr lo H es vs H1)(hst:Ea es)(hkp:Eg c f)
  (R:A5 d A)(F:Bu π H.length fr env)(G:Av c π H s)(L:Br c π H.length s.heap env.locals lo)
  (k:∀cf cvs s₂ π₂,PG c fr.wr none π H s H1 π₂ s₂->As π₂ H1.length s₂.heap f cf->Ag π₂ H1.length s₂.heap vs cvs->Ae c.m A (call cf cvs []) Q E s₂):
  Ae c.m A (eval (.Call (.Name x xp) es [] p) env) Q E s:=by
 refine Ac (hf.use R F G L λcf s₁ π₁ P₁ F₁ L₁ r₁=>?_)
 rw[hst env p]
 have em:(es.map λe=>(false,eval e env))=(es.map λe=>eval e env).map λt=>(false,t):=by rw[F6];rfl
 refine IA (NQ.mpr ⟨any_false λx hx=>(CD.mp hx).elim λe q=>q.2▸rfl,rfl⟩) (λh x=>x) ?_
 rw[em]
 refine Dd rfl ?_
 rw[<-em]
 exact AJ (ha A env π₁ s₁ E R F₁ P₁.g L₁) (λcvs s₂ h=>h.elim λπ₂ q=>JY ⟨hkp H1 π₂ s₂ cf q.1.g (r₁.pg q.1 P₁.g),k cf cvs s₂ π₂ (P₁.trans q.1) (r₁.pg q.1 P₁.g) q.2⟩) λ_ _ e=>e
theorem pZ(a b c:Ad):checkTypeCall "zip" ⟨[a,b,c],[]⟩=pure ():=⋯
theorem vB(a b c:Ad):Ob "zip.__new__" ⟨[.type "zip",a,b,c],[]⟩=pure ():=⋯
theorem p4(a b c e:Ad):C5 "object.__init__" ⟨[a,b,c,e],[]⟩:=by
 unfold C5;rw[signature?_of (n:=['_','_','t','i','n','i','_','_']) ⋯ F.owner_object] at ⊢;kernel_rfl
theorem aE:Ok (OT S v) λsrc=>Mx c S.H v src/\nN src=true:=by
 induction v using AV.casesOn with
 |tup xs=>exact .some ⟨KV _ rfl,rfl⟩
 |lst xs=>exact .some ⟨KV _ rfl,rfl⟩
 |loc l=>exact Ok.self.bind λxs e=>.some ⟨KV _ (by show(((S.H[l]?).bind CW).bind λ_=>some (Src.loc l))=_;rw[e];rfl),rfl⟩
 |_=>exact .none
theorem fb{P:α->β->Prop}(hf:∀a,Ok (f a) (P a)):Ok (Gn f as) λbs=>bs.length=as.length/\∀a b,(a,b)∈as.zip bs->P a b:=by
 induction as with
 |nil=>exact .some ⟨rfl,λ_ _ h=>nomatch h⟩
 |cons a as ih=>exact(hf a).bind λb hb=>ih.bind λbs h=>.some ⟨Ai Gb h.1,λx y q=>(Bc.mp q).elim (λe=>by rcases e with ⟨⟩;exact hb) (h.2 x y)⟩
def ZIt(c:Cx)(π:Pl)(H:List AO)(s s':Aj)(p:Src×Ah):Prop:=nN p.1=true/\Kz c p.1 (.ref p.2) 0 π H.length s'.heap/\s.heap.get? p.2=none
theorem p6
  (hf:∀x a,f x a=(holding a.toList (Fj x)>>=λr=>pure (.yield (a.push r))))(G:Av c π H s)(vs:List AV):
  ∀(ss:List Src)(zs₁:List (Src×Ah))(cvs:List Ad)(s₁:Aj),(ss.length=vs.length/\∀a b,(a,b)∈vs.zip ss->Mx c H a b/\nN b=true)->Kp no s s₁->Av c π H s₁->(∀p∈zs₁,ZIt c π H s s₁ p)->(zs₁.map (·.2)).Nodup->Ag π H.length s₁.heap vs cvs->
   (∀zs₂ s',zs₂.map (·.1)=ss->Kp no s s'->Av c π H s'->(∀p∈zs₁++zs₂,ZIt c π H s s' p)->((zs₁++zs₂).map (·.2)).Nodup->Q ((zs₁++zs₂).map λp=>Bq p.2).toArray s')->
   Ae c.m A (forIn cvs (zs₁.map λp=>Bq p.2).toArray f) Q E s₁:=by
 induction vs with
 |nil=>
  intro ss zs₁ cvs s₁ h K G₁ b1 nd r k
  induction ss using B9 with
  |cons=>cases h.1
  |nil=>
   rw[r,LL]
   have k:=k [] s₁ rfl K G₁
   rw[DX] at k
   exact An (k b1 nd)
 |cons v vs ih=>
  intro ss zs₁ cvs s₁ h K G₁ b1 nd r k
  induction ss using B9 with
  |nil=>cases h.1
  |cons src ss=>
  refine AH r λcv r=>r.elim λcvs r=>?_
  have h0:=h.2 v src (CT ..)
  rw[r.1,FO,hf]
  refine Ac (Ac (BE (h0.1 A π s₁ E cv G₁ r.2.1 _ λit s₂ K₂ hfr x₂=>An (x₂.elim λI w=>?_))))
  have hIs:=hfr I w.1
  have x₂':=w.1▸x₂
  rw[w.1]
  have e:(zs₁.map λp=>Bq p.2).toArray.push (.ref I)=((zs₁++[(src,I)]).map λp=>Bq p.2).toArray:=by simp
  rw[e]
  have gone:s.heap.get? I=none:=by
   cases q:s.heap.get? I with
   |none=>rfl
   |some o=>exact(K.there I o id q).elim λo' z=>nomatch hIs.symm.trans z
  refine ih ss (zs₁++[(src,I)]) cvs s₂ ⟨He h.1,λa b q=>h.2 a b (Ee _ q)⟩ (K.trans K₂) (G₁.DU K₂) (λp hp=>(LJ.mp hp).elim (λhp=>⟨(b1 p hp).1,(b1 p hp).2.1.step G₁ (.no K₂) λ_ _=>id,(b1 p hp).2.2⟩) λhp=>by
    cases CL.mp hp;exact⟨h0.2,x₂',gone⟩) ?_ (r.2.2.DU K₂ G₁.tabs) λzs₂ s' e2 K' G' b' nd'=>?_
  ·rw[LK,List.nodup_append]
   exact⟨nd,ED.mpr ⟨λq=>(nomatch q),Wb⟩,λa ha b hb q=>(CD.mp ha).elim λp hp=>(b1 p hp.1).2.1.isIt.1.2.elim λo y=>nomatch hIs.symm.trans ((Ai s₁.heap.get? (hp.2.trans (q.trans (CL.mp hb)))).symm.trans y.1)⟩
  ·rw[FL] at b' nd' ⊢
   exact k ((src,I)::zs₂) s' (Ai (src :: ·) e2) K' G' b' nd'
theorem PG.fe(o:Obj)(G:Av c π H s)(hf:o.isFreed=false):
  PG c wr L π H s H π {s with heap:=s.heap.push o}/\s.heap.get? s.heap.objs.size=none/\(s.heap.push o).get? s.heap.objs.size=some o/\¬ π.M s.heap.objs.size:=
 ⟨.pure G (Kp.BS o),Bx _ (AP _),Bp _ hf,G.Kk⟩
theorem PG.p7(G:Av c π H s)(hw:wr<=H.length)(hf:o.isFreed=false)(hok:Jh o)
  (hor:(s.heap.push o).get? s.heap.objs.size=some o->IT (ext π H.length s.heap.objs.size) (H.length+1) (s.heap.push o) ao s.heap.objs.size):
  PG c wr none π H s (H++[ao]) (ext π H.length s.heap.objs.size) {s with heap:=s.heap.push o}/\s.heap.get? s.heap.objs.size=none/\(s.heap.push o).get? s.heap.objs.size=some o:=
 have Qg:=Bp s.heap hf
 have vC:=Bx s.heap (AP _)
 ⟨.add G hw (Kp.BS o) vC (hor Qg) ⟨_,Qg,hok⟩,vC,Qg⟩
def fh(c:Cx)(vs:List AV)(ss:List Src)(wr:Nat)(π₂:Pl)(H:List AO)(s₂:Aj)(z:Ah)(s₃:Aj):Prop:=∃zs π₃ TI,zs.map (·.1)=ss/\PG c wr none π₂ H s₂ (H++[AO.raw vs.length]) π₃ s₃/\(∀b,ZX z (π₃.at' H.length) zs b->s₂.heap.get? b=none)/\aD c H.length zs z TI .none 0 π₃ (H++[AO.raw vs.length]).length s₃.heap/\zs.length=vs.length
theorem j1(G:Av c π₂ H s₂)(hw:wr<=H.length)(hm:ss.length=vs.length/\∀a b,(a,b)∈vs.zip ss->Mx c H a b/\nN b=true)(h8:vs.length<=8)(rv:Ag π₂ H.length s₂.heap vs cvs)
  (k:∀z s₃,fh c vs ss wr π₂ H s₂ z s₃->Q (.done (.ret (.ref z))) s₃):Ae c.m A (Bk.«zip.__new__» ⟨.type "zip" ::cvs,[]⟩) Q E s₂:=by
 have hty:isType (.type "zip")=pure true:=rfl
 have hc:Bk.SmallTypes.newClass "zip" ⟨.type "zip" ::cvs,[]⟩=pure (.type "zip",cvs):=by
  show(isType (.type "zip")>>=_)=_
  rw[hty,pure_bind]
  show(J4 (.type "zip") (.type "zip")>>=_)=_
  rw[sub_zip,pure_bind]
  rfl
 show Ae _ _ (Bk.SmallTypes.newClass "zip" ⟨.type "zip" ::cvs,[]⟩>>=_) _ _ _
 rw[hc,pure_bind]
 show Ae _ _ (Bk.SmallTypes.iterAll cvs>>=_) _ _ _
 refine Ac ?_
 refine Ac (p6 ?hf G vs ss [] cvs s₂ hm (.refl _) G (λp hp=>nomatch hp) Wb rv λzs s₃ e1 K₃ G₃ b3 nd3=>An ?_)
 case hf=>exact λ_ _=>rfl
 rw[List.nil_append] at b3 nd3 ⊢
 have hzl:zs.length=vs.length:=by rw[<-hm.1,<-e1,AY]
 have hz8:=le8 (hzl▸h8)
 refine Ac (LY (Ac (LY ?_)))
 have P₄:=PG.fe (wr:=wr) (L:=none) (Obj.mk (Fk "tuple") none (Sb ((zs.map λp=>Bq p.2).toArray.toList).toArray) #[]) G₃ rfl
 have P₅:=PG.p7 (ao:=.raw vs.length) (o:=Obj.mk (Fk "tuple") none (Sb (((zs.map λp=>Bq p.2).toArray.toList).map λ_=>D2).toArray) #[]) P₄.1.g hw rfl (.data nofun) λhg=>⟨_,_,hg,by simp[hzl]⟩
 have pU:=((PG.pure G K₃).trans P₄.1).trans P₅.1
 refine Ac ?_
 delta Bk.SmallTypes.newRecord Bk.SmallTypes.ownedTupleFields
 refine Ew ?_
 have P₆:=PG.fe (wr:=wr) (L:=none) (Obj.mk (Fk "zip") none (Data.fields ([D2,Ad.bool false]++[Ad.bool false,Bq s₃.heap.objs.size,Bq (s₃.heap.push (Obj.mk (Fk "tuple") none (Sb ((zs.map λp=>Bq p.2).toArray.toList).toArray) #[])).objs.size]).toArray) #[]) P₅.1.g rfl
 have hTI:=P₄.2.2.1
 have hTM:=P₄.2.2.2
 have Aap:=(P₅.1.trans P₆.1).kp.keep _ _ (λq=>q.elim nofun hTM) (P₄.1.g.tabs.D5 hTI nofun) hTI
 have QI:=λp hp=>(b3 p hp).2.1.pg ((P₄.1.trans P₅.1).trans P₆.1) G₃ C9.none
 refine An (k _ _ ⟨zs,_,s₃.heap.objs.size,e1,pU.trans P₆.1,λb x=>x.elim (λx=>x▸pU.gone P₆.2.1) λx=>x.elim (λx=>?_) λx=>x.elim λp hp=>hp.2▸(b3 p hp.1).2.2,
  ⟨by rw[D8];exact P₆.2.2.1,P₆.2.2.2,P₅.1.g.absent P₆.2.1,by rw[BO];exact CF _,Aap,λq=>(P₅.1.new _ q).elim hTM λq=>(nomatch q.symm.trans hTI),nd3,λp hp=>⟨(b3 p hp).1,QI p hp⟩⟩,hzl⟩)
 rw[D8] at x
 exact x▸((PG.pure G K₃).trans P₄.1).gone P₅.2.1
theorem fj{α:Type}{l:List α}(h:l.length=2):∃a b,l=[a,b]:=by
 match l,h with
 |[a,b],_=>exact⟨a,b,rfl⟩
theorem fk{α:Type}{l:List α}(h:l.length=3):∃a b e,l=[a,b,e]:=by
 match l,h with
 |[a,b,e],_=>exact⟨a,b,e,rfl⟩
theorem Ph.zip(ht:T4 25 t=true)(hf:Bt c d fr lo H (.Name x xp) (.val (.type "zip")) H)(ha:IU c d fr lo H es vs H1)(hst:Ea es)
  (hm:ss.length=vs.length/\∀a b,(a,b)∈vs.zip ss->Mx c H1 a b/\nN b=true)(h23:vs.length=2\/vs.length=3):Ph c d fr lo H (.Call (.Name x xp) es [] p) t (.zip H1.length ss) (H1++[AO.raw vs.length]):=by
 intro A env π s E R F G L
 refine QJ hf ha hst .ty R F G L λcf cvs s₂ π₂ P₂ rf rv=>?_
 rcases rf.val with ⟨⟩
 have h8:vs.length<=8:=h23.elim (λh=>h▸⋯) λh=>h▸⋯
 have main:∀(A':AG)(R':Result->Aj->Prop),(∀z s₃,s₃.TypeIs (.ref z) "zip" /\fh c vs ss fr.wr π₂ H1 s₂ z s₃->R' (.ok (.ret (.ref z))) s₃)->
   Ae c.m A' (Bk.«zip.__new__» ⟨.type "zip" ::cvs,[]⟩) (λfin s'=>∃v,fin=.done (.ret v)/\R' (.ok (.ret v)) s') (λe s'=>R' (.error e) s') s₂:=λA' R' hR=>
  j1 P₂.g (AA F.wr P₂.le) hm h8 rv λz s₃ M=>⟨_,rfl,hR z s₃ ⟨M.elim λzs q=>q.elim λπ₃ q=>q.elim λTI q=>⟨_,q.2.2.2.1.hz,rfl⟩,M⟩⟩
 have last:∀z s₃,fh c vs ss fr.wr π₂ H1 s₂ z s₃->Ae c.m A (Fj (.ref z)) (λit s₂=>∃π' X I,PG c fr.wr none π H s (H1++[AO.raw vs.length]) π' s₂/\(∀b,X b->s.heap.get? b=none)/\Pf c d (.zip H1.length ss) t it X I/\I 0 π' (H1++[AO.raw vs.length]).length s₂.heap) E s₃:=λz s₃ M=>
  M.elim λzs q=>q.elim λπ₃ q=>q.elim λTI q=>by
   have IP:=aD.iter (c:=c) (d:=d) (l:=H1.length) (z:=z) (TI:=TI) (TO:=π₃.at' H1.length) ht (q.2.2.2.2▸h8) (λe=>by have:=q.2.2.2.2;rw[e] at this;exact h23.elim (λh=>nomatch this.trans h) λh=>nomatch this.trans h)
   rw[q.1] at IP
   exact IP.self ⟨q.2.2.2.1,rfl⟩ ⟨π₃,_,_,P₂.trans q.2.1,λb x=>P₂.gone (q.2.2.1 b x),IP,q.2.2.2.1,rfl⟩
 have hlen:=rv.length
 refine h23.elim (λh=>(fj (hlen.trans h)).elim λa q=>q.elim λb q=>?_) λh=>(fk (hlen.trans h)).elim λa q=>q.elim λb q=>q.elim λe q=>?_
 ·subst q
  exact callType_newIn dk ⋯ (PySem.F.typeCall_zip_2 _ _) (PySem.F.newCall_zip_2 _ _) (λobj=>PySem.F.args_object_init_3 obj _ _) di (MeetsIn.of_wp λA R s h=>h)
   (main _ _ λz s₃ h=>⟨h.1,last z s₃ h.2⟩)
 ·subst q
  exact callType_newIn dk ⋯ (pZ _ _ _) (vB _ _ _) (λobj=>p4 obj _ _ _) di (MeetsIn.of_wp λA R s h=>h)
   (main _ _ λz s₃ h=>⟨h.1,last z s₃ h.2⟩)
end
section
open Builtin Builtin.ObjectAttr
noncomputable def Xl(K:AI)(C:Ah)(ga:A3)(an:List Str)(ms:List (Str×Ah))(mro:List Ad):Aa:=
 A7 K (.ref C) "__getattribute__" ==some (some (.builtin ga))&&(A7 K (.ref C) "__getattr__" ==some none&&(A7 K (.ref C) "__setattr__" ==some (some (.builtin "object.__setattr__"))&&
  (OC K C&&(an.all (λx=>A7 K (.ref C) x==some none)&&(ms.all (λp=>A7 K (.ref C) p.1==some (some (.ref p.2))&&isFn K (.ref p.2))&&(Iy K C).any λcd=>cd.mro==mro)))))
structure Po(K:AI)(C:Ah)(ga:A3)(an:List Str)(ms:List (Str×Ah))(mro:List Ad):Prop where
 ga:A7 K (.ref C) "__getattribute__" =some (some (.builtin ga))
 hk:A7 K (.ref C) "__getattr__" =some none
 sa:A7 K (.ref C) "__setattr__" =some (some (.builtin "object.__setattr__"))
 dict:OC K C=true
 an:∀x∈an,A7 K (.ref C) x=some none
 ms:∀p∈ms,A7 K (.ref C) p.1=some (some (.ref p.2))/\EV K (.ref p.2)=some (.type "function")
 mro:∃cd,Iy K C=some cd/\cd.mro=mro
theorem Ds{α:Type}[BEq α][LawfulBEq α]{a b:α}(h:(a==b)=true):a=b:=eq_of_beq h
theorem QK{K:AI}(h:Xl K C ga an ms mro=true):Po K C ga an ms mro:=
 have h2:=Am h;have h3:=Am h2;have h4:=Am h3;have h5:=Am h4;have h6:=Am h5
 ⟨Ds (Ax h),Ds (Ax h2),Ds (Ax h3),Ax h4,λx hx=>Ds (BV.mp (Ax h5) x hx),λp hp=>have q:=BV.mp (Ax h6) p hp;⟨Ds (Ax q),Ds (Am q)⟩,by
  have h7:=Am h6
  cases hc:Iy K C with
  |none=>rw[hc] at h7;cases h7
  |some cd=>rw[hc] at h7;exact⟨cd,rfl,Ds h7⟩⟩
structure Be(c:Cx):Prop where
 v:Po c.K 165 "object.__getattribute__" KE D6 [.ref 165,.type "object"]
 a:Po c.K 249 "list.__getattribute__" KG (D7++OP) [.ref 249,.type "list",.type "object"]
 gi:A7 c.K (.ref 249) "__getitem__" =some (some (.builtin "list.__getitem__"))
 si:A7 c.K (.ref 249) "__setitem__" =some (some (.builtin "list.__setitem__"))
 app:A7 c.K (.ref 249) "append" =some (some (.builtin "list.append"))
 bool:A7 c.K (.ref 249) "__bool__" =some none
 iter:A7 c.K (.ref 249) "__iter__" =some (some (.builtin "list.__iter__"))
 len:A7 c.K (.ref 249) "__len__" =some (some (.ref 216))
 str:A7 c.K (.ref 249) "__str__" =some (some (.ref 223))
 seq:noSeq c.K 249=true
section
variable{c:Cx}{lo Bv BJ:Lo}
theorem Pp{h:Ay}{m}(hn:h.Ns1 a m)(ho:h.get? a=some o)(x:Str):lookIn x o=some (m x):=by
 obtain ⟨o',es,ep,e,hd,hk,_,hm⟩:=hn
 rw[ho] at e;rcases e with ⟨⟩
 unfold lookIn
 rw[hd]
 have hm:=hm x
 unfold ES findBy at hm
 rw[<-AE.find?_toList] at hm
 have Aaq:es.toList.any (·.refKey)=false:=by
  rw[AE.any_toList,AE.any_eq_false'];intro e he;obtain ⟨n,t,h⟩:=hk e he;simp[RV.refKey,h]
 dsimp only
 cases q:es.toList.find? (·.key.isStr x) with
 |some e=>rw[q] at hm;simpa using hm
 |none=>rw[q] at hm;rw[AD (by rw[Aaq];exact BI)];simpa using hm
structure MT(π:Pl)(H:List AO)(h:Ay)(C:Ah)(a:Ah)(dl:Nat)(es:List (Str×AV))(m:Str->Ab Ad)(ox od:Obj):Prop where
 inst:InstAt h a ox C (some od)
 dict:ox.dict=some (π.at' dl)
 hd:h.get? (π.at' dl)=some od
 ns:h.Ns1 (π.at' dl) m
 rel:∀x,OV π H.length h (es.lookup x) (m x)
 wi:Within m (KE++KG)
def YW(H:List AO)(l:Nat)(C:Ah)(dl:Nat):Prop:=H[l]?=some (.inst C dl)\/(C=249/\∃xs,H[l]?=some (.acc dl xs))
theorem MT.of(G:Av c π H s){l dl:Nat}(hH:YW H l C dl)(hd:H[dl]?=some (.dict es)):
  ∃m ox od,MT π H s.heap C (π.at' l) dl es m ox od:=
 (G.objs dl _ hd).elim λm q=>q.elim λod q=>hH.elim (λhH=>(G.objs l _ hH).elim λsl e=>⟨m,_,od,⟨e.1,rfl,rfl,q.2.2.1⟩,rfl,q.2.2.1,q.1,q.2.2.2,q.2.1⟩)
  λhH=>hH.2.elim λxs h=>(G.objs l _ h).elim λvs e=>e.elim λk e=>e.elim λsl e=>by
   obtain rfl:=hH.1
   exact⟨m,_,od,⟨e.1,rfl,rfl,q.2.2.1⟩,rfl,q.2.2.1,q.1,q.2.2.2,q.2.1⟩
theorem QL:Ip It "list.__getattribute__" =some Bk.«object.__getattribute__» :=PySem.am_entry_list_getattribute
theorem Uu:Dp "list.__getattribute__" =some .slot:=⋯
theorem QM:G8 "list.__getattribute__" =some ("list","__getattribute__"):=⋯
theorem fo{K:AI}(X:K.In s.heap)(I:InstAt s.heap x ox 249 od)
  (hga:A7 K (.ref 249) "__getattribute__" =some (some (.builtin "list.__getattribute__")))(hk:A7 K (.ref 249) "__getattr__" =some none)(hc:Iy K 249=some cd)(hm:cd.mro=[.ref 249,.type "list",.type "object"])
  (hf:findObj K 249 od name=some (.value v))(hh:handedIn v=true)(h:Q v {s with toks:=s.toks+1}):Ae c.m A (getAttr (.ref x) name expr) Q E s:=by
 obtain ⟨j2,g,dd,t,os⟩:=s
 have L0:=I.type (M:=AW c.prog c.w)
 have L1:=Dr (M:=AW c.prog c.w) X hga
 have L2:=Dr (M:=AW c.prog c.w) X hk
 have L3:=looks_find (M:=AW c.prog c.w) X I hf
 unfold getAttr getAttrBy
 refine Ac (RO (BE (Ac (L0.at (Ac (L1.at ?_))))))
 unfold getAttrByItsOwn hookBefore callGetattribute boundAndCalled
 refine Ac (L2.at ?_)
 refine Ac (GZ (BE ?_))
 have e1:(expr&&onTheHeap (R7 "list.__getattribute__"))=false:=by rcases expr with ⟨⟩<;>rfl
 rw[e1,AD BI]
 refine Ac (Ci (R1.bind _) ?_)
 have sub:AR c.m j2 (Ik (.ref x) (.type "list")) true:=L0.andThen (Iz X (by unfold IB;rw[hc,Gy,AD (by rw[hm];decide),hm];rfl))
 refine DE (Rz R1.plain QL (@Mi c.m _ _ ⟨j2,g,dd,t+1,os⟩ "list.__getattribute__" "list" "__getattribute__" (.ref x) [.str name t] [] _ Uu QM sub (cY _ _) ?_))
 unfold Bk.«object.__getattribute__»
 refine Ac (Ci rfl ?_)
 dsimp only
 refine Ac (Ci rfl ?_)
 refine Ac (L0.at (Ac (L3.at ?_)))
 refine An ?_
 show Ae _ _ (handedOut v) _ _ _
 rw[handedOut_of hh];exact An h
def nR(c:Cx)(d:Nat)(H:List AO)(o:AV)(x:Str)(r:AV):Prop:=
 ∀(A:AG)(π:Pl)(s:Aj)(E:EP)(cv:Ad)(expr:Aa),A5 d A->Av c π H s->As π H.length s.heap o cv->
  Ae c.m A (getAttr cv x expr) (λrv s'=>Kp no s s'/\As π H.length s'.heap r rv) E s
theorem Uv(hr:mZ r=true)(v:As π n h r cv):handedIn cv=true:=by
 induction r using AV.casesOn with
 |val w=>rw[v.val];rcases w with ⟨⟩<;>first | rfl | exact ff hr
 |int i=>exact v.int.elim λt e=>e▸rfl
 |AS i=>exact v.AS.elim λt e=>e▸rfl
 |str i=>exact v.str.elim λt e=>e▸rfl
 |tup i=>exact v.tup.elim λt e=>e.elim λ_ e=>e.1▸rfl
 |lst i=>exact v.lst.elim λt e=>e.elim λ_ e=>e.1▸rfl
 |loc i=>exact v.loc.2▸rfl
 |Gw _ _ _=>exact v.Gw.elim λt e=>e.1▸rfl
 |BH _=>exact v.BH.elim λt e=>e.1▸rfl
theorem Uw(h:Kg x l=true):x∈l:=V9.mp (SJ x l▸h)
theorem MT.own{K:AI}{dl:Nat}{m}(I:MT π H h C a dl es m ox od)(Ca:Po K C ga an ms mro)(hx:x∈an)(hr:es.lookup x=some r):
  ∃cv,findObj K C (some od) x=some (.value cv)/\As π H.length h r cv:=by
 have q:=I.rel x
 rw[hr] at q
 exact WT (λcv q=>⟨findObj_own Ca.dict (Ca.an x hx) rfl (by rw[Pp I.ns I.hd,q.1]),q.2⟩) q
theorem YX:Ok (pf S v x) λp=>∃l C,v=.loc l/\S.H[p.1]?=some (.dict p.2)/\YW S.H l C p.1/\((C=165/\x∈KE)\/(C=249/\x∈KG)):=by
 refine Ez.bind λl e=>Ok.bind (P:=λd=>∃C,YW S.H l C d/\((C=165/\x∈KE)\/(C=249/\x∈KG))) (Ok.self.bind λo ho=>?_) λd h=>dictAt.bind λes hd=>.some (h.elim λC h=>⟨l,C,e,hd,h⟩)
 induction o using AO.casesOn with
 |inst C d=>exact .guard λh=>.some ⟨C,.inl ho,.inl ⟨Cb (Ax h),Uw (Am h)⟩⟩
 |acc d xs=>exact .guard λh=>.some ⟨249,.inr ⟨rfl,xs,ho⟩,.inr ⟨rfl,Uw h⟩⟩
 |_=>exact .none
theorem fq(Cl:Be c){v:AV}:Ok (m3 S v x) (nR c d S.H v x):=
 YX.bind λp h=>Ok.self.bind λr hr=>.guard λhh=>.some λA π s E cv expr R G rv=>h.elim λl h=>h.elim λC h=>by
  have hl:=(D9 ..).symm.trans hr
  have h1:=h.1
  subst h1
  rw[rv.loc.2]
  refine(MT.of G h.2.2.1 h.2.1).elim λm I=>I.elim λox I=>I.elim λod I=>h.2.2.2.elim (λq=>?_) λq=>?_
  ·obtain rfl:=q.1
   exact(I.own Cl.v q.2 hl).elim λcv w=>get_value (c.DA G) I.inst Cl.v.ga w.1 (Uv hh w.2) ⟨.toks,w.2⟩
  ·obtain rfl:=q.1
   exact(I.own Cl.a q.2 hl).elim λcv w=>Cl.a.mro.elim λcd z=>fo (c.DA G) I.inst Cl.a.ga Cl.a.hk z.1 z.2 w.1 (Uv hh w.2) ⟨.toks,w.2⟩
set_option tactic.hygienic true in
theorem GD(h:baseOk o=true)(x:Str)(env:Env)(m:Sem Ad):attributeBase o x env m=m:=by
 rcases o with ⟨⟩<;>first | rfl | skip
 rename_i f as ks p
 rcases f with ⟨⟩<;>first | rfl | skip
 rcases as with ⟨⟩<;>first | rfl | skip
 rcases ks with ⟨⟩<;>first | rfl | exact ff h
theorem Bt.attr(ho:Bt c d fr lo H o v H1)(hb:baseOk o=true)(ha:nR c d H1 v x r):Bt c d fr lo H (.Attribute o x p) r H1:=by
 intro A env π s E R F G L
 rw[arm_eval_Attribute,GD hb]
 refine Ac (ho.use R F G L λcv s₁ π₁ P₁ F₁ L₁ r₁=>Ac (DN (Ac (BE ?_))))
 exact AJ (ha A π₁ s₁ E cv true R P₁.g r₁) (λrv s₂ q=>Ac (Wu (An ⟨π₁,P₁.DU q.1,q.2⟩))) λ_ _ e=>e
end
end
section
open Builtin Builtin.ObjectAttr
section
variable{c:Cx}{d:Nat}{fr:FD}{lo Bv BJ:Lo}{H H' EZ H1 H2 H3:List AO}
theorem vE(self:Ad)(C:Ah):RQ self "__setattr__" [.ref C,.type "object"]=pure ():=by rw[refuseLoop_ref];exact dj.passes self
theorem nS(self:Ad)(C:Ah):RQ self "__setattr__" [.ref C,.type "list",.type "object"]=pure ():=by
 rw[refuseLoop_ref];kernel_rfl
theorem j3{K:AI}{m}(X:K.In s.heap)(I:InstAt s.heap x ox C (some od))(hd:ox.dict=some dx)
  (hn:s.heap.Ns1 dx m)(hw:Within m ns)(hsz:ns.length<=1000)(hsa:A7 K (.ref C) "__setattr__" =some (some (.builtin "object.__setattr__")))(hx:A7 K (.ref C) name=some none)(hc:Iy K C=some cd)(hh:cd.hasDict=true)
  (hm:cd.mro.contains (.type "object")=true)(hp:RQ (.ref x) "__setattr__" cd.mro=pure ())
  (h:∀h' tk,h'.Ns1 dx (λy=>if y=name then some v else m y)->Hb dx s.heap h'->Q () {s with heap:=h',toks:=tk}):Ae c.m A (setAttr (.ref x) name v) Q E s:=by
 refine set_plain X I hsa ?_
 obtain ⟨j2,g,dd,t,os⟩:=s
 have SF:=dj
 have ne:cd.mro.isEmpty=false:=by cases q:cd.mro with | nil=>rw[q] at hm;cases hm | cons _ _=>rfl
 have T:=I.type (M:=AW c.prog c.w)
 have sub:AR c.m j2 (Ik (.ref x) (.type "object")) true:=T.andThen (Iz X (by unfold IB;rw[hc,Gy,AD (by rw[ne];decide),hm]))
 refine Rz SF.slot.plain SF.entry (@Mi c.m _ _ ⟨j2,g,dd,t+1,os⟩ "object.__setattr__" "object" "__setattr__" (.ref x) [.str name t,v] [] _ SF.kind SF.split sub (SF.args (.ref x) (.str name t) v) ?_)
 have hmr:AR c.m j2 (mroOf (.ref C)) cd.mro:=(Oz X hc).andThen .now
 have L1:=Dr (M:=AW c.prog c.w) X hx
 rw[osa_eq,refuse_eq]
 refine Ac (Ac (T.at (Ac (hmr.at ?_))))
 rw[hp]
 refine An (Ac (T.at (Ac (L1.at ?_))))
 refine Ac (Ci rfl ?_)
 obtain ⟨hx,hcl,hno,hdd⟩:=I
 obtain ⟨oc,odi,oda,osl⟩:=ox
 subst hcl hd
 refine Ac (An (Ac (Ac (RI hx (Ac ((Oz X hc).at ?_))))))
 rw[hh]
 refine An ?_
 refine Ac (An (Ac (wpAny_nsSet1 hn λh' SN hs=>?_)))
 obtain ⟨oD,esD,epD,hoD,hdD,hcD⟩:=SN.count (Within.cons name v hw)
 refine Ac (wpAny_lookBehind hoD (by rw[hdD];exact pastItsLine_dict (AA hcD (by rw[JQ,Ij];exact(pw [.l .p (.k 1000)] (.l (.A .p (.k 1)) (.k (16777216+1))) [] [_]) hsz))) ?_)
 exact An (h h' _ SN hs)
end
end
section
open Builtin Builtin.ObjectAttr
section
variable{c:Cx}{d:Nat}{fr:FD}{lo Bv BJ:Lo}{H H' EZ H1 H2 H3:List AO}
theorem HI(G:Av c π H s){l dl:Nat}(e:H[l]?=some (.acc dl xs)):∃vs k sl,s.heap.get? (π.at' l)=some ⟨.ref 249,some (π.at' dl),.seq vs k,sl⟩/\Ag π H.length s.heap xs vs.toList/\dl<H.length/\
  AR c.m s.heap (CR (.ref (π.at' l))) (.ref 249):=by
 obtain ⟨vs,k,sl,e,hd,hr⟩:=G.objs l _ e
 exact⟨vs,k,sl,e,hr,hd,(D4 e).andThen .now⟩
theorem Xm(Cl:Be c){s:Aj}(X:c.K.In s.heap)(T:AR c.m s.heap (CR (.ref x)) (.ref 249))(t:Ad)(ht:([.ref 249,.type "list",.type "object"]:List Ad).contains t=true):
  AR c.m s.heap (Ik (.ref x) t) true:=by
 obtain ⟨cd,hc,hm⟩:=Cl.a.mro
 exact T.andThen (Iz X (by unfold IB;rw[hc,Gy,AD (by rw[hm];decide),hm,ht]))
theorem Xn{M:Model}{A:AG}{E:EP}{s:Aj}{i owner n:A3}{self:Ad}{rest:List Ad}{kw:List (Str×Ad)}{Q:Ce->Aj->Prop}
  (hk:Dp i=some .method)(hs:G8 i=some (owner,n))(hi:AR M s.heap (Ik self (.type owner)) true)(ha:C5 i ⟨self::rest,kw⟩)(q:Q () s):
  Ae M A (Ob i ⟨self::rest,kw⟩) Q E s:=by
 rw[Ob,hk,hs]
 refine Ac (hi.here ?_)
 cases Aar:dw i with
 |none=>exact An q
 |some sig=>
  simp only[C5,Aar] at ha
  have h2:=ha
  show Ae M A (Bind.checkArgs i sig ⟨self::rest,kw⟩) Q E s
  rw[h2];exact An q
set_option backward.match.sparseCases true in
theorem SV{id n:A3}(hk:Dp id=some .slot\/Dp id=some .method)(hs:G8 id=some ("list",n))(hp:plainId id=true)(he:Ip It id=some B)
  (ha:C5 id ⟨.ref x::rest,[]⟩)(hi:AR c.m s.heap (Ik (.ref x) (.type "list")) true)
  (h:Ae c.m A.in1 (B ⟨.ref x::rest,[]⟩) (λfin s'=>∃v,fin=.done (.ret v)/\Q v s') E s):Ae c.m A (call (.builtin id) (.ref x::rest)) Q E s:=by
 have h':Ae c.m A.in1 (B ⟨.ref x::rest,[]⟩) (λfin s'=>match fin with | .done f=>(match (.ok f:Result) with | .ok (.ret v)=>Q v s' | .ok _=>Cd | .error e=>E e s') | .again c'=>c'.quiet=true/\EO c.m A c' (λr s'=>match r with | .ok (.ret v)=>Q v s' | .ok _=>Cd | .error e=>E e s') s')
   (λe s'=>E e s') s:=AJ h (λfin s' h=>h.elim λv q=>by rw[q.1];exact q.2) λ_ _ x=>x
 refine DE (Rz hp he ?_)
 rcases hk with hk | hk
 ·exact @Mi c.m _ _ s id "list" n (.ref x) rest [] _ hk hs hi ha h'
 ·exact @Xn c.m _ _ s id "list" n (.ref x) rest [] _ hk hs hi ha h'
theorem Pq(Cl:Be c){id n:A3}(X:c.K.In s.heap)(T:AR c.m s.heap (CR (.ref x)) (.ref 249))
  (hf:A7 c.K (.ref 249) name=some (some (.builtin id)))(hb:∀self,bindSpecial (.builtin id) self=pure (.builtin id,[self]))(hk:Dp id=some .slot\/Dp id=some .method)(hs:G8 id=some ("list",n))(hp:plainId id=true)(he:Ip It id=some B)
  (ha:C5 id ⟨.ref x::rest,[]⟩)(h:Ae c.m A.in1 (B ⟨.ref x::rest,[]⟩) (λfin s'=>∃v,fin=.done (.ret v)/\Q (some v) s') E s):Ae c.m A (callSpecial? (.ref x) name rest) Q E s:=by
 have S:AR c.m s.heap (Im (.ref x) name) (some (.builtin id)):=T.andThen (Dr X hf)
 refine Ac (S.here ?_)
 refine BE (Ac (Ci (hb _) ?_))
 refine Ac (SV hk hs hp he ha (Xm Cl X T _ ⋯) (AJ h (λfin s' h=>h.imp λv q=>⟨q.1,An q.2⟩) λ_ _ x=>x))
theorem j4:Dp "list.__getitem__" =some .slot\/Dp "list.__getitem__" =some .method:=⋯
theorem ft:G8 "list.__getitem__" =some ("list","__getitem__"):=⋯
theorem j5:Dp "list.__setitem__" =some .slot\/Dp "list.__setitem__" =some .method:=⋯
theorem fu:G8 "list.__setitem__" =some ("list","__setitem__"):=⋯
theorem Ux(Cl:Be c)(X:c.K.In s.heap)(T:AR c.m s.heap (CR (.ref x)) (.ref 249))(q:Q k s):
  Ae c.m A (sequenceKey (.ref x) k name) Q E s:=by
 have h:=Cl.seq
 unfold noSeq at h
 rw[BV] at h
 have N:∀l:List A3,(∀n∈l,(subIn c.K (.ref 249) (.type n)==some false)=true)->AR c.m s.heap (l.anyM λn=>J4 (.ref 249) (.type n)) false:=by
  intro l
  induction l with
  |nil=>intro _;exact .now
  |cons n l ih=>
   intro hl
   have h1:=looks_subIn (M:=AW c.prog c.w) X (beq_iff_eq.mp (hl n (CT ..)))
   have h2:=ih λn hn=>hl n (Ee _ hn)
   exact h1.andThen h2
 refine Ac (T.here ?_)
 refine Ac ((N _ h).here ?_)
 exact An q
theorem Pt(Cl:Be c)(X:c.K.In s.heap)(T:AR c.m s.heap (CR (.ref x)) (.ref 249))
  (h:Ae c.m A.in1 (Bk.«list.__getitem__» ⟨[.ref x,k],[]⟩) (λfin s'=>∃v,fin=.done (.ret v)/\Q v s') E s):Ae c.m A (Me (.ref x) k) Q E s:=by
 refine BE (Ac (Ux Cl X T ?_))
 refine Ac (Pq Cl X T Cl.gi LU.bind j4 ft LU.plain entry_list_getitem (args_list_getitem _ _) (AJ h (λfin s' h=>h.imp λv q=>⟨q.1,An q.2⟩) λ_ _ x=>x))
end
end
section
open Builtin Builtin.ObjectAttr
section
variable{c:Cx}{d:Nat}{fr:FD}{lo Bv BJ:Lo}{H H' EZ H1 H2 H3:List AO}
theorem YY(Cl:Be c)(X:c.K.In s.heap)(T:AR c.m s.heap (CR (.ref x)) (.ref 249))
  (hg:Ae c.m A (Me (.ref x) i) Q E s)(hs:Oh slice false (.ref x) i=operate ops (Me (.ref x) i)):Ae c.m A (Wr value slice (.ref x) i) Q E s:=by
 have S:AR c.m s.heap (Im (.ref x) "__getitem__") (some (.builtin "list.__getitem__")):=T.andThen (Dr X Cl.gi)
 refine Ac ?_
 rw[getitemInPython_of_ne (o:=.ref x) nofun]
 refine Ac (S.here ?_)
 have fin:Ae c.m A (Oh slice false (.ref x) i) (λr s₃=>Ae c.m A (letTemporaryGo value (.ref x) r>>=λ_=>pure r) Q E s₃) E s:=by
  rw[hs]
  exact wpAny_operating (AJ hg (λr s₃ h₃=>Ac (Wu (An h₃))) λ_ _ x=>x)
 first
  |exact An (Ac fin)
  |exact Ac (An (Ac fin))
  |exact Ac fin
theorem Xo(h:Cp k n=some j)(hn:n<2^20):Ou k=true:=by
 have q:=(IY h hn).1
 unfold Ou
 simp only[HQ,Gl]
 first | exact⟨q.1,q.2⟩ | lia
theorem j6(Cl:Be c):eE c:=by
 intro d H l dd xs k j r hH hsz hj hx A π s E ca ci value slice R G ra ri hsl
 refine Bm λGG fin=>ri.int.elim λt ht=>(HI G hH).elim λvs q=>q.elim λkk q=>q.elim λsl q=>(Kr q.2.1 hx).elim λv hv=>fin ?_
 rw[ra.loc.2,ht]
 have X:=c.DA G
 have T:=q.2.2.2
 refine YY Cl X T (Pt Cl X T ?_) (hsl _ _)
 show Ae _ _ (WJ (.int k t)>>=_) _ _ s
 refine Ac (cM (Xo hj (jO hsz)) ?_)
 induction k using Int.casesOn with
 |ofNat m=>
  refine Ac (Ac (wpAny_seqItemAt q.1 rfl (An ?_)))
  have e:m=j:=(IY hj (jO hsz)).2 (HF m)
  rw[e,hv.1,<-e]
  first
   |exact Ac (An (An ⟨v,rfl,.refl s,hv.2⟩))
   |exact An ⟨v,rfl,.refl s,hv.2⟩
 |negSucc m=>
  refine Ac (Ac ?_)
  refine Ac (FQ q.1 rfl (An (An ?_)))
  rw[q.2.1.size,hj]
  simp only[Gy,hv.1,Ab.map_some]
  first
   |exact Ac (An (An ⟨v,rfl,.refl s,hv.2⟩))
   |exact An ⟨v,rfl,.refl s,hv.2⟩
theorem YZ{s:Aj}(h:s.heap.get? S=some (Dc l u)):s.TypeIs (.ref S) "slice" :=⟨_,h,rfl⟩
theorem Bt.fv(Cl:Be c){l dl:Nat}(he:Bt c d fr lo H e (.loc l) H1)(hl:DS c d fr lo H1 lower li H2)(hu:DS c d fr lo H2 upper u H3)
  (ha:H3[l]?=some (.acc dl xs))(hsz:xs.length<100000):Bt c d fr lo H (.Subscript e (.Slice lower upper none p) q) (.lst (OO xs li u)) H3:=
 he.slice hl hu λA π s E ca pl pu R G r hpl pM _ _=>by
  rw[r.loc.2]
  have hos:(s.heap.push (Dc (CU pl) (CU pu))).get? s.heap.objs.size=some (Dc (CU pl) (CU pu)):=Bp _ rfl
  have K₄:Kp no s {s with heap:=s.heap.push (Dc (CU pl) (CU pu))}:=Kp.BS _
  have G₄:=G.DU K₄
  refine Bm λGG fin=>(HI G₄ ha).elim λvs q=>q.elim λkk q=>q.elim λsl q=>fin ?_
  have X:=c.DA G₄
  have vG:=YZ (s:={s with heap:=s.heap.push (Dc (CU pl) (CU pu))}) hos
  refine YY Cl X q.2.2.2 (Pt Cl X q.2.2.2 ?_) rfl
  show Ae _ _ (WJ (.ref s.heap.objs.size)>>=_) _ _ _
  refine Ac ?_
  refine Ac (J0 vG slice_no_index ?_)
  refine An ?_
  refine Ac (L5 vG ?_)
  rw[AD ⋯,listSliceParts_eq]
  refine Ac (Ac (D0 hos rfl rfl (Ac (LZ .none ?_))))
  rw[AD (by exact BI)]
  refine Ac (D0 hos rfl rfl (Ac (LZ hpl (Ac (D0 hos rfl rfl (Ac (LZ pM (An ?_))))))))
  refine Ac ?_
  refine Ac (FQ q.1 rfl (An (Ac (Ci (sliceIndices_raw li u none vs.size nofun) ?_))))
  refine Ac (Ew (An ⟨_,rfl,K₄.trans (.BS _),?_⟩) (AA (slicePick_size_le vs li u none) (size_le hsz q.2.1.size)))
  show As π H3.length ((s.heap.push _).push {cls:=.type "list",data:=.seq (RX vs li u none)}) _ _
  rw[Ug]
  exact As.newList G₄ (q.2.1.cut li u)
end
end
section
open Builtin Builtin.ObjectAttr
section
variable{c:Cx}{d:Nat}{fr:FD}{lo Bv BJ:Lo}{H H' EZ H1 H2 H3:List AO}
theorem Y0(li:Ab Int)(n:Nat):li.elim 0 (DF n)<=n:=by
 induction li using BK with
 |none=>exact Co _
 |some i=>exact Int.toNat_le.mpr (Int.max_le.mpr ⟨Int.ofNat_nonneg n,Int.min_le_right _ _⟩)
theorem Uy(e o i:Expr)(p:Pos)(n:Nat)(env:Env):RU e (some (.Subscript o i p)) n env=pure false:=by rcases e with ⟨⟩<;>rfl
theorem fw(e o:Expr)(x:Str)(p:Pos)(n:Nat)(env:Env):RU e (some (.Attribute o x p)) n env=pure false:=by rcases e with ⟨⟩<;>rfl
theorem j7(vs us:AE Ad)(k:Nat)(hk:k<=vs.size):vs.extract 0 ((k:Nat):Int).toNat++us++vs.extract (max ((k:Nat):Int) ((vs.size:Nat):Int)).toNat vs.size=(vs.toList.take k++us.toList).toArray:=by
 rw[Int.max_eq_right (DM.mpr hk),NV,NV]
 apply NP.mp
 simp[AE.toList_extract]
theorem Uz(Cl:Be c){l dl wr:Nat}(G:Av c π H s)(hos:s.heap.get? S=some (Dc (CU pl) .none))(hpl:IsPart (CU pl) li)
  (ha:H[l]?=some (.acc dl xs))(hw:Jx c H v ws)(rv:As π H.length s.heap v cv)(hsz:xs.length<1000/\ws.length<1000)(hwr:wr<=l)(k:∀s',PG c wr none π H s (H.set l (.acc dl (xs.take (li.elim 0 (DF xs.length))++ws))) π s'->Q () s'):
  Ae c.m A (setItem (.ref (π.at' l)) (.ref S) cv) Q E s:=by
 refine Bm λGG fin=>(HI G ha).elim λvs q=>q.elim λkk q=>q.elim λsl q=>(hw π s G cv rv).elim λb z=>z.elim λus z=>(Er z.2.1).elim λdd y=>y.elim λnb y=>y.elim λsb ja=>fin ?_
 rw[z.1]
 have vG:=YZ hos
 have X:=c.DA G
 have T:=q.2.2.2
 have hl1:=q.2.1.size
 have jb:=z.2.2.size
 refine BE (Ac (Ux Cl X T (Ac (Pq Cl X T Cl.si RD.bind j5 fu RD.plain entry_list_setitem (args_list_setitem _ _ _) ?_))))
 refine Ac (Ci rfl ?_)
 dsimp only
 refine Ac ?_
 refine Ac (J0 vG slice_no_index ?_)
 refine An (Ac (L5 vG ?_))
 rw[AD ⋯,listSliceParts_eq]
 refine Ac (Ac (D0 hos rfl rfl (Ac (LZ .none ?_))))
 rw[AD (by exact BI)]
 refine Ac (D0 hos rfl rfl (Ac (LZ hpl (Ac (D0 hos rfl rfl (Ac (LZ .none (An ?_))))))))
 have hne:¬ (cV (Bq (π.at' l)) (Bq b)=true):=λw=>by
  have w':π.at' l=b:=by simpa[cV] using w
  have h:=AQ ((w'▸q.1).symm.trans ja)
  rcases h with ⟨⟩
 rw[AD hne]
 refine Ac ?_
 refine Ac (L5 z.2.1.typeIs ?_)
 rw[Bh ⋯]
 refine Ac (FQ ja rfl (An (Ac (Ac (FQ q.1 rfl (An (Ac (Ci (sliceIndices_raw li none none vs.size nofun) ?_))))))))
 rw[sliceBounds_plain]
 dsimp only[Ab.elim_none]
 rw[Bh ⋯]
 refine Ac (Gd ?_)
 have hb:=j7 vs us (li.elim 0 (DF vs.size)) (Y0 _ _)
 have hc:=Y0 li vs.size
 rw[AD (by unfold WK;simp;unfold BY;exact(pw [.a (.t .p (.k 1000)) (.t .q (.k 1000)),.e .r .p,.e .s .q] (.l (.A .r .s) (.k (2^24))) [] [_,_,_,_]) hsz hl1 jb)]
 refine Ac (EK q.1 rfl (_hz':=by rw[hb];simp;unfold BY;exact(pw [.a (.t .p (.k 1000)) (.t .q (.k 1000)),.e .r .p,.e .s .q] (.l (.A (.min .t .r) .s) (.k (2^24+1))) [] [_,_,_,_,_]) hsz hl1 jb) (Ac (L6 (An ⟨_,rfl,An ?_⟩))))
 exact k _ (Fo (CY G (G.lt ha) hwr q.1 (.data (by intro vs q;rcases q with ⟨⟩)) (.data (by intro vs q;rcases q with ⟨⟩)) rfl s.toks (λh' S e'=>⟨_,_,sl,e',q.2.2.1,by
  show Ag _ _ _ _ (AE.toList (_++us++_))
  rw[hb,<-hl1]
  exact((q.2.1.step S).take _).append (z.2.2.step S)⟩)))
theorem Fb.UA(Cl:Be c){l dl:Nat}(hv:Bt c d fr lo H e v H1)(he:Bt c d fr lo H1 o (.loc l) H2)(hl:DS c d fr lo H2 lower li H3)
  (ha:H3[l]?=some (.acc dl xs))(hw:Jx c H3 v ws)(hsz:xs.length<1000/\ws.length<1000)(hwr:fr.wr<=l):
  Fb c d fr lo H (.Assign [.Subscript o (.Slice lower none none p) q] e p3) .next lo (H3.set l (.acc dl (xs.take (li.elim 0 (DF xs.length))++ws))):=by
 intro A env π s E R F G L
 refine wpAny_Assign_Subscript (hs:=Uy ..) (hv.use R F G L λcv s₁ π₁ P₁ F₁ L₁ r₁=>he.use R F₁ P₁.g L₁ λca s₂ π₂ P₂ F₂ L₂ r₂=>wpAny_Slice (hl.use R F₂ P₂.g L₂ λs₃ π₃ pl P₃ F₃ L₃ hpl u0=>An ?_))
 rw[WH]
 refine An ?_
 rw[(r₂.pg P₃ P₂.g).loc.2]
 have K₄:Kp no s₃ {s₃ with heap:=s₃.heap.push (Dc (CU pl) .none)}:=Kp.BS _
 exact Uz Cl (P₃.g.DU K₄) (Bp _ rfl) hpl ha hw (((r₁.pg P₂ P₁.g).pg P₃ P₂.g).DU K₄ P₃.g.tabs) hsz hwr λs' P=>⟨π₃,((((P₁.trans P₂).trans P₃).DU K₄).trans P).any,(L₃.DU P₃.g K₄).pg P (P₃.g.DU K₄),rfl⟩
end
end
section
open Builtin Builtin.ObjectAttr
section
variable{c:Cx}{d:Nat}{fr:FD}{lo Bv BJ:Lo}{H H' EZ H1 H2 H3:List AO}
theorem j8{C dl wr:Nat}{m}(G:Av c π H s)(hd:H[dl]?=some (.dict es))(hw:wr<=dl)
  (I:MT π H s.heap C a dl es m ox od)(hx:x∈KE++KG)(r:As π H.length s.heap v cv)(SN:h'.Ns1 (π.at' dl) (λy=>if y=x then some cv else m y))(hs:Hb (π.at' dl) s.heap h'):
  PG c wr none π H s (H.set dl (.dict (Sv x v es))) π {s with heap:=h',toks:=tk}:=by
 have hl:=G.lt hd
 refine(Ns.obj I.ns.ns).elim λo q=>q.elim λes0 q=>q.elim λk0 q=>(Ns.obj SN.ns).elim λo' q'=>q'.elim λes' q'=>q'.elim λk' q'=>?_
 have K:Kp (λb=>b=π.at' dl) s {s with heap:=h',toks:=tk}:=.one q.1 (.data (Fw q.2)) (λb o' hb e=>(hs.2 b hb).trans e) trivial G.tabs
 have S:Ju π H.length s.heap π H.length h':=Kp.Eo (s':={s with heap:=h',toks:=tk}) K G.tabs (λb z=>.inl (z▸G.mem dl hl)) (λb ob z e=>.data (AQ (q.1.symm.trans (z▸e))▸Fw q.2)) (AP _) (λ_ _=>rfl) (λ_ h=>.inl h)
 have ne:∀{j},j<wr->dl≠j:=λhj=>Nat.ne_of_gt (BW hj hw)
 refine .chg K (.inr (G.mem dl hl)) ⟨_,q'.1⟩ (G.set hl K ⟨_,o',SN,λy hy=>?_,q'.1,λy=>?_⟩ ⟨_,q'.1,.data (Fw q'.2)⟩) F4 (λj hj=>Rb (ne hj)) (λb _ hn q=>hn dl hw hl q.symm) G
 ·by_cases p:y=x
  ·exact p▸hx
  ·exact I.wi y (λz=>hy ((AD p).trans z))
 ·rw[YM]
  by_cases p:y=x
  ·rw[p,Ke,Bh rfl];exact⟨cv,rfl,r.step S⟩
  ·rw[Si p,AD p];exact(I.rel y).step S
def j9(c:Cx)(d:Nat)(wr:Nat)(H:List AO)(o:AV)(x:Str)(v:AV)(H':List AO):Prop:=
 ∀(A:AG)(π:Pl)(s:Aj)(E:EP)(co cv:Ad),A5 d A->Av c π H s->As π H.length s.heap o co->As π H.length s.heap v cv->
  Ae c.m A (setAttr co x cv) (λ_ s'=>PG c wr none π H s H' π s') E s
theorem Xp{an:List Str}(Ca:Po c.K C ga an ms mro)(hin:∀y∈an,y∈KE++KG)(hmr:mro.contains (.type "object")=true)(hp:∀self,RQ self "__setattr__" mro=pure ())
  {l dl wr:Nat}(hx:x∈an)(hown:YW H l C dl)(hd:H[dl]?=some (.dict es))(hw:wr<=dl):j9 c d wr H (.loc l) x v (H.set dl (.dict (Sv x v es))):=by
 intro A π s E co cv R G ro rv
 rw[ro.loc.2]
 refine(MT.of G hown hd).elim λm I=>I.elim λox I=>I.elim λod I=>Ca.mro.elim λcd z=>?_
 have hh:cd.hasDict=true:=by have:=Ca.dict;unfold OC at this;rw[z.1] at this;exact this
 exact j3 (c.DA G) I.inst I.dict I.ns I.wi ⋯ Ca.sa (Ca.an x hx) z.1 hh (z.2▸hmr) (z.2▸hp _) λh' tk SN hs=>j8 G hd hw I (hin x hx) rv SN hs
theorem kf(Cl:Be c):Ok (uo fr S o x v) λS'=>j9 c d fr.wr S.H o x v S'.H/\S'.ob=S.ob:=
 YX.bind λp h=>Jk.mono λS' q=>h.elim λl h=>h.elim λC h=>by
  rw[h.1,q.2]
  refine⟨h.2.2.2.elim (λz=>?_) λz=>?_,rfl⟩
  ·exact Xp (z.1▸Cl.v) (λy hy=>N0 _ hy) rfl (vE · _) z.2 h.2.2.1 h.2.1 q.1
  ·exact Xp (z.1▸Cl.a) (λy hy=>LB _ hy) rfl (nS · _) z.2 h.2.2.1 h.2.1 q.1
theorem Fb.Y1(he:Bt c d fr lo H e v H1)(ho:Bt c d fr lo H1 o ov H2)(hs:j9 c d fr.wr H2 ov x v H3):Fb c d fr lo H (.Assign [.Attribute o x p] e p2) .next lo H3:=by
 intro A env π s E R F G L
 refine plainObj_wpAny_Assign_Attribute (he.use R F G L λcv s₁ π₁ P₁ F₁ L₁ r₁=>ho.use R F₁ P₁.g L₁ λco s₂ π₂ P₂ F₂ L₂ r₂=>?_) (fw ..)
 exact AJ (hs A π₂ s₂ E co cv R P₂.g r₂ (r₁.pg P₂ P₁.g)) (λ_ s₃ P₃=>⟨π₂,((P₁.trans P₂).trans P₃).any,L₂.pg P₃ P₂.g,rfl⟩) λ_ _ x=>x
theorem Ag.setAt(r:Ag π n h xs vs)(q:As π n h x v):∀j,Ag π n h (xs.set j x) (vs.set j v):=
 r.Na (P:=λxs vs=>∀j,Ag π n h (xs.set j x) (vs.set j v)) (λ_=>.nil) λ_ _ _ _ a s b j=>match j with
  |0=>.cons q s
  |j+1=>.cons a (b j)
theorem vH(hi:i=LA j)(G:Av c π H s)(hl:H[l]?=some (.list xs))(hj:j<xs.length)(hsz:xs.length<100000)(hw:wr<=l)(rv:As π H.length s.heap v cv)
  (k:∀s',PG c wr none π H s (H.set l (.list (xs.set j v))) π s'->Q () s'):Ae c.m A (setItem (.ref (π.at' l)) (.int i t) cv) Q E s:=by
 refine Bm λGG fin=>(G.objs l _ hl).elim λvs q=>q.elim λkk q=>fin ?_
 have hT:s.TypeIs (.ref (π.at' l)) "list" :=⟨_,q.1,rfl⟩
 have hv:=q.2.size.symm▸hj
 refine BE (Ac (wpAny_sequenceKey hT ⋯ (Ac (Oa hT RD (GY RD hT entry_list_setitem ?_ (args_list_setitem _ _ _))))))
 have hf:Ou i=true:=by
  have h0:=DB.mpr (EH hj hsz)
  subst hi
  unfold Ou
  simp only[HQ,Gl,Int.ofNat_eq_natCast]
  exact(pw [.T (.n .p) (.j 100000)] (.a (.L (.g (.j (2^63))) (.n .p)) (.T (.n .p) (.j (2^63)))) [] [_]) h0
 show Ae _ _ (WJ (.int i t)>>=_) _ _ _
 refine Ac (cM hf ?_)
 subst hi
 refine Ac (Ac (wpAny_seqItemAt q.1 rfl (An ?_)))
 rw[VP hv] at ⊢
 refine Ac (wpAny_setSeqItemAt q.1 rfl ?_)
 have fin:=k _ (Fo (CY (f:=C6 (·.setIfInBounds j cv)) G (G.lt hl) hw q.1 (.data (by intro vs q;cases q)) (.data (by intro vs q;cases q)) rfl s.toks (λh' S e'=>⟨_,_,e',by
  rw[AE.toList_setIfInBounds]
  exact(q.2.step S).setAt (rv.step S) j⟩)))
 first
  |exact Ac (An (An ⟨_,rfl,An fin⟩))
  |exact An ⟨_,rfl,An fin⟩
theorem Fb.kg(he:Bt c d fr lo H e v H1)(ho:Bt c d fr lo H1 o (.loc l) H2)(hi:Bt c d fr lo H2 i (.int k) H3)(hl:H3[l]?=some (.list xs))(h: 0<=k/\k<xs.length/\xs.length<100000)
  (hw:fr.wr<=l):Fb c d fr lo H (.Assign [.Subscript o i p] e q) .next lo (H3.set l (.list (xs.set k.toNat v))):=by
 intro A env π s E R F G L
 refine wpAny_Assign_Subscript (hs:=Uy ..) (he.use R F G L λcv s₁ π₁ P₁ F₁ L₁ r₁=>ho.use R F₁ P₁.g L₁ λca s₂ π₂ P₂ F₂ L₂ r₂=>hi.use R F₂ P₂.g L₂ λci s₃ π₃ P₃ F₃ L₃ r₃=>?_)
 refine r₃.int.elim λt ht=>(bL h.1).elim λj hj=>?_
 rw[(r₂.pg P₃ P₂.g).loc.2,ht]
 subst hj
 exact vH rfl P₃.g hl (DB.mp h.2.1) h.2.2 hw ((r₁.pg P₂ P₁.g).pg P₃ P₂.g) λs' P=>⟨π₃,(((P₁.trans P₂).trans P₃).trans P).any,L₃.pg P P₃.g,rfl⟩
end
end
theorem iteO{p:Prop}[Sj p]{x c:Ad}{o:Ab Ad}(e:(if p then some x else o)=some c):(p/\x=c)\/(¬p/\o=some c):=(Sj.em p).elim (λh=>.inl ⟨h,AQ ((Bh h).symm.trans e)⟩) λh=>.inr ⟨h,(AD h).symm.trans e⟩
theorem Qi(l:List Ad)(h:TriplesOk l)(e:Mc pos (l++[D1 a,D1 b,c])=some yQ):Mc pos l=some yQ\/yQ=c:=by
 fun_induction TriplesOk l with
 |case1=>exact .inr ((iteO (o:=none) e).elim (λq=>q.2.symm) λq=>nomatch q.2)
 |case2 a' t b' u x rest ih=>exact(iteO (o:=Mc pos (rest++[D1 a,D1 b,c])) e).elim (λq=>.inl ((Bh q.1).trans (Ai some q.2))) λq=>(ih h q.2).imp (λz=>(AD q.1).trans z) id
 |case3 l h1 h2=>exact h.elim
theorem kh{h:Ay}{ps}(hP:h.get? P=some (D3 ps))(e:h.get? b=some o)(hc:o.cls=.type "code"):b≠P:=λq=>by rw[q,hP] at e;rcases e with ⟨⟩;rcases hc with ⟨⟩
theorem p8:∀t∈TL,∀t'∈TL,t.2.1=t'.2.1->t=t':=⋯
theorem TabsOk.grow{t}(T:TabsOk h)(ht:t∈TL)(hP:h.get? t.2.1=some (D3 ps))(hx:Hc t.2.1 h h')(hn:h'.get? t.2.1=some (D3 (ps ++ #[D1 a,D1 b,c'])))(hc:BZ h' c' t.2.2):TabsOk h':=by
 have up:∀b o,h.get? b=some o->o.cls=.type "code" ->(∃vs,o.data=.fields vs)->h'.get? b=some o:=λb o e c _=>hx b o (kh hP e c) e
 refine λt' yR=>(DI (t'.2.1=t.2.1)).elim (λq=>?_) λq=>(T t' yR).imp up λps e=>hx _ _ q e
 obtain rfl:=p8 t' yR t ht q
 exact(T t' yR).2.elim λqs x=>by
  obtain rfl:ps=qs:=by have h:=AQ (hP.symm.trans x.1);injection h with _ _ h;injection h
  refine⟨CodeHd.at' (T t' yR).1 hP (up _),_,hn,by rw[Lv];exact TriplesOk_snoc _ _ _ _ x.2.1,λpos yQ e=>?_⟩
  rw[Lv] at e
  exact(Qi _ x.2.1 e).elim (λe=>(x.2.2 pos yQ e).imp up) λe=>e▸hc
theorem Kp.grow{X}{t}(ht:t∈TL)(hP:s.heap.get? t.2.1=some (D3 ps))(hx:Hc t.2.1 s.heap h')(hn:h'.get? t.2.1=some (D3 (ps ++ #[D1 a,D1 b,c'])))(hc:BZ h' c' t.2.2):
  Kp X s {s with heap:=h',toks:=tk} where
 keep:=λb o _ hb e=>hx b o (λq=>hb (q▸TU t ht)) e
 there:=λb o _ e=>(DI (b=t.2.1)).elim (λq=>⟨_,q▸hn⟩) λq=>⟨o,hx b o q e⟩
 tabs:=λb _ vs e=>(DI (b=t.2.1)).elim (λq=>by subst q;rw[hP] at e;rcases e with ⟨⟩;exact⟨_,hn⟩) λq=>⟨#[],by rw[hx b _ q e,AE.append_empty]⟩
 tok:=λT=>T.grow ht hP hx hn hc
 os:=rfl
 gens:=id
section
variable{c:Cx}{d:Nat}{fr:FD}{lo Bv BJ:Lo}{H H' EZ H1 H2 H3:List AO}
theorem SW:∀{acc:List (Str×Nat)},Ok (Cy fr names acc) λfc=>acc.lookup ("__class__" :Str)=none->fc.lookup ("__class__" :Str)=none:=by
 induction names with
 |nil=>exact .some id
 |cons p t ih=>
  refine .cond (λ_=>.guard λhb=>Ok.self.bind λl _=>ih.mono λfc q ha=>q ?_) λ_=>ih
  rw[Dk,show(("__class__" :Str)==p.1)=false from Gx.mpr λq=>by have h:=(Nw (HN hb)).2.1;rw[<-eq_of_beq q,Ke] at h;cases h]
  exact ha
noncomputable def Aas(body:EM):Sem Ad:=match body with
 |.stmts b=>(match docOf b with | some s=>mkText s | none=>pure .none)
 |.expr _=>pure .none
def p9(k:Sq)(cl:List (Str×Ah))(ctv cd nm doc:Ad):Iq:={name:=k.name,qualname:=k.qual,params:=k.params,body:=k.body,scope:=k.scope,globals:=DO,closure:=cl,closureTuple:=ctv,code:=cd,builtins:=C4,defaults:=.none,kwdefaults:=.none,annotations:=none,pyModule:=nm,doc:=doc}
def nT(k:Sq)(cl:List (Str×Ah))(ctv:Ad)(env:Env)(cd:Ad):Sem Ad:=
 builtinsFor DO env.builtins>>=λbi=>nsGet DO "__name__" >>=λnm=>Aas k.body>>=λdoc=>newObj (.type "function") (.func {p9 k cl ctv cd (nm.getD .none) doc with builtins:=bi})
def Xq(k:Sq)(cl:List (Str×Ah))(ctv:Ad)(env:Env)(pos:Pos)(line:Nat):Sem Ad:=functionCode env pos line k.name k.qual k.params k.scope k.body>>=nT k cl ctv env
theorem qb(k:Sq)(hg:env.globals=DO)(pos:Pos)(line:Nat):makeFunction k.name k.qual k.params k.body k.scope env [] [] [] pos line=
  (Ma k.scope env>>=λcl=>if cl.isEmpty then pure .none>>=λctv=>Xq k cl ctv env pos line else newTextTuple ((cl.mergeSort λa b=>a.1.cps.toList<=b.1.cps.toList).map (.ref ·.2))>>=λctv=>Xq k cl ctv env pos line):=by
 rw[makeFunction_eq]
 rw[List.zip_nil_right,List.filterMap_nil,List.isEmpty_nil]
 unfold makeTail
 rw[hg]
 obtain ⟨nm,q,ps,b,sc,fc⟩:=k
 rcases b with ⟨⟩<;>rfl
structure ki(π:Pl)(n:Nat)(k:Sq)(cl:List (Str×Ah)):Prop where
 ok:By π n cl k.cells
 c1:cl.lookup ("__class__" :Str)=none
 c2:k.cells.lookup ("__class__" :Str)=none
theorem As.vI(G:Av c π H s)(N:ki π H.length k cl)(hcr:BZ s.heap cd k.qual):As π H.length (s.heap.push {cls:=.type "function",data:=.func (p9 k cl ctv cd nm doc)}) (.BH k) (.ref s.heap.objs.size):=
 ⟨_,rfl,⟨_,_,Bp _ rfl,rfl,rfl,⟨rfl,rfl,rfl,rfl,rfl,rfl,rfl,rfl,rfl⟩,hcr.push _,λx=>by
  cases q:(x==("__class__" :Str)) with
  |false=>exact N.ok.1 x q
  |true=>rw[eq_of_beq q,N.c2];exact N.c1,N.ok.2⟩,G.Kk⟩
theorem UB(G:Av c π H s)(N:ki π H.length k cl)(hcr:BZ s.heap cd k.qual)
  (go:∀a s',Kp no s s'->As π H.length s'.heap (.BH k) (.ref a)->Q (.ref a) s'):Ae c.m A (nT k cl ctv env cd) Q E s:=by
 refine c.names.elim λmg x=>x.elim λmb x=>x.elim λbm x=>x.elim λob x=>?_
 have n1:=Ns.up G x.1
 refine Ac (wpAny_builtinsFor n1 x.2.2.1 x.2.2.2.1 (G.base.keep _ _ id (c.tabs.D5 x.2.2.2.2.1 (by rw[x.2.2.2.2.2.1];nofun)) x.2.2.2.2.1) x.2.2.2.2.2.1 x.2.2.2.2.2.2.1 x.2.2.2.2.2.2.2 (Ac (wpAny_nsGet n1 (Ac ?_))))
 have fin:∀doc tk,Ae c.m A (newObj (.type "function") (.func (p9 k cl ctv cd ((mg "__name__").getD .none) doc))) Q E {s with toks:=tk}:=λdoc tk=>
  Ew (go _ _ (.push _) (As.vI G N hcr)) (by size_fits)
 cases k.body with
 |expr e=>exact An (fin _ _)
 |stmts b=>
  show Ae _ _ (match docOf b with | some s=>mkText s | none=>pure .none) _ _ _
  induction docOf b using BK with
  |none=>exact An (fin _ _)
  |some t=>exact RO (fin _ _)
theorem UC{n:Nat}(hrec:h.CodeRec (.ref c') q)(hself:∃P',n<=P'/\h.IsCode c' P' #[]/\h.TableAt c' P' #[]):BZ h (.ref c') q:=by
 obtain ⟨P',_,_,⟨⟨oc,vsc,e1,e2,e3,_⟩,_⟩⟩:=hself
 obtain ⟨c2,o2,vs2,t2,q1,q2,q3,q4⟩:=hrec
 rcases q1 with ⟨⟩
 rw[e1] at q2;rcases q2 with ⟨⟩
 exact .mk e1 e2 q3 q4
theorem QN(hec:env.code=.ref c0)(hT:(c0,P,k.qual)∈TL)(G:Av c π H s)(N:ki π H.length k cl)
  (go:∀a s',Kp no s s'->As π H.length s'.heap (.BH k) (.ref a)->Q (.ref a) s'):Ae c.m A (Xq k cl ctv env pos line) Q E s:=by
 have T:=G.tabs _ hT
 refine Bm λGG fin=>T.2.elim λps x=>fin ?_
 cases tO:Mc pos ps.toList with
 |some cv=>exact Ac (wpAny_functionCode_hit hec (T.1.code x.1 x.2.1) tO (UB G N (x.2.2 pos cv tO) go))
 |none=>
  refine Ac (wpAny_functionCodeX hec (T.1.code x.1 x.2.1) (T.1.tab x.1) tO λc' h' tk hx _ _ _ hrec htb hself=>?_)
  have hcr:=UC hrec hself
  have K:Kp no s {s with heap:=h',toks:=tk}:=Kp.grow hT x.1 hx htb.2 hcr
  exact UB (G.DU K) N hcr λa s' K' r=>go a s' (K.trans K') r
theorem vJ(F:Bu π H.length fr env)(G:Av c π H s)
  (hfc:Cy fr k.scope.names []=some k.cells)(hT:(c0,P,k.qual)∈TL)(hcode:fr.code=.ref c0)(go:∀a s',Kp no s s'->As π H.length s'.heap (.BH k) (.ref a)->Q (.ref a) s'):Ae c.m A (makeFunction k.name k.qual k.params k.body k.scope env [] [] [] pos line) Q E s:=by
 rw[qb k F.glob]
 refine AH (JI _ hfc F) λcl q=>?_
 have N:ki π H.length k cl:=⟨q.2.1,q.2.2,SW _ hfc rfl⟩
 have hec:=(F.code (by rw[hcode];nofun)).trans hcode
 rw[q.1]
 refine Ac (An ?_)
 induction cl using B9 with
 |nil=>exact Ac (An (QN hec hT G N go))
 |cons a cl=>
  have K:∀ob,Kp no s {s with heap:=s.heap.push ob}:=λob=>.BS ob
  exact Ac (wpAny_newTextTuple (QN hec hT (G.DU (K _)) N λa s' K' r=>go a s' ((K _).trans K') r))
structure vK(fr:FD)(nm:Str)(ps:Ge)(sc:BQ):Prop where
 simple:KJ ps=true
 d1:ps.defaults=[]
 d2:ps.kw_defaults=[]
 ann:∀a∈ps.args,a.annotation=none
 code:∃c0 P,(c0,P,fr.qual++nm)∈TL/\fr.code=.ref c0
theorem aF{code:Ad}(h:codeOk code q=true):∃c0 P,(c0,P,q)∈TL/\code=.ref c0:=by
 induction code using R6 with
 |ref a=>exact(JP.mp h).elim λt z=>⟨t.1,t.2.1,by rw[<-BC (Am z.2)];exact z.1,by rw[Cb (Ax z.2)]⟩
 |_=>exact ff h
theorem UD(h:T9 fr nm ps sc=true):vK fr nm ps sc:=
 ⟨Ax h,Bj (Ax (Ax (Am h))),Bj (Am (Ax (Am h))),λa ha=>CN (BV.mp (Ax (Am (Am h))) a ha),aF (Am (Am (Am h)))⟩
theorem fx(env:Env):evalOpt none env=none:=⋯
theorem Aau(env:Env)(n p r):RK (⟨n,none,p⟩::r) env=RK r env:=⋯
theorem Y2(env:Env):∀{l:List Arg},(∀a∈l,a.annotation=none)->RK l env=[]
 |[],_=>rfl
 |⟨n,o,p⟩::r,h=>by
  obtain rfl:o=none:=h _ (CT ..)
  exact(Aau env n p r).trans <| Y2 env λa ha=>h a (Ee _ ha)
theorem aG:∀{ps:Ge},(ps.posonlyargs=[]/\ps.vararg=none/\ps.kwonlyargs=[]/\ps.kwarg=none)->(∀a∈ps.args,a.annotation=none)->annTrees ps none env=[]
 |⟨po,as,va,ko,kd,kw,dd⟩,S,h=>by
  obtain rfl:po=[]:=S.1
  obtain rfl:va=none:=S.2.1
  obtain rfl:ko=[]:=S.2.2.1
  obtain rfl:kw=none:=S.2.2.2
  unfold annTrees
  rw[fx]
  show RK (as++[]++[]++[]++[]) env++[]=[]
  rw[DX,DX,DX,DX,DX,Y2 env h]
theorem Bt.qc(hd:T9 fr "<lambda>" ps sc=true):Ok (Cy fr sc.names []) λfc=>Bt c d fr lo H (.Lambda ps body sc p) (.BH ⟨"<lambda>",fr.qual++"<lambda>",ps,.expr body,sc,fc⟩) H:=λfc hfc=>by
 have D:=UD hd
 intro A env π s E R F G L
 refine D.code.elim λc0 z=>z.elim λP z=>kla_eval (by rw[defaultsOf_eq,D.d1,D.d2];rfl) ?_
 rw[F.qual]
 exact vJ (k:=⟨"<lambda>",fr.qual++"<lambda>",ps,.expr body,sc,fc⟩) F G hfc z.1 z.2 λa s' K r=>⟨π,.pure G K,r⟩
theorem Fb.Aav(hd:T9 fr n ps sc=true)(hfc:Cy fr sc.names []=some fc)(h:Fz c d fr lo H n (.BH ⟨n,fr.qual++n,ps,.stmts b,sc,fc⟩) Bv H1)
  (hk:CX fr n≠some .globalExplicit):Fb c d fr lo H (.FunctionDef n ps b [] none [] sc none n p) .next Bv H1:=by
 have D:=UD hd
 intro A env π s E R F G L
 have Aaw:annTrees ps none env=[]:=aG (Pa D.simple).1 D.ann
 have hq:qualnameIn env n n=fr.qual++n:=by
  unfold qualnameIn
  rw[show env.kindOf n=CX fr n from by unfold Sg CX;rw[F.scope,D9],F.qual,AD (by simpa using hk)]
 refine D.code.elim λc0 z=>z.elim λP z=>?_
 rw[exec_def,hq,defaultsOf_eq,D.d1,D.d2,Aaw]
 refine Ac (DN (Ac (BE (Ac (An (Ac (BE (An (BE (Ac (An ?_)))))))))))
 exact vJ (k:=⟨n,fr.qual++n,ps,.stmts b,sc,fc⟩) F G hfc z.1 z.2 λa s' K r=>Ac (DN (Ac (WD (h.use R F (G.DU K) (L.DU G K) r λs₂ P₂ F₂ L₂ hl=>An ⟨π,(PG.pure G K).trans P₂,L₂,rfl⟩))))
end
section
open Builtin Builtin.ObjectAttr
section
variable{c:Cx}{d:Nat}{fr:FD}{lo Bv BJ:Lo}{H H' EZ H1 H2 H3:List AO}
def I0:Sy->Ad
 |.fn a=>.ref a
 |.pop=>.ref 209
 |.parts=>.ref 246
 |.bi b=>.builtin b.id
def GF(c:Cx)(d:Nat)(H:List AO)(o:AV)(m:Str)(k:Sy):Prop:=
 ∀(A:AG)(π:Pl)(s:Aj)(E:EP)(cv:Ad)(pl:Sem Aa)(Q:Ad×List Ad->Aj->Prop),A5 d A->Av c π H s->As π H.length s.heap o cv->Q (I0 k,[cv]) s->Ae c.m A (Om cv m pl) Q E s
theorem MB.ty(b:MB):CR (.builtin b.id)=pure (.type "method_descriptor"):=by rcases b with ⟨⟩<;>kernel_rfl
theorem aH(Cl:Be c)(X:c.K.In s.heap)(I:InstAt s.heap x ox 249 (some od))
  (hf:A7 c.K (.ref 249) name=some (some f))(htf:(tf !=.type "function" &&tf !=.type "method_descriptor" &&tf !=.type "wrapper_descriptor")=false)(ht:AR c.m s.heap (CR f) tf)(hs:lookIn name od=some none)(h:Q (f,[.ref x]) s):Ae c.m A (Om (.ref x) name pl) Q E s:=by
 unfold Om Im
 refine Ac (Ac (I.type.here ((Dr X Cl.a.ga).here ?_)))
 dsimp only
 rw[canon_list_getattribute,AD BI]
 refine Ac (Ac (I.type.here ((Dr X Cl.a.hk).here ?_)))
 refine Ac (Ac (I.type.here ((Dr X hf).here ?_)))
 refine Ac (ht.here ?_)
 rw[AD (by rw[htf];exact BI)]
 refine Ac (RI I.at_ ?_)
 have hd:=I.dict
 cases e:ox.dict with
 |none=>exact Ac (Gd (An h))
 |some dx=>
  rw[e] at hd
  refine Ac (Ac (RI hd ?_))
  rw[nsLook_of hs]
  exact An (Ac (Gd (An h)))
theorem Jn{dl:Nat}(G:Av c π H s)(h:Cw H dl m=true):∃od,s.heap.get? (π.at' dl)=some od/\lookIn m od=some none:=
 (A0 h).elim λes q=>(G.objs dl _ (dictAt _ q.1)).elim λmm z=>z.imp λod z=>⟨z.2.2.1,by
  have w:=z.2.2.2 m
  rw[<-D9,CN q.2] at w
  rw[Pp z.1 z.2.2.1,w]⟩
def qd{α:Type}(P:Str->α->Prop):List (Str×α)->Prop
 |[]=>True
 |p::r=>P p.1 p.2/\qd P r
theorem I1(P:Str->α->Prop):∀{l:List (Str×α)},qd P l->Ok (lk x l) (P x)
 |[],_=>.none
 |p::r,h=>by
  show Ok (JN (motive:=λ_=>Ab α) (lk x r) (some p.2) (sEq x p.1)) (P x)
  cases e:sEq x p.1 with
  |true=>exact .some (by rw[BC e];exact h.1)
  |false=>exact I1 P h.2
theorem GF.vM{b:MB}(sl:Slot "list" m b.id)(ho:s.heap.get? a=some o)(hc:o.cls=.type "list")(hd:o.dict=none)(q:Q (.builtin b.id,[.ref a]) s):
  Ae c.m A (Om (.ref a) m pl) Q E s:=Wx ⟨o,ho,hc⟩ PySem.F.plainAttrs_list sl b.ty (λa' e=>by rcases e with ⟨⟩;exact⟨o,ho,hd⟩) q
theorem GF.list(hH:H[l]?=some (.list xs))(sl:Slot "list" m b.id):GF c d H (.loc l) m (.bi b):=λA π s E cv pl Q R G rv q=>
 (G.objs l _ hH).elim λvs z=>z.elim λk z=>by rw[rv.loc.2] at q ⊢;exact GF.vM sl z.1 rfl rfl q
theorem GF.str(sl:Slot "str" m b.id):GF c d H (.str x) m (.bi b):=λA π s E cv pl Q R G rv q=>
 rv.str.elim λt e=>by subst e;exact Wx (J2 s x t) de sl b.ty nofun q
theorem GF.acc(Cl:Be c){l dl:Nat}{m:Str}(hH:H[l]?=some (.acc dl xs))(hsh:Cw H dl m=true)(hf:A7 c.K (.ref 249) m=some (some (I0 k)))
  (ht:∃tf,(tf !=.type "function" &&tf !=.type "method_descriptor" &&tf !=.type "wrapper_descriptor")=false/\∀h:Ay,c.K.In h->AR c.m h (CR (I0 k)) tf):GF c d H (.loc l) m k:=λA π s E cv pl Q R G rv q=>by
 rw[rv.loc.2] at q ⊢
 refine(Jn G hsh).elim λod z=>(G.objs l _ hH).elim λvs y=>y.elim λkk y=>y.elim λsl y=>ht.elim λtf ht=>?_
 exact aH Cl (c.DA G) ⟨y.1,rfl,rfl,z.1⟩ hf ht.1 (ht.2 _ (c.DA G)) z.2 q
theorem GF.MU(Cl:Be c){l dl:Nat}(hk:I0 k=.ref a)(hm:(m,a)∈D7++OP)(hH:H[l]?=some (.acc dl xs))(hsh:Cw H dl m=true):GF c d H (.loc l) m k:=
 have f:=Cl.a.ms _ hm
 .acc Cl hH hsh (by rw[hk];exact f.1) ⟨_,rfl,λh X=>by rw[hk];exact looks_typeIn X f.2⟩
theorem GF.inst(Cl:Be c){l dl:Nat}(hm:(m,a)∈D6)(hH:H[l]?=some (.inst 165 dl))(hsh:Cw H dl m=true):GF c d H (.loc l) m (.fn a):=λA π s E cv pl Q R G rv q=>by
 rw[rv.loc.2] at q ⊢
 have f:=Cl.v.ms _ hm
 exact(Jn G hsh).elim λod z=>(G.objs l _ hH).elim λsl y=>method_fn (c.DA G) ⟨y.1,rfl,rfl,z.1⟩ Cl.v.ga Cl.v.hk f.1 f.2 (show shadowIn (some od) m=some false from Ai (Ab.map Ab.isSome) z.2) q
noncomputable abbrev mI:List (Str×Sy):=[("bit_length",.bi .Ki)]
noncomputable abbrev mS:List (Str×Sy):=[("join",.bi .join),("split",.bi .split),("index",.bi .Kh),("isspace",.bi .isspace)]
noncomputable abbrev mL:List (Str×Sy):=[("index",.bi .Hj)]
noncomputable abbrev mO:List (Str×Sy):=[("append",.bi .append),("extend",.bi .extend),("insert",.bi .insert)]
theorem UE(Cl:Be c){S:St}{v:AV}:Ok (OS S v m) (GF c d S.H v m):=by
 induction v using AV.casesOn with
 |int i=>exact I1 (GF c d S.H (.int i)) (l:=mI) ⟨λA π s E cv pl Q R G rv q=>rv.int.elim λt e=>by subst e;exact getMethod_int_bit_length q,trivial⟩
 |str x=>exact I1 (GF c d S.H (.str x)) (l:=mS) ⟨.str dh,.str R2,.str PySem.F.slot_str_index,.str PySem.F.slot_str_isspace,trivial⟩
 |lst xs=>
  exact I1 (GF c d S.H (.lst xs)) (l:=mL) ⟨λA π s E cv pl Q R G rv q=>AH rv λa z=>z.elim λvs z=>z.2.1.elim λo y=>by
        obtain rfl:=z.1
        exact GF.vM (b:=.Hj) da y.1 y.2.1 y.2.2.1 q,trivial⟩
 |loc l=>
  refine Ok.self.bind λo hH=>?_
  induction o using AO.casesOn with
  |inst C dl=>
   refine .guard λh=>Ok.self.bind λa ha=>.some ?_
   obtain rfl:C=165:=Cb (Ax h)
   exact .inst Cl (SP ((D9 ..).symm.trans ha)) hH (Am h)
  |acc dl xs=>
   refine .guard λh=>?_
   have go:qd (λm k=>Cw S.H dl m=true->GF c d S.H (.loc l) m k) Sz:=⟨.MU Cl rfl (.head _) hH,.MU Cl rfl (.tail _ (.head _)) hH,.MU Cl rfl (.tail _ (.tail _ (.head _))) hH,.MU Cl rfl (.tail _ (.tail _ (.tail _ (.head _)))) hH,
    .MU Cl rfl (.tail _ (.tail _ (.tail _ (.tail _ (.head _))))) hH,.MU Cl rfl (.tail _ (.tail _ (.tail _ (.tail _ (.tail _ (.head _)))))) hH,λhs=>.acc Cl hH hs Cl.app ⟨_,rfl,λh _=>AR.of_pure type_list_append⟩,trivial⟩
   exact(I1 _ go).mono λk q=>q h
  |list xs=>exact I1 (GF c d S.H (.loc l)) (l:=mO) ⟨.list hH RF,.list hH c5,.list hH c6,trivial⟩
  |_=>exact .none
 |_=>exact .none
end
end
section
open Builtin Builtin.ObjectAttr
theorem I2(sep:Str):∀l:List Str,R5 sep l=⟨(JD sep.cps.toList l).toArray⟩
 |[]=>rfl
 |[x]=>rfl
 |x::y::r=>by
  show x++sep++R5 sep (y::r)=_
  rw[I2 sep (y::r)]
  apply Str.ext'
  apply NP.mp
  show((x.cps++sep.cps)++(JD sep.cps.toList (y::r)).toArray).toList=(x.cps.toList++(sep.cps.toList++JD sep.cps.toList (y::r)))
  rw[Lv,Lv,FL]
theorem neB(h:a≠c):Aw a c=false:=by cases q:Aw a c with | false=>rfl | true=>exact AL (Cb q) h
theorem QO(h:a≠c)(e:C7 c r=p::ps):C7 c (a::r)=(a::p)::ps:=by
 show(match Aw a c with | true=>[]::C7 c r | false=>match C7 c r with | []=>[[a]] | p::ps=>(a::p)::ps)=_
 rw[neB h,e]
theorem MV:∀{p:List Nat},c∉p->C7 c p=[p]
 |[],_=>rfl
 |a::r,h=>QO (λq:a=c=>h (by rw[q];exact CT ..)) (MV λq=>h (Ee _ q))
theorem Pu:∀{p q:List Nat},c∉p->C7 c (p++c::q)=p::C7 c q
 |[],q,_=>by
  show(match Aw c c with | true=>[]::C7 c q | false=>match C7 c q with | []=>[[c]] | p::ps=>(c::p)::ps)=_
  rw[Ib c]
 |a::r,q,h=>QO (λq:a=c=>h (by rw[q];exact CT ..)) (Pu λq=>h (Ee _ q))
theorem MW:∀{l:List Str},l≠[]->(∀p∈l,c∉p.cps.toList)->C7 c (JD [c] l)=l.map (·.cps.toList)
 |[],h,_=>AL rfl h
 |[x],_,h=>MV (h x (CL.mpr rfl))
 |x::y::r,_,h=>(Pu (h x (CT ..))).trans (Ai (_ :: ·) (MW nofun λp hp=>h p (Ee _ hp)))
theorem aI(x:Str)(c:Nat):(Ka x ⟨#[c]⟩)=(C7 c x.cps.toList).map λp=>⟨p.toArray⟩:=by
 have h1:=StrLaws.join_split x ⟨#[c]⟩
 have h3:Ka x ⟨#[c]⟩≠[]:=λq=>by have h:=split_pos x ⟨#[c]⟩;rw[q] at h;exact AL h (F9 0)
 have h4:=MW h3 (StrLaws.split_free x c)
 rw[I2] at h1
 have h5:JD [c] (Ka x ⟨#[c]⟩)=x.cps.toList:=Ai (λz:Str=>z.cps.toList) h1
 rw[h5] at h4
 rw[h4,F6]
 exact(List.map_id'' (λx=>rfl) _).symm
section
variable{c:Cx}{d:Nat}{fr:FD}{lo Bv BJ:Lo}{H H' EZ H1 H2 H3:List AO}
theorem QP:∀{xs:List AV},Ok (IH xs) λys=>∀{π:Pl}{n:Nat}{h:Ay}{vs:List Ad},Ag π n h xs vs->StrsAre vs ys
 |[]=>.some λr=>by rw[r];exact .nil
 |x::xs=>Cz.bind λb e=>(QP).bind λbs q=>.some λ{π n h vs} r=>AH r λv r=>r.elim λws r=>by
   subst e
   exact r.1▸r.2.1.str.elim λt z=>z▸.cons _ t (q r.2.2)
theorem Y3:∀(tk:Nat)(l:List Str),Ag π n h (l.map .str) (strsFrom tk l)
 |_,[]=>.nil
 |tk,x::r=>.cons .mkStr (Y3 (tk+1) r)
def Cj(c:Cx)(d:Nat)(H:List AO)(wr:Nat)(id:A3)(as:List AV)(r:AV)(H':List AO):Prop:=
 ∀(A:AG)(π:Pl)(s:Aj)(E:EP)(cargs:List Ad),A5 d A->wr<=H.length->Av c π H s->Ag π H.length s.heap as cargs->
  Ae c.m A (call (.builtin id) cargs) (FU c wr π H s r H') E s
theorem Cj.NA{id:A3}(h:Cj c d H wr id as r H'):DR c d H wr (.val (.builtin id)) as [] r H':=λA π s E cf cargs Gr R hw G rf ra rk=>by
 cases rf.val
 exact h A π s E cargs R hw G ra
theorem Cj.one{id:A3}(h:∀(A:AG)(π:Pl)(s:Aj)(E:EP)(ca:Ad),A5 d A->wr<=H.length->Av c π H s->As π H.length s.heap a ca->
  Ae c.m A (call (.builtin id) [ca]) (FU c wr π H s r H') E s):Cj c d H wr id [a] r H':=
 λA π s E cargs R hw G ra=>AH ra λv ra=>ra.elim λws ra=>by rw[ra.1,ra.2.2];exact h A π s E v R hw G ra.2.1
theorem Cj.two{id:A3}(h:∀(A:AG)(π:Pl)(s:Aj)(E:EP)(ca cb:Ad),A5 d A->wr<=H.length->Av c π H s->As π H.length s.heap a ca->As π H.length s.heap b cb->
  Ae c.m A (call (.builtin id) [ca,cb]) (FU c wr π H s r H') E s):Cj c d H wr id [a,b] r H':=
 λA π s E cargs R hw G ra=>AH ra λv ra=>ra.elim λws ra=>AH ra.2.2 λw rb=>rb.elim λus rb=>by rw[ra.1,rb.1,rb.2.2];exact h A π s E v w R hw G ra.2.1 rb.2.1
theorem Cj.three{id:A3}(h:∀(A:AG)(π:Pl)(s:Aj)(E:EP)(ca cb ce:Ad),A5 d A->wr<=H.length->Av c π H s->As π H.length s.heap a ca->As π H.length s.heap b cb->As π H.length s.heap e ce->
  Ae c.m A (call (.builtin id) [ca,cb,ce]) (FU c wr π H s r H') E s):Cj c d H wr id [a,b,e] r H':=
 λA π s E cargs R hw G ra=>AH ra λv ra=>ra.elim λws ra=>AH ra.2.2 λw rb=>rb.elim λus rb=>AH rb.2.2 λu rc=>rc.elim λts rc=>by rw[ra.1,rb.1,rc.1,rc.2.2];exact h A π s E v w u R hw G ra.2.1 rb.2.1 rc.2.1
theorem Cj.isspace{wr:Nat}:Cj c d H wr "str.isspace" [.str x] (.bool (Txt.isspace x)) H:=.one λA π s E ca R hw G ra=>by
 obtain ⟨t,rfl⟩:=ra.str
 exact SC.isspace ⟨π,.refl G,.FV⟩
theorem Cj.Kh{wr:Nat}(ho:(Ov x y 0 x.length 1).head?=some i):Cj c d H wr "str.index" [.str x,.str y] (.int i) H:=.two λA π s E ca cb R hw G ra rb=>by
 obtain ⟨t,rfl⟩:=ra.str
 obtain ⟨u,rfl⟩:=rb.str
 exact(List.head?_eq_some_iff.mp ho).elim λr e=>SC.index e ⟨π,.pure G .toks,.mkInt⟩
theorem Cj.Ki{wr:Nat}:Cj c d H wr "int.bit_length" [.int i] (.int (Dy i)) H:=.one λA π s E ca R hw G ra=>by
 obtain ⟨t,rfl⟩:=ra.int
 exact call_int_bit_length ⟨π,.pure G .toks,.mkInt⟩
theorem QQ:∀l:List Str,SA l=(l.map (·.length)).sum
 |[]=>rfl
 |x::r=>by rw[EF,LM,<-QQ r];rfl
theorem Cj.join(hv:Jx c H v xs)(hs:∀{π:Pl}{n:Nat}{h:Ay}{vs:List Ad},Ag π n h xs vs->StrsAre vs ys)(hsz:CI x<=64/\SA ys+ys.length*64<=1000000):Cj c d H wr "str.join" [.str x,v] (.str ⟨(JD x.cps.toList ys).toArray⟩) H:=.two λA π s E ca cb R hw G ra rb=>by
 obtain ⟨t,rfl⟩:=ra.str
 refine(hv π s G cb rb).elim λb z=>z.elim λvs z=>?_
 rw[z.1]
 refine join_listC z.2.1 (hs z.2.2) hsz.1 (by rw[<-QQ];exact AA hsz.2 ⋯) λt' k=>?_
 rw[show Oy x ys=⟨(JD x.cps.toList ys).toArray⟩ by rw[<-I2];exact WV x ys]
 exact⟨π,.pure G .toks,.mkStr⟩
theorem Cj.split(hy:y.cps.toList=[ch])(hsz:CI x<10000):Cj c d H wr "str.split" [.str x,.str y] (.lst ((C7 ch x.cps.toList).map λp=>.str ⟨p.toArray⟩)) H:=.two λA π s E ca cb R hw G ra rb=>by
 obtain ⟨t,rfl⟩:=ra.str
 obtain ⟨u,rfl⟩:=rb.str
 obtain rfl:y=⟨#[ch]⟩:=Str.ext' (NP.mp hy)
 have e:(C7 ch x.cps.toList).map (λp=>AV.str ⟨p.toArray⟩)=(Ka x ⟨#[ch]⟩).map .str:=by rw[aI,F6];rfl
 have hle:=split_le x ⟨#[ch]⟩
 have hA:x.length+2<=BY:=AA (Wk hsz) ⋯
 rw[e]
 have fin:∀(l:List Str)(tk tk':Nat),Ka x ⟨#[ch]⟩=l->FU c wr π H s (.lst ((Ka x ⟨#[ch]⟩).map .str)) H (.ref s.heap.objs.size) {s with heap:=s.heap.push {cls:=.type "list",data:=.seq (strsFrom tk l).toArray},toks:=tk'}:=λl tk tk' hl=>by
  rw[hl]
  exact⟨π,.pure G (.push _),As.newList G (Y3 tk l)⟩
 have nU:Ka x ⟨#[ch]⟩=if (decide (x.length<(⟨#[ch]⟩ :Str).length)||decide (RZ x<RZ ⟨#[ch]⟩))=true then [x] else
   if (Ov x ⟨#[ch]⟩ 0 x.length (x.length+1)).isEmpty=true then [x] else Bk.Str.partsBetween x (Ov x ⟨#[ch]⟩ 0 x.length (x.length+1)) (⟨#[ch]⟩ :Str).length:=rfl
 cases h1:(decide (x.length<(⟨#[ch]⟩ :Str).length)||decide (RZ x<RZ ⟨#[ch]⟩))
 ·rw[h1,AD BI] at nU
  cases hf:(Ov x ⟨#[ch]⟩ 0 x.length (x.length+1)).isEmpty
  ·rw[hf,AD BI] at nU
   refine Il R2 (J2 _ _ _) WO (WN _ _) (meets_str_split_sep x ⟨#[ch]⟩ t u h1 rfl hf (AA (BF _ 2) hA) (by rw[<-nU];exact AA hle hA)) ?_
   exact fin _ _ _ nU
  ·rw[hf,Bh rfl] at nU
   refine Il R2 (J2 _ _ _) WO (WN _ _) (meets_str_split_not_found x ⟨#[ch]⟩ t u h1 rfl hf) ?_
   exact fin [x] t s.toks nU
 ·rw[h1,Bh rfl] at nU
  refine Il R2 (J2 _ _ _) WO (WN _ _) (meets_str_split_cannot_occur x ⟨#[ch]⟩ t u h1) ?_
  exact fin [x] t s.toks nU
end
end
section
open Builtin Builtin.ObjectAttr
section
variable{c:Cx}{d:Nat}{fr:FD}{lo Bv BJ:Lo}{H H' EZ H1 H2 H3:List AO}
theorem CZ:Jh ⟨cls,dd,.seq vs k,sl⟩:=.data λ_ q=>nomatch q
theorem yU(e:n=m)(h:m<100000):n<BY:=e▸BW h ⋯
theorem Cj.append(e:H[l]?=some (.list xs))(hsz:xs.length<100000)(hw:wr<=l):Cj c d H wr "list.append" [.loc l,v] .none (H.set l (.list (xs++[v]))):=.two λA π s E ca cv R _ G ra r=>(G.objs l _ e).elim λvs q=>q.elim λn q=>by
 rw[ra.loc.2]
 refine Il RF ⟨_,q.1,rfl⟩ Wy (WA _ _) (list_append (π.at' l) vs n cv (by have:=yU q.2.size hsz;exact(pw [.t .p .q] (.l .p .q) [] [_,_]) this)) ⟨q.1,?_⟩
 exact⟨π,Fo (CY G (G.lt e) hw q.1 CZ CZ rfl s.toks λh' S e'=>⟨vs.push cv,_,e',(q.2.step S).snoc (r.step S)⟩),.FV⟩
theorem fy:Dp "list.append" =some .slot\/Dp "list.append" =some .method:=⋯
theorem aJ:G8 "list.append" =some ("list","append"):=⋯
theorem Cj.aK(Cl:Be c){wr l dl:Nat}(e:H[l]?=some (.acc dl xs))(hsz:xs.length<100000)(hw:wr<=l):Cj c d H wr "list.append" [.loc l,v] .none (H.set l (.acc dl (xs++[v]))):=.two λA π s E ca cv R _ G ra r=>(HI G e).elim λvs q=>q.elim λk q=>q.elim λsl q=>by
 rw[ra.loc.2]
 have hs:=yU q.2.1.size hsz
 refine SV fy aJ RF.plain Wy (WA _ _) (Xm Cl (c.DA G) q.2.2.2 _ ⋯) ?_
 show Ae _ _ (updateSeq (π.at' l) (·.push cv)>>=λ_=>ret .none) _ _ _
 refine Ac (EK q.1 rfl (_hz':=by rw[AE.size_push];exact Wk (DY hs)) (An ⟨_,rfl,?_⟩))
 exact⟨π,Fo (CY G (G.lt e) hw q.1 CZ CZ rfl s.toks λh' S e'=>⟨vs.push cv,_,sl,e',q.2.2.1,(q.2.1.step S).snoc (r.step S)⟩),.FV⟩
theorem or3{a b c:Aa}(h:b=true):(a||b||c)=true:=by rw[h,Aa.or_true,Aa.true_or]
theorem Cj.extend(e:H[l]?=some (.list xs))(hv:Jx c H v ys)(hsz:xs.length+ys.length<=1000)(hw:wr<=l):Cj c d H wr "list.extend" [.loc l,v] .none (H.set l (.list (xs++ys))):=.two λA π s E ca cb R _ G ra rb=>
  (G.objs l _ e).elim λvs q=>q.elim λn q=>(hv π s G cb rb).elim λb z=>z.elim λus z=>(Er z.2.1).elim λdd y=>y.elim λnb y=>y.elim λsb ja=>by
 rw[ra.loc.2,z.1]
 have hs:vs.size+us.size<=1000:=by rw[q.2.size,z.2.2.size];exact hsz
 refine GY c5 ⟨_,q.1,rfl⟩ PySem.F.entry_list_extend ?_ (PySem.F.args_list_extend_2 _ _)
 show Ae _ _ (Bk.List.listExtendWith (.ref (π.at' l)) (.ref b) .none) _ _ _
 refine Ac (L5 ⟨_,ja,rfl⟩ ?_)
 rw[Bh (or3 (b:=Fk "list" ==Fk "list") rfl)]
 refine Ac (Ac (FQ ja rfl (An (Ac (Ac (FQ q.1 rfl (An ?_)))))))
 have hl:vs.size+us.size<=BY:=AA hs ⋯
 rw[AD (by rw[show WK (vs.size+us.size)=false from Ct (EJ.mpr hl),Q2];exact BI)]
 refine Ac (EK q.1 rfl (_hz':=by rw[AE.size_append];exact JU hl) (An ⟨_,rfl,?_⟩))
 exact⟨π,Fo (CY G (G.lt e) hw q.1 CZ CZ rfl s.toks λh' S e'=>⟨vs++us,_,e',by
  rw[Lv]
  exact(q.2.step S).append (z.2.2.step S)⟩),.FV⟩
theorem nV(vs:AE Ad)(cv:Ad)(j:Nat)(h:j<=vs.size):((vs.extract 0 (min j vs.size)).push cv++vs.extract (min j vs.size) vs.size)=(vs.toList.take j++cv::vs.toList.drop j).toArray:=by
 rw[Nat.min_eq_left h]
 apply NP.mp
 simp only[Lv,AE.toList_push,AE.toList_extract,List.extract_eq_take_drop]
 rw[V8 (i:=vs.size-j) (by rw[Rg];exact AP _),List.drop_zero,Wp,FL]
 rfl
theorem Cj.insert(e:H[l]?=some (.list xs))(hi: 0<=i/\i<=xs.length/\xs.length<1000)(hw:wr<=l):Cj c d H wr "list.insert" [.loc l,.int i,v] .none (H.set l (.list (xs.take i.toNat++v::xs.drop i.toNat))):=.three λA π s E ca cb cv R _ G ra rb r=>
  (G.objs l _ e).elim λvs q=>q.elim λn q=>rb.int.elim λt ht=>(bL hi.1).elim λj hj=>by
 rw[ra.loc.2,ht]
 have hs:vs.size<1000:=by rw[q.2.size];exact hi.2.2
 have hk:j<=vs.size:=by rw[q.2.size];exact DM.mp (hj▸hi.2.1)
 have hf:=fitsIndex_of hi.1 (V0 hi.2.1 (V4 (DB.mpr hi.2.2) ⋯))
 refine GY c6 ⟨_,q.1,rfl⟩ PySem.F.entry_list_insert ?_ (PySem.F.args_list_insert_3 _ _ _)
 refine Ac (Ci rfl ?_)
 refine Ac (Ci rfl ?_)
 rw[AD (by rw[hf];exact BI)]
 subst hj
 have hz:vs.size+1<=BY:=AA hs ⋯
 refine Ac (EK q.1 rfl (_hz':=by
  show AE.size (((vs.extract 0 (min j vs.size)).push cv++vs.extract (min j vs.size) vs.size))<=_
  rw[nV vs cv j hk,LF,BO,JQ,<-Nat.add_assoc,<-BO,H4,Dt];exact JU hz) (An ⟨_,rfl,?_⟩))
 exact⟨π,Fo (CY G (G.lt e) hw q.1 CZ CZ rfl s.toks λh' S e'=>⟨_,_,e',by
  show Ag _ _ _ _ (AE.toList ((vs.extract 0 (min j vs.size)).push cv++vs.extract (min j vs.size) vs.size))
  rw[nV vs cv j hk]
  exact((q.2.step S).take _).append (.cons (r.step S) ((q.2.step S).drop _))⟩),.FV⟩
theorem Y4:∀{l:List Str}{i:Nat},Ok (Qe x l i) λj=>∃k,j=i+k/\l[k]?=some x/\∀m,m<k->l[m]?≠some x
 |[],_=>.none
 |y::r,i=>.cond (λq=>.some ⟨0,rfl,Ai some (BC q),λm hm=>AL hm (F8 m)⟩) λq=>(Y4).mono λj h=>h.elim λk h=>⟨k+1,h.1.trans (Nat.succ_add_eq_add_succ i k),h.2.1,λm hm=>match m with
  |0=>λe=>by rw[AQ e,KQ] at q;cases q
  |m+1=>h.2.2 m (LN hm)⟩
def nW(x:Str)(v:Ad):Aa:=match v with | .str z _=>sEq z x | _=>false
theorem UG:∀{xs:List AV},Ok (IH xs) λys=>ys.length=xs.length/\∀{π:Pl}{n:Nat}{h:Ay}{vs:List Ad},Ag π n h xs vs->∀(j:Nat) v,vs[j]?=some v->∃y t,ys[j]?=some y/\v=.str y t
 |[]=>.some ⟨rfl,λr j v e=>by rw[r] at e;cases e⟩
 |x::xs=>Cz.bind λb hb=>(UG).bind λbs q=>.some ⟨Ai Gb q.1,λ{π n h vs} r j v e=>AH r λw r=>r.elim λws r=>by
   rw[r.1] at e
   match j,e with
   |0,e=>exact(AH (show As π n h (.str b) w from hb▸r.2.1) λt z=>⟨b,t,rfl,(AQ e).symm.trans z⟩)
   |j+1,e=>exact q.2 r.2.2 j v e⟩
theorem QR:nW x (.str y t)=true↔some y=some x:=⟨λh=>Ai some (BC h),λh=>by rw[AQ h];exact KQ x⟩
theorem Cj.Hj{ys:List Str}{j:Nat}(hs:ys.length=xs.length/\∀{π:Pl}{n:Nat}{h:Ay}{vs:List Ad},Ag π n h xs vs->∀(j:Nat) v,vs[j]?=some v->∃y t,ys[j]?=some y/\v=.str y t)(hj:∃k,j=0+k/\ys[k]?=some x/\∀m,m<k->ys[m]?≠some x)(hsz:xs.length<1000):Cj c d H wr "list.index" [.lst xs,.str x] (.int j) H:=.two λA π s E ca cb R _ G ra rb=>
  rb.str.elim λu hu=>ra.lst.elim λa q=>q.elim λvs q=>(Er q.2.1).elim λdd y=>y.elim λn y=>y.elim λsl ho=>hj.elim λk h=>by
 rw[q.1,hu,h.1,Ia]
 have hlen:=q.2.2.2.size
 have hk:=(NZ.mp h.2.1).1
 have hkv:k<vs.size:=by rw[hlen,<-hs.1];exact hk
 have at':=λm hm=>hs.2 q.2.2.2 m vs[m] (by simp[hm])
 refine Il da ⟨_,ho,rfl⟩ PySem.F.entry_list_index (PySem.F.args_list_index_2 _ _) (PySem.SeqAt.list_indexAt a vs n dd sl (.str x u) (nW x) k hkv (by have:=yU hlen (EH hsz ⋯);unfold BY at this;exact(pw [.t .p .q,.t .q (.k (2^24))] (.T (.n .p) (.S (.j (2^63)) (.j 1))) [] [_,_]) hkv this) ((at' k hkv).elim λy z=>z.elim λt z=>by rw[z.2];exact QR.mpr (z.1.symm.trans h.2.1)) λm hm IZ=>?_) ⟨ho,λy hy=>?_,⟨π,.pure G .toks,.mkInt⟩⟩
 ·exact Gx.mpr λw=>(at' m hm).elim λy z=>z.elim λt z=>h.2.2 m IZ (z.1.trans (QR.mp (z.2▸w)))
 ·exact(AE.getElem_of_mem hy).elim λm e=>e.elim λhm e=>(at' m hm).elim λz w=>w.elim λt w=>by
   obtain rfl:y=.str z t:=e.symm.trans w.2
   exact(SK _ rfl π H.length s.heap _ _ .mkStr .mkStr).1 _ _ |>.1
end
end
section
open Builtin Builtin.ObjectAttr
theorem UH:Slot "method_descriptor" "__get__" "method_descriptor.__get__" :=.of (owner:="method_descriptor") (n:="__get__") (by rw[typeLookup_type,builtinLookup_eq_fast];kernel_rfl) ⋯ ⋯ ⋯
  (by first | exact .inl ⋯ | exact .inr ⋯) (by rw[isSubtype_type];kernel_rfl)
theorem MX:Slot "wrapper_descriptor" "__get__" "wrapper_descriptor.__get__" :=.of (owner:="wrapper_descriptor") (n:="__get__") (by rw[typeLookup_type,builtinLookup_eq_fast];kernel_rfl) ⋯ ⋯ ⋯
  (by first | exact .inl ⋯ | exact .inr ⋯) (by rw[isSubtype_type];kernel_rfl)
theorem SX:Ip It "method_descriptor.__get__" =some Bk.«method_descriptor.__get__» :=Oc ⋯
theorem KW:Ip It "wrapper_descriptor.__get__" =some Bk.«wrapper_descriptor.__get__» :=Oc ⋯
theorem UI(a b c:Ad):C5 "method_descriptor.__get__" ⟨[a,b,c],[]⟩:=by unfold C5;kernel_rfl
theorem MY(a b c:Ad):C5 "wrapper_descriptor.__get__" ⟨[a,b,c],[]⟩:=by unfold C5;kernel_rfl
theorem qe:CR (.builtin "list.pop")=pure (.type "method_descriptor"):=⋯
theorem qf:CR (.builtin "list.__len__")=pure (.type "wrapper_descriptor"):=⋯
theorem kj:CR (.builtin "list.__init__")=pure (.type "wrapper_descriptor"):=⋯
theorem qg(K:AI):Mk K "pop" [.type "list",.type "object"]=some (some (.builtin "list.pop")):=⋯
theorem qh(K:AI):Mk K "__len__" [.type "list",.type "object"]=some (some (.builtin "list.__len__")):=⋯
theorem kl(K:AI):Mk K "__init__" [.type "list",.type "object"]=some (some (.builtin "list.__init__")):=⋯
section
variable{c:Cx}{d:Nat}{fr:FD}{lo Bv BJ:Lo}{H H' EZ H1 H2 H3:List AO}
noncomputable def HJ(k:A3)(id:A3)(x:Ah):Obj:={cls:=.type k,data:=.fields #[.builtin id,.ref x]}
theorem fA{os:G6}{id:A3}(Cl:Be c)(X:c.K.In h)(hx:h.get? x=some ox)(hc:ox.cls=.ref 249)(hid:id="list.__len__" \/id="list.__init__")
  (q:Q (.done (.ret (.ref h.objs.size))) ⟨h.push (HJ "method-wrapper" id x),g,dd,t,os⟩):Ae c.m A (Bk.«wrapper_descriptor.__get__» ⟨[.builtin id,.ref x,.ref 249],[]⟩) Q E ⟨h,g,dd,t,os⟩:=by
 have hs:AR c.m h (J4 (.ref 249) (.type "list")) true:=by
  obtain ⟨cd,hc,hm⟩:=Cl.a.mro
  exact Iz X (by unfold IB;rw[hc,Gy,AD (by rw[hm];decide),hm];decide)
 unfold Bk.«wrapper_descriptor.__get__»
 repeat wp_step
 rw[hc]
 rcases hid with rfl | rfl
 all_goals
  refine Kd hs ?_
  refine An ?_
  repeat (first | (with_reducible refine Ew ?_ (by size_fits)) | wp_step)
  exact q
theorem qi{os:G6}(Cl:Be c)(X:c.K.In h)(hx:h.get? x=some ox)(hc:ox.cls=.ref 249)
  (q:Q (.done (.ret (.ref h.objs.size))) ⟨h.push (HJ "builtin_function_or_method" "list.pop" x),g,dd,t,os⟩):Ae c.m A (Bk.«method_descriptor.__get__» ⟨[.builtin "list.pop",.ref x,.ref 249],[]⟩) Q E ⟨h,g,dd,t,os⟩:=by
 have hs:AR c.m h (J4 (.ref 249) (.type "list")) true:=by
  obtain ⟨cd,hc,hm⟩:=Cl.a.mro
  exact Iz X (by unfold IB;rw[hc,Gy,AD (by rw[hm];decide),hm];decide)
 unfold Bk.«method_descriptor.__get__»
 repeat wp_step
 rw[hc]
 refine Kd hs ?_
 refine An ?_
 repeat (first | (with_reducible refine Ew ?_ (by size_fits)) | wp_step)
 exact q
structure SY(id:A3)(T gid bk:A3)(B:Bk):Prop where
 sl:Slot T "__get__" gid
 en:Ip It gid=some B
 ar:∀a b c,C5 gid ⟨[a,b,c],[]⟩
 ty:CR (.builtin id)=pure (.type T)
 get:∀{c:Cx}{A:AG}{h:Ay}{g:AE Md}{dd:Drawn}{t:Nat}{os:G6}{E:EP}{Q:Fin->Aj->Prop}{x:Ah}{ox:Obj},Be c->c.K.In h->h.get? x=some ox->ox.cls=.ref 249->
  Q (.done (.ret (.ref h.objs.size))) ⟨h.push (HJ bk id x),g,dd,t,os⟩->Ae c.m A (B ⟨[.builtin id,.ref x,.ref 249],[]⟩) Q E ⟨h,g,dd,t,os⟩
theorem SY.pop:SY "list.pop" "method_descriptor" "method_descriptor.__get__" "builtin_function_or_method" Bk.«method_descriptor.__get__» :=⟨UH,SX,UI,qe,λCl X hx hc q=>qi Cl X hx hc q⟩
theorem SY.len:SY "list.__len__" "wrapper_descriptor" "wrapper_descriptor.__get__" "method-wrapper" Bk.«wrapper_descriptor.__get__» :=⟨MX,KW,MY,qf,λCl X hx hc q=>fA Cl X hx hc (.inl rfl) q⟩
theorem SY.init:SY "list.__init__" "wrapper_descriptor" "wrapper_descriptor.__get__" "method-wrapper" Bk.«wrapper_descriptor.__get__» :=⟨MX,KW,MY,kj,λCl X hx hc q=>fA Cl X hx hc (.inr rfl) q⟩
noncomputable def Xr(x:Ah):Obj:={cls:=.type "super",dict:=none,data:=.fields #[.ref 249,.ref x,.ref 249],slots := #[]}
theorem fB{os:G6}{id T gid bk:A3}{name:Str}{tk:Tok}(Cl:Be c)(X:c.K.In h)
  (Se:SY id T gid bk B)(hso:h.get? so=some (Xr x))(hno:nsIn c.K Oo "thirdparty.any" =some none)(hx:h.get? x=some ox)(hc:ox.cls=.ref 249)(hf:Mk c.K name [.type "list",.type "object"]=some (some (.builtin id)))
  (hxC:x≠249)(hn:(name==("__class__" :Str))=false)(q:Q (.done (.ret (.ref h.objs.size))) ⟨h.push (HJ bk id x),g,dd,t,os⟩):
  Ae c.m A (Bk.«super.__getattribute__» ⟨[.ref so,.str name tk],[]⟩) Q E ⟨h,g,dd,t,os⟩:=by
 have hlk:=Se.sl.lookup
 have hne:(Bq x==Bq 249)=false:=by simp[hxC]
 have SN:¬(name==("__class__" :Str))=true:=by rw[hn];exact BI
 have qj:¬(Bq x==Bq 249)=true:=by rw[hne];exact BI
 have hTf:(⟨h,g,dd,t,os⟩ :Aj).TypeIs (.builtin id) T:=Se.ty
 have hdt:(Xr x).data=.fields #[.ref 249,.ref x,.ref 249]:=rfl
 have f0:(#[.ref 249,.ref x,.ref 249]:AE Ad)[0]?=some (.ref 249):=rfl
 have f1:(#[.ref 249,.ref x,.ref 249]:AE Ad)[1]?=some (.ref x):=rfl
 have f2:(#[.ref 249,.ref x,.ref 249]:AE Ad)[2]?=some (.ref 249):=rfl
 obtain ⟨cd,yV,hm⟩:=Cl.a.mro
 have AaB:AR c.m h (opaqueClassAbove (.ref 249)) none:=looks_opaque X hno
 have hC:AR c.m h (mroOf (.ref 249)) [.ref 249,.type "list",.type "object"]:=by
  exact(Oz X yV).andThen (by rw[hm];exact .now)
 have hl:(([.ref 249,.type "list",.type "object"]:List Ad).dropWhile (· !=.ref 249)).drop 1=[.type "list",.type "object"]:=⋯
 repeat (first
  |(with_reducible refine D0 hso hdt f0 ?_) | (with_reducible refine D0 hso hdt f1 ?_) | (with_reducible refine D0 hso hdt f2 ?_)
  |(with_reducible refine ks_wpAny_notOpaque AaB ?_)
  |(with_reducible refine Kd hC ?_;rw[hl])
  |(refine ks_forIn_along X (λ_ _=>rfl) rfl ?_ hf)
  |(with_reducible refine L5 hTf ?_)
  |(with_reducible refine GY Se.sl hTf Se.en ?_ (Se.ar _ _ _))
  |(with_reducible refine⟨_,rfl,?_⟩)
  |(rw[AD SN])
  |(rw[AD qj])
  |(rw[AD BI])
  |wp_step
  |dsimp only)
 refine Se.get Cl X hx hc ⟨_,rfl,?_⟩
 repeat (first | wp_step | dsimp only)
 exact q
end
end
section
open Builtin Builtin.ObjectAttr
section
variable{c:Cx}{d:Nat}{fr:FD}{lo Bv BJ:Lo}{H H' EZ H1 H2 H3:List AO}
theorem Nh{os:G6}{id T gid bk:A3}(Cl:Be c)(X:c.K.In h)
  (Se:SY id T gid bk B)(hso:h.get? so=some (Xr x))(hno:nsIn c.K Oo "thirdparty.any" =some none)(hx:h.get? x=some ox)(hc:ox.cls=.ref 249)(hf:Mk c.K name [.type "list",.type "object"]=some (some (.builtin id)))
  (hxC:x≠249)(hn:(name==("__class__" :Str))=false)(hq:Q (.ref h.objs.size,[]) ⟨h.push (HJ bk id x),g,dd,t+1,os⟩):
  Ae c.m A (Om (.ref so) name pl) Q E ⟨h,g,dd,t,os⟩:=by
 have hlk:=WM.lookup
 have AaC:=PySem.F.ks_canon_super_ga
 have hT:∀t',(⟨h,g,dd,t',os⟩ :Aj).TypeIs (.ref so) "super" :=λ_=>⟨_,hso,rfl⟩
 refine Ac (J0 (hT _) hlk ?_)
 show Ae _ _ (if (Manifest.canonical "super.__getattribute__" !="object.__getattribute__")=true then _ else _) _ _ _
 rw[Bh AaC]
 refine Ac (Ac (RO (BE (Ac (L5 (hT _) (Ac (Ci hlk ?_)))))))
 refine Ac (Ci (rfl) ?_)
 refine Ac (GZ (BE ?_))
 refine Ac (Ci (WM.bind _) ?_)
 refine AJ (Q:=λv s'=>v=.ref h.objs.size/\s'=⟨h.push (HJ bk id x),g,dd,t+1,os⟩) (E:=λ_ _=>Cd)
  (GY WM (hT _) PySem.F.ks_entry_super_ga (fB Cl X Se hso hno hx hc hf hxC hn ⟨_,rfl,rfl,rfl⟩) (PySem.F.ks_gaArgs_super _ _)) (λv s' hv=>?_) λ_ _ z=>z.elim
 obtain ⟨rfl,rfl⟩:=hv
 exact An (An hq)
def vN(c:Cx)(id:A3):Prop:=∀(A:AG)(s:Aj)(E:EP)(Q:Ce->Aj->Prop)(x:Ah)(ox:Obj),c.K.In s.heap->s.heap.get? x=some ox->ox.cls=.ref 249->Q () s->
 Ae c.m A (LX id ⟨[.ref x],[]⟩) Q E s
theorem fC:vN c "list.__len__" :=by
 intro A s E Q x ox X hx hc q
 refine Ci ?_ q
 kernel_rfl
theorem aL:vN c "list.__init__" :=by
 intro A s E Q x ox X hx hc q
 refine Ci ?_ q
 kernel_rfl
set_option backward.match.sparseCases true in
theorem km{id bk:A3}(X:c.K.In s.heap)(hx:s.heap.get? x=some ox)(hc:ox.cls=.ref 249)(hb:s.heap.get? b=some (HJ bk id x))(hbk:bk="builtin_function_or_method" \/bk="method-wrapper")
  (hp:plainId id=true)(he:Ip It id=some B)(hchk:∀(A:AG)(E:EP)(Q:Ce->Aj->Prop),Q () s->Ae c.m A (LX id ⟨[.ref x],[]⟩) Q E s)
  (h:Ae c.m A.in1 (B ⟨[.ref x],[]⟩) (λfin s'=>∃v,fin=.done (.ret v)/\Q v s') E s):Ae c.m A (call (.ref b) []) Q E s:=by
 refine DE (RG ?_)
 show Ae _ A.in1 (callAny (.ref b) ⟨[],[]⟩) _ _ _
 refine Ac (Oj hb ?_)
 have fin:∀f:Ad×List Ad,Ae c.m A.in1 (LX id ⟨[.ref x],[]⟩>>=λ_=>again (.builtin id ⟨[.ref x],[]⟩)) (λfin s'=>match fin with | .done f=>(match (.ok f:Result) with | .ok (.ret v)=>Q v s' | .ok _=>Cd | .error e=>E e s') | .again c'=>c'.quiet=true/\EO c.m A c' (λr s'=>match r with | .ok (.ret v)=>Q v s' | .ok _=>Cd | .error e=>E e s') s')
   (λe s'=>E e s') s:=λ_=>by
  refine Ac (hchk _ _ _ ?_)
  refine An ⟨Gc hp _,LW he ?_⟩
  rw[Kc hp _]
  exact AJ h (λfin s' ⟨v,e,q⟩=>by subst e;exact q) λ_ _ x=>x
 rcases hbk with rfl | rfl
 ·exact fin (.none,[])
 ·exact fin (.none,[])
end
end
section
open Builtin Builtin.ObjectAttr
structure JJ(c:Cx):Prop where
 opq:nsIn c.K Oo "thirdparty.any" =some none
 top:(c.prog.main.scope.names.lookup ("super" :Str)).isSome=false
 AaD:Glob c.B.heap "super" (.type "super")
 cell:∃o,c.K.lookup 173=some o/\o.data=.cell (some (.ref 249))
 cls:∃o cd,c.K.lookup 249=some o/\o.data=.cls cd/\o.cls=.type "type" /\cd.qualname="_Accumulator"
 code:∀a∈[185,208,245],∃oc vs file tf,c.K.lookup a=some oc/\oc.data=.fields vs/\vs[2]?=some (.str file tf)/\((c.prog.main.file:Str)==file)=true
section
variable{c:Cx}{d:Nat}{fr:FD}{lo Bv BJ:Lo}{H H' EZ H1 H2 H3:List AO}
theorem Y5(Cl:Be c)(X:c.K.In h)(t:Ad):AR c.m h (J4 (.ref 249) t) (([.ref 249,.type "list",.type "object"]:List Ad).contains t):=by
 obtain ⟨cd,hc,hm⟩:=Cl.a.mro
 exact Iz X (by unfold IB;rw[hc,Gy,AD (by rw[hm];decide),hm])
theorem fD(Cl:Be c)(Su:JJ c){os:G6}(X:c.K.In h)(hx:h.get? x=some ox)(hc:ox.cls=.ref 249)(hnc:∀c,ox.data≠.cls c)(q:Q () ⟨h,g,dd,t,os⟩):
  Ae c.m A (LX "list.pop" ⟨[.ref x],[]⟩) Q E ⟨h,g,dd,t,os⟩:=by
 obtain ⟨⟨ocl,odi,oda,osl⟩,cd,hK,hd,ho,hq⟩:=Su.cls
 subst hd ho
 have qk:=X _ _ hK
 have hT:AR c.m h (CR (.ref x)) (.ref 249):=(D4 hx).andThen (by rw[hc];exact .now)
 have hI:AR c.m h (Ik (.ref x) (.type "module")) false:=hT.andThen (Y5 Cl X _)
 have yV:AR c.m h (classData 249) cd:=Oz X (by unfold W.clsIn;rw[hK])
 have hTT:AR c.m h (CR (.ref 249)) (.type "type"):=(D4 qk).andThen .now
 have e1:dw "list.pop" =some ⟨.positional,"list.pop","pop",.self,[⟨"index",.posOnly,false⟩]⟩:=⋯
 have e2:Dp "list.pop" =some .method:=⋯
 have e3:Manifest.varargsMethods.contains "list.pop" =false:=⋯
 unfold LX
 rw[e1,e2]
 show Ae _ _ (@ite _ _ _ _ _) _ _ _
 rw[AD ⋯]
 refine Ac (Kd hI ?_)
 refine Ac (ks_wpAny_isType_inst hx hnc ?_)
 refine Ac (Kd hT ?_)
 refine Ac (Kd yV ?_)
 rw[hq]
 refine Ac (Kd hTT ?_)
 refine Ci ?_ q
 kernel_rfl
def vO(c:Cx)(id:A3):Prop:=∀(A:AG)(h:Ay)(g:AE Md)(dd:Drawn)(t:Nat)(os:G6)(E:EP)(Q:Ce->Aj->Prop)(x:Ah)(ox:Obj),c.K.In h->h.get? x=some ox->ox.cls=.ref 249->(∀c,ox.data≠.cls c)->Q () ⟨h,g,dd,t,os⟩->
 Ae c.m A (LX id ⟨[.ref x],[]⟩) Q E ⟨h,g,dd,t,os⟩
structure Pw(c:Cx)(nm:Str)(id T gid bk:A3)(B B':Bk):Prop where
 e:SY id T gid bk B
 al:Mk c.K nm [.type "list",.type "object"]=some (some (.builtin id))
 bk:bk="builtin_function_or_method" \/bk="method-wrapper"
 pl:plainId id=true
 en:Ip It id=some B'
 chk:vO c id
theorem Pw.pop(Cl:Be c)(Su:JJ c):Pw c "pop" "list.pop" "method_descriptor" "method_descriptor.__get__" "builtin_function_or_method" Bk.«method_descriptor.__get__» Bk.«list.pop» :=
 ⟨.pop,qg _,.inl rfl,by decide +kernel,Oc ⋯,λA h g dd t os E Q x ox X hx hc hn q=>fD Cl Su X hx hc hn q⟩
theorem Pw.len:Pw c "__len__" "list.__len__" "wrapper_descriptor" "wrapper_descriptor.__get__" "method-wrapper" Bk.«wrapper_descriptor.__get__» Bk.«list.__len__» :=
 ⟨.len,qh _,.inr rfl,by decide +kernel,Oc ⋯,λA h g dd t os E Q x ox X hx hc hn q=>fC _ _ _ _ x ox X hx hc q⟩
theorem Pw.init:Pw c "__init__" "list.__init__" "wrapper_descriptor" "wrapper_descriptor.__get__" "method-wrapper" Bk.«wrapper_descriptor.__get__» Bk.«list.__init__» :=
 ⟨.init,kl _,.inr rfl,by decide +kernel,Oc ⋯,λA h g dd t os E Q x ox X hx hc hn q=>aL _ _ _ _ x ox X hx hc q⟩
structure fE(c:Cx)(fr:FD)(lo:Lo)(l:Nat)(env:Env):Prop where
 fn:∃a of fd ar,env.func=some a/\c.K.lookup a=some of/\of.data=.func fd/\(fd.params.posonlyargs++fd.params.args).head?=some ar/\ar.arg="self"
 ks:fr.scope.names.lookup ("super" :Str)=some .globalImplicit
 kc:fr.scope.names.lookup ("__class__" :Str)=some .free
 ka:fr.scope.names.lookup ("self" :Str)=some .local
 cls:fr.cls.isSome=true
 code:∃cc oc vs file tf,fr.code=.ref cc/\c.K.lookup cc=some oc/\oc.data=.fields vs/\vs[2]?=some (.str file tf)/\((c.prog.main.file:Str)==file)=true
 self:lo.lookup ("self" :Str)=some (.loc l)
theorem aM(Cl:Be c)(Su:JJ c){l dl:Nat}
  {id T gid bk:A3}(G:Av c π H s)(hH:H[l]?=some (.acc dl xs))(hat:(nm==("__class__" :Str))=false)(hline:(ap.endLine==pos.line)=true)(Sc:Pw c nm id T gid bk B B')
  (h:∀s₂,Kp no s s₂->Ae c.m A.in1 (B' ⟨[.ref (π.at' l)],[]⟩) (λfin s'=>∃v,fin=.done (.ret v)/\Q v s') E s₂):
  Ae c.m A (isType (.ref 249)) (λb s₄=>b=true/\Ae c.m A (call (.type "super") [.ref 249,.ref (π.at' l)])
   (λa s'=>L8 c.m A (.func body env) (do standAt ap.atName;Mb (.Call (.Name "super" p0) [] [] p1) nm ap pos env a 0 [] []) Q E s') E s₄) E s:=by
 have X:=c.DA G
 refine Bm λGG fin=>(HI G hH).elim λvl q=>q.elim λkk q=>q.elim λsl q=>Su.cls.elim λoD y=>y.elim λcdD y=>fin ?_
 have vP:π.at' l≠249:=λw=>by have h:=G.new _ (G.mem l (G.lt hH));rw[w,c.yI _ _ y.1] at h;rcases h with ⟨⟩
 have hD:=X _ _ y.1
 obtain ⟨hp',g,dd,t,os⟩:=s
 refine ks_wpAny_isType_cls hD y.2.1 ⟨rfl,?_⟩
 refine ks_wpAny_call_super hD y.2.1 q.1 rfl (λ_ q=>by rcases q with ⟨⟩) (Y5 Cl X _) λh' hso up=>?_
 refine RH (JB (DN ?_))
 have X':=X.keeps up
 have qk:=up _ _ q.1
 have Px:Oe 0 [] []=true:=rfl
 have Xu:J1 true (.Call (.Name "super" p0) [] [] p1) env ap pos=pure pos:=by unfold J1;rw[hline];rfl
 unfold Mb
 rw[Px]
 refine RH (JB (BE (Nh Cl X' Sc.e hso Su.opq qk rfl Sc.al vP hat ?_)))
 refine RH (JB (Ci Xu ?_))
 refine JB ?_
 have X2:=X'.keeps (λb o e=>B6 (HJ bk id (π.at' l)) e)
 have nD:=B6 (HJ bk id (π.at' l)) qk
 have hb:(h'.push (HJ bk id (π.at' l))).get? h'.objs.size=some (HJ bk id (π.at' l)):=Bp _ rfl
 have K2:Kp no (⟨hp',g,dd,t,os⟩ :Aj) ⟨h'.push (HJ bk id (π.at' l)),g,dd,t+1,os⟩:=.of_keeps λb o e=>B6 _ (up b o e)
 refine IA rfl (λh hg=>⟨.machine,.inr (.inl rfl),(D4 hg).andThen ?_⟩) (evalArgs_nil3 ⟨hb,km X2 nD rfl hb Sc.bk Sc.pl Sc.en (λA E Q q=>Sc.chk A _ _ _ _ _ E Q _ _ X2 nD rfl (λ_ q=>by rcases q with ⟨⟩) q) (h _ K2)⟩)
 rcases Sc.bk with rfl | rfl<;>exact .now
theorem Ks(Cl:Be c)(Su:JJ c){l dl:Nat}
  {id T gid bk:A3}(I:fE c fr lo l env)(F:Bu π H.length fr env)(G:Av c π H s)(L:Br c π H.length s.heap env.locals lo)(hH:H[l]?=some (.acc dl xs))(hat:(nm==("__class__" :Str))=false)(hline:(ap.endLine==pos.line)=true)(Sc:Pw c nm id T gid bk B B')
  (h:∀s₂,Kp no s s₂->Ae c.m A.in1 (B' ⟨[.ref (π.at' l)],[]⟩) (λfin s'=>∃v,fin=.done (.ret v)/\Q v s') E s₂):
  L8 c.m A (.func body env) (eval (.Call (.Attribute (.Call (.Name "super" p0) [] [] p1) nm ap) [] [] pos) env) Q E s:=by
 have X:=c.DA G
 refine Bm λGG fin=>I.fn.elim λa f=>f.elim λof f=>f.elim λfd f=>f.elim λar f=>I.code.elim λcc k=>k.elim λoc k=>k.elim λvs k=>k.elim λfile k=>k.elim λtf k=>Su.cell.elim λoC z=>(O5 L I.self).elim λm r=>r.elim λcv r=>fin ?_
 rw[RL]
 refine RH (ks_wpAt_super_base (F.kindOf I.ks) (F.kindOf I.kc) hat f.1 (X _ _ f.2.1) f.2.2.1 f.2.2.2.1 ((F.code (by rw[k.1];nofun)).trans k.1) (X _ _ k.2.1) k.2.2.1 k.2.2.2.1 k.2.2.2.2 Su.top ?_)
 rw[f.2.2.2.2]
 have rest:Ae c.m A (loadName env "__class__") (λcls s₂=>Ae c.m A (loadName env "self") (λself s₃=>Ae c.m A (isType cls) (λb s₄=>b=true/\Ae c.m A (call (.type "super") [cls,self])
   (λa s'=>L8 c.m A (.func body env) (do standAt ap.atName;Mb (.Call (.Name "super" p0) [] [] p1) nm ap pos env a 0 [] []) Q E s') E s₄) E s₃) E s₂) E s:=by
  refine wpAny_loadName_free F.kd (F.kindOf I.kc) (F.cls I.cls) ⟨_,X _ _ z.1,z.2⟩ ?_
  refine Wv F.kd (F.kindOf I.ka) r.1 r.2.1 ?_
  rw[r.2.2.loc.2]
  exact aM Cl Su G hH hat hline Sc h
 have lg:∀{Q:EP},Ae c.m A (loadGlobal env "super") Q E s->Ae c.m A (loadName env "super") Q E s:=λq=>by
  have hb:env.blockKind=.function:=by unfold Env.blockKind;rw[F.kd];rfl
  delta loadName
  rw[F.kd,hb,F.kindOf I.ks]
  exact q
 exact AH (Glob.up G Su.AaD) λmg w=>w.elim λmb w=>w.2.2.elim (λh3=>lg (loadGlobal_global (F.glob▸w.1) h3 ⟨rfl,rest⟩)) λh3=>lg (loadGlobal_builtin (F.glob▸w.1) h3.1 (F.bi▸w.2.1) h3.2 ⟨rfl,rest⟩)
end
end
section
open Builtin Builtin.ObjectAttr
def vQ(cc:Ah)(fi:FI):Aa:=
 Bz (lk "super" fi.scope.names) OQ&&(Bz (lk "__class__" fi.scope.names) isFree&&(Bz (lk "self" fi.scope.names) isLocal&&(fi.cls.isSome&&(Bz fi.code (Aw · cc)&&
  (nil (AK fi.scope.names)&&(Bz (fi.params.posonlyargs++fi.params.args).head? λar=>sEq ar.arg "self"))))))
structure ql(cc:Ah)(fi:FI):Prop where
 ks:fi.scope.names.lookup ("super" :Str)=some .globalImplicit
 kc:fi.scope.names.lookup ("__class__" :Str)=some .free
 ka:fi.scope.names.lookup ("self" :Str)=some .local
 cls:fi.cls.isSome=true
 code:fi.code=some cc
 cells:AK fi.scope.names=[]
 hd:∃ar,(fi.params.posonlyargs++fi.params.args).head?=some ar/\ar.arg="self"
theorem S3{k:BX}(hp:∀k',p k'=true->k'=k)(h:Bz (lk x ns) p=true):ns.lookup x=some k:=(A0 h).elim λk' q=>(D9 ..).symm.trans (hp k' q.2▸q.1)
theorem Jo(h:OQ k=true):k=.globalImplicit:=by cases k<;>first | rfl | exact ff h
theorem aN(h:isFree k=true):k=.free:=by cases k<;>first | rfl | exact ff h
theorem kq(h:vQ cc fi=true):ql cc fi:=
 have h2:=Am h;have h3:=Am h2;have h4:=Am h3;have h5:=Am h4;have h6:=Am h5
 ⟨S3 (λ_=>Jo) (Ax h),S3 (λ_=>aN) (Ax h2),S3 (λ_=>DL) (Ax h3),Ax h4,(A0 (Ax h5)).elim λa q=>Cb q.2▸q.1,Bj (Ax h6),(A0 (Am h6)).imp λar q=>⟨q.1,BC q.2⟩⟩
section
variable{c:Cx}{d:Nat}{fr:FD}{lo Bv BJ:Lo}{H H' EZ H1 H2 H3:List AO}
theorem Y6(hw:wr<=n):wr<=(Au fi n wr).wr/\(Au fi n wr).wr<=n:=by
 show wr<=cond fi.Ss wr n/\cond fi.Ss wr n<=n
 cases fi.Ss
 ·exact⟨hw,AP _⟩
 ·exact⟨AP _,hw⟩
set_option backward.match.sparseCases true in
theorem Py(Fs:EA c)(hf:FT a=some fi)(hb:fi.body=.stmts b)(hcells:AK fi.scope.names=[])
  (hput:(Cv fi as []).bind (λbs=>IK (Au fi H.length wr) [] ⟨H,true⟩ bs)=some ⟨lo,⟨H,true⟩⟩)
  (R:A5 (d+1) A)(hw:wr<=H.length)(G:Av c π H s)(ra:Ag π H.length s.heap as cargs)
  (k:∀o fd env s₁ π₁,c.K.lookup a=some o->o.data=.func fd->fd.params=fi.params->env.func=some a->s.heap.get? env.locals=none->PG c wr none π H s H π₁ s₁->Bu π₁ H.length (Au fi H.length wr) env->Br c π₁ H.length s₁.heap env.locals lo->
   L8 c.m (A.deeper env) (.func b env) (execs b env) (λf s'=>Q (match f with | .ret v=>v | _=>.none) s') (λ_ _=>Cd) s₁):
  Ae c.m A (call (.ref a) cargs) Q E s:=by
 refine Bm λGG fin=>(Ab.bind_eq_some_iff.mp hput).elim λbs qm=>(Fs.fn a fi hf).elim λo q=>q.elim λfd q=>((q.2.2.bx qm.1) π H.length s cargs [] (c.DA G) ra .nil).elim λcbs x=>fin ?_
 have Fn:=q.2.2.at q.1 q.2.1 G
 have hS:((⟨H,true⟩ :St).on (H++AK fi.scope.names))=⟨H,true⟩:=by rw[hcells,DX];rfl
 have hwr:=Y6 (fi:=fi) hw
 have hput:yN c (Au fi (⟨H,true⟩ :St).H.length wr) [] ((⟨H,true⟩ :St).on (H++AK fi.scope.names)) bs ⟨lo,⟨H,true⟩⟩:=by rw[hS];exact YO _ qm.2
 have co:=Fn.scope▸Fn.co
 have gn:=Fn.scope▸Fn.gen
 refine DE (codeAny_call_function R.rl (c.DA G a o q.1) q.2.1 co gn (Fn.body.trans hb) Fn.code.Na (x.1 _ _ _ _ ?_))
 rw[Fn.scope,Fn.glob,Fn.bi,Fn.qual]
 refine YR R.in1 G hwr.2 Fn.BH Fn.cls Fn.kind Fn.ncl Fn.YQ hput x.2.1 x.2.2 λenv s₁ π₁ hfu hco hL P₁ F₁ L₁=>?_
 exact⟨c.QD P₁.g,ks_codeAny_funcAt (PySem.wpAt_mono (k o fd env s₁ π₁ q.1 q.2.1 q.2.2.params hfu (hL▸Bx _ (AP _)) (P₁.Kl hwr.1) F₁ L₁) (λf s' q=>q) λ_ _ q=>q.elim)⟩
set_option backward.match.sparseCases true in
theorem S4(Fs:EA c)(Su:JJ c)(hf:FT a=some fi)(hb:fi.body=.stmts b)(Sf:ql cc fi)(hcc:cc∈[185,208,245])
  (hput:(Cv fi as []).bind (λbs=>IK (Au fi H.length wr) [] ⟨H,true⟩ bs)=some ⟨lo,⟨H,true⟩⟩)(hlo:lo.lookup ("self" :Str)=some (.loc l))
  (R:A5 (d+1) A)(hw:wr<=H.length)(G:Av c π H s)(ra:Ag π H.length s.heap as cargs)
  (k:∀env s₁ π₁,fE c (Au fi H.length wr) lo l env->s.heap.get? env.locals=none->PG c wr none π H s H π₁ s₁->Bu π₁ H.length (Au fi H.length wr) env->Br c π₁ H.length s₁.heap env.locals lo->
   L8 c.m (A.deeper env) (.func b env) (execs b env) (λf s'=>Q (match f with | .ret v=>v | _=>.none) s') (λ_ _=>Cd) s₁):
  Ae c.m A (call (.ref a) cargs) Q E s:=
 Py Fs hf hb Sf.cells hput R hw G ra λo fd env s₁ π₁ hK hd hp hfu hab P F L=>k env s₁ π₁
  ⟨Sf.hd.elim λar z=>⟨a,o,fd,ar,hfu,hK,hd,hp▸z.1,z.2⟩,Sf.ks,Sf.kc,Sf.ka,Sf.cls,(Su.code cc hcc).elim λoc z=>z.elim λvs z=>z.elim λfile z=>z.elim λtf z=>⟨cc,oc,vs,file,tf,(show T7 fi.code=_ by rw[Sf.code];rfl),z⟩,hlo⟩ hab P F L
end
end
section
open Builtin Builtin.ObjectAttr
set_option genCtorIdx true in
inductive Opn where
 |p (p:Pos) | n (n:Nat) | s (s:BQ)
noncomputable def VF:Nat->Expr->List Opn
 |0,_=>[]
 |k+1,e=>match e with
  |.Name _ p=>[.p p]
  |.Constant _ n p=>[.n n,.p p]
  |.Attribute e _ p=>VF k e++[.p p]
  |.Call f as _ p=>VF k f++(as.flatMap (VF k)++[.p p])
  |.BinOp a _ b p=>VF k a++(VF k b++[.p p])
  |.Compare a _ bs p=>VF k a++(bs.flatMap (VF k)++[.p p])
  |.Tuple es n p=>es.flatMap (VF k)++[.n n,.p p]
  |.GeneratorExp e gs s p=>VF k e++(gs.flatMap (λg=>VF k g.target++VF k g.iter)++[.s s,.p p])
  |_=>[]
noncomputable def opS:Nat->Az->List Opn
 |0,_=>[]
 |k+1,e=>match e with
  |.Return (some e) p=>VF 20 e++[.p p]
  |.Expr e p=>VF 20 e++[.p p]
  |.Assign ts e p=>ts.flatMap (VF 20)++(VF 20 e++[.p p])
  |.If t b _ p=>VF 20 t++(b.flatMap (opS k)++[.p p])
  |_=>[]
def MZ(a:Ah):EM:=match FT a with | some fi=>fi.body | none=>.stmts []
def opF(a:Ah):List Opn:=match MZ a with | .stmts b=>b.flatMap (opS 3) | _=>[]
def pF(a i:Nat):Pos:=match (opF a)[i]? with | some (.p p)=>p | _=>default
def nF(a i:Nat):Nat:=match (opF a)[i]? with | some (.n p)=>p | _=>default
def sF(a i:Nat):BQ:=match (opF a)[i]? with | some (.s p)=>p | _=>default
theorem I3(hf:FT a=some fi)(hb:fi.body=.stmts b)(h:MZ a=.stmts b'):b=b':=by
 unfold MZ at h
 rw[hf] at h
 exact EM.stmts.inj (hb.symm.trans h)
def fF(b:EM):Aa:=match b with | .stmts _=>true | _=>false
def Y7(a cc:Ah):Aa:=Bz (FT a) λfi=>vQ cc fi&&fF fi.body
theorem GH(h:Y7 a cc=true):∃fi b,FT a=some fi/\fi.body=.stmts b/\ql cc fi:=(A0 h).elim λfi q=>by
 have h2:=Am q.2
 cases e:fi.body with
 |stmts b=>exact⟨fi,b,q.1,e,kq (Ax q.2)⟩
 |expr _=>rw[e] at h2;cases h2
theorem qn:Y7 246 245=true:=by kernel_rfl!
theorem AaH(v:AV)(n wr:Nat)(S:St):((FT 246).bind λfi=>(Cv fi [v] []).bind λbs=>IK (Au fi n wr) [] S bs)=some ⟨[("self",v)],S⟩:=by kernel_rfl!
theorem vR:Y7 209 208=true:=by kernel_rfl!
theorem AaI(v:AV)(n wr:Nat)(S:St):((FT 209).bind λfi=>(Cv fi [v] []).bind λbs=>IK (Au fi n wr) [] S bs)=some ⟨[("self",v)],S⟩:=by kernel_rfl!
theorem AaJ:Y7 186 185=true:=by kernel_rfl!
theorem qo(v w:AV)(n wr:Nat)(S:St):((FT 186).bind λfi=>(Cv fi [v,w] []).bind λbs=>IK (Au fi n wr) [] S bs)=some ⟨[("self",v),("initial_size",w)],S⟩:=by kernel_rfl!
theorem vS:∃p:Nat->Pos,MZ 246=.stmts [.Return (some (.Call (.Attribute (.Call (.Name "super" (p 0)) [] [] (p 1)) "__len__" (p 2)) [] [] (p 3))) (p 4)]/\((p 2).endLine==(p 3).line)=true:=⟨pF 246,by kernel_rfl!,by kernel_rfl!⟩
theorem vT:∃(p:Nat->Pos)(n:Nat->Nat),MZ 209=.stmts [.If (.Compare (.Call (.Attribute (.Name "self" (p 0)) "part_count" (p 1)) [] [] (p 2)) [.Eq] [.Constant (.int 0) (n 3) (p 4)] (p 5)) [.Return (some (.Tuple [.Constant (.str "") (n 6) (p 7),.Constant (.str "") (n 8) (p 9)] (n 10) (p 11))) (p 12)] [] (p 13),
 .Return (some (.Call (.Attribute (.Call (.Name "super" (p 14)) [] [] (p 15)) "pop" (p 16)) [] [] (p 17))) (p 18)]/\((p 1).endLine==(p 2).line)=true/\((p 16).endLine==(p 17).line)=true:=⟨pF 209,nF 209,by kernel_rfl!,by kernel_rfl!,by kernel_rfl!⟩
theorem vU:∃p:Nat->Pos,MZ 186=.stmts [.Assign [.Attribute (.Name "self" (p 0)) "_initial_size" (p 1)] (.Name "initial_size" (p 2)) (p 3),.Expr (.Call (.Attribute (.Call (.Name "super" (p 4)) [] [] (p 5)) "__init__" (p 6)) [] [] (p 7)) (p 8)]/\((p 6).endLine==(p 7).line)=true:=⟨pF 186,by kernel_rfl!,by kernel_rfl!⟩
section
variable{c:Cx}{d:Nat}{fr:FD}{lo Bv BJ:Lo}{H H' EZ H1 H2 H3:List AO}
theorem qp(ho:s.heap.get? x=some o)(hd:o.data=.seq vs k)(q:∀t,Q (.done (.ret (.int vs.size t))) {s with toks:=s.toks+1}):
  Ae c.m A (Bk.«list.__len__» ⟨[.ref x],[]⟩) Q E s:=by
 obtain ⟨h,g,dd,t,os⟩:=s
 unfold Bk.«list.__len__»
 repeat wp_step
 rw[hd]
 refine An ?_
 unfold retInt
 repeat wp_step
 exact q _
theorem I4{α:Type}{f:FI->Ab α}{r:Ab α}(hf:FT a=some fi)(h:(FT a).bind f=r):f fi=r:=by rw[hf] at h;exact h
theorem QS(Fs:EA c)(Cl:Be c)(Su:JJ c){l dl wr:Nat}(e:H[l]?=some (.acc dl xs)):DR c (d+1) H wr (.val (.ref 246)) [.loc l] [] (.int xs.length) H:=by
 intro A π s E cf cargs Gr R hw G rf ra rk
 cases rf.val
 refine Bm λGG fin=>(GH qn).elim λfi q=>q.elim λb q=>vS.elim λp z=>fin ?_
 refine S4 Fs Su q.1 q.2.1 q.2.2 ⋯ (I4 q.1 (AaH _ _ _ _)) rfl R hw G ra λenv s₁ π₁ I hab P₁ F₁ L₁=>?_
 cases I3 q.1 q.2.1 z.1
 refine Bm λGG fin=>(HI P₁.g e).elim λvl y=>y.elim λkk y=>y.elim λsl y=>fin ?_
 refine Ih (RA (Ks Cl Su I F₁ P₁.g L₁ e ⋯ z.2 (Pw.len) λs₂ K₂=>qp (K₂.keep _ _ (λq=>q) (P₁.g.tabs.D5 y.1 nofun) y.1) rfl λt=>⟨_,rfl,π₁,P₁.trans (.pure P₁.g (K₂.trans .toks)),y.2.1.size▸.mkInt⟩))
end
end
section
open Builtin Builtin.ObjectAttr
section
variable{c:Cx}{d:Nat}{fr:FD}{lo Bv BJ:Lo}{H H' EZ H1 H2 H3:List AO}
theorem Bt.vV(ho:Bt c d fr lo H o ov H1)(hb:baseOk o=true)(hl:(ap.endLine==p.line)=true)(hg:GF c d H1 ov m k)(ha:IU c d fr lo H1 es vs H2)(hst:Ea es)
  (hkp:Eg c (.val (I0 k)))(hlen:es.length<=20)(hc:DR c d H2 fr.wr (.val (I0 k)) (ov::vs) [] r H3):Bt c d fr lo H (.Call (.Attribute o m ap) es [] p) r H3:=by
 intro A env π s E R F G L
 rw[RL,GD hb]
 refine Ac (ho.use R F G L λco s₁ π₁ P₁ F₁ L₁ r₁=>Ac (DN ?_))
 have em:(es.map λe=>(false,eval e env))=(es.map λe=>eval e env).map λt=>(false,t):=by rw[F6];rfl
 have hall:(Fi p (Fh [] env)).all (·.1.isSome)=true:=rfl
 have Px:Oe (es.length+([]:List EN).length) (J6 p (G4 es env)) (Fi p (Fh [] env))=true:=by
  rw[hst env p]
  unfold Oe
  rw[BV.mpr λx hx=>(CD.mp hx).elim λe q=>q.2▸rfl,show((Fi p (Fh [] env)).all λx=>x.1.isSome)=true from rfl,show(Fi p (Fh [] env)).isEmpty=true from rfl]
  simp;exact(pw [.l .p (.k 20)] (.t .p (.k 30)) [] [_]) hlen
 have Xu:J1 true o env ap p=R9 p:=by unfold J1;rw[hl];rfl
 unfold Mb
 rw[Px]
 refine Ac (BE (hg A π₁ s₁ E co _ _ R P₁.g r₁ (Ac (Ci Xu ?_))))
 rw[hst env p]
 refine IA (NQ.mpr ⟨any_false λx hx=>(CD.mp hx).elim λe q=>q.2▸rfl,rfl⟩) (λh x=>x) ?_
 rw[em]
 refine Dd hall ?_
 rw[<-em]
 refine AJ (ha A env π₁ s₁ E R F₁ P₁.g L₁) (λcvs s₂ h=>h.elim λπ₂ q₂=>JY ⟨hkp H2 π₂ s₂ _ q₂.1.g .FV,?_⟩) λ_ _ e=>e
 exact AJ (hc A π₂ s₂ E _ (co::cvs) [] R ((q₂.1.fr F₁).wr) q₂.1.g .FV (.cons (r₁.pg q₂.1 P₁.g) q₂.2) .nil) (λcv s₃ h=>h.imp λπ₃ q₃=>⟨(P₁.trans q₂.1).trans q₃.1,q₃.2⟩) λ_ _ e=>e
end
end
section
open Builtin Builtin.ObjectAttr
section
variable{c:Cx}{d:Nat}{fr:FD}{lo Bv BJ:Lo}{H H' EZ H1 H2 H3:List AO}
theorem Eg.fn(Fs:EA c)(hf:FT a=some fi):Eg c (.val (.ref a)):=λH π s cf G r=>by
 rcases r.val with ⟨⟩
 refine(Fs.fn a fi hf).elim λo q=>q.elim λfd q=>⟨.frame,.inl rfl,(D4 (c.DA G _ _ q.1)).andThen ?_⟩
 rw[q.2.1];exact .now
theorem fG{l dl:Nat}(e:H[l]?=some (.acc dl xs))(hs:Cw H dl "part_count" =true):OS ⟨H,b⟩ (.loc l) "part_count" =some .parts:=by
 show(H[l]?).bind (Qv ⟨H,b⟩ "part_count")=_
 rw[e]
 show Af (Cw H dl "part_count") (lk "part_count" Sz)=_
 rw[hs]
 kernel_rfl
theorem Pz(vs:AE Ad):(vs.eraseIdxIfInBounds (vs.size-1)).toList=vs.toList.dropLast:=by
 unfold AE.eraseIdxIfInBounds
 split
 ·rw[AE.toList_eraseIdx,<-Dt,List.eraseIdx_length_sub_one]
 ·have:vs = #[]:=VO (by lia)
  subst this;rfl
theorem qr(ho:s.heap.get? x=some o)(hd:o.data=.seq vs k)(hsz:vs.size<100000)(hv:vs[vs.size-1]?=some v)
  (q:Q (.done (.ret v)) {s with heap:=s.heap.update x (C6 (·.eraseIdxIfInBounds (vs.size-1)))}):
  Ae c.m A (Bk.«list.pop» ⟨[.ref x],[]⟩) Q E s:=by
 obtain ⟨h,g,dd,t,os⟩:=s
 have IZ:=(AE.getElem?_eq_some_iff.mp hv).1
 have hl:=yU rfl hsz
 unfold Bk.«list.pop»
 repeat wp_step
 rw[hd]
 refine An (An ?_)
 have qj:vs.isEmpty=false:=Ct λq=>by rw[q] at IZ;exact AL IZ (F8 _)
 have e:((Cp (-1) vs.size).bind λk=>Ab.map (λx=>(k,x)) vs[k]?)=some (vs.size-1,v):=by
  have h1:Cp (-1) vs.size=some (vs.size-1):=by
   unfold Cp
   simp
   exact(pw [.t (.S .p (.k 1)) .p] (.a (.a (.L (.j 0) (.A (.j (-1)) (.n .p))) (.T (.A (.j (-1)) (.n .p)) (.n .p))) (.e (.d (.A (.j (-1)) (.n .p))) (.S .p (.k 1)))) [] [_]) IZ
  rw[h1,Gy,hv];rfl
 simp -iota only[qj,Aa.false_eq_true,if_false]
 rw[e]
 exact Ac (EK ho hd (_hz':=by rw[<-Dt,Pz,List.length_dropLast,Dt];exact(pw [.t .p .q] (.l (.S .p (.k 1)) (.A .q (.k 1))) [] [_,_]) hl) (An q))
noncomputable def qt(xs:List AV):AV:=match xs.getLast? with | some v=>v | none=>.tup [.str "",.str ""]
def qv(H:List AO)(l dl:Nat)(xs:List AV):List AO:=match xs.getLast? with | some _=>H.set l (.acc dl xs.dropLast) | none=>H
theorem kr(Cl:Be c)(Su:JJ c){l dl wr:Nat}(e:H[l]?=some (.acc dl xs))(hsz:xs.length<=1000)(hx:xs.getLast?=some v)(hwl:wr<=l)(I:fE c fr lo l env)(F:Bu π H.length fr env)(G:Av c π H s)(L:Br c π H.length s.heap env.locals lo)(hline:(ap.endLine==pos.line)=true)
  (h:∀cv s',PG c wr none π H s (H.set l (.acc dl xs.dropLast)) π s'->As π H.length s'.heap v cv->Q cv s'):L8 c.m A (.func body env) (eval (.Call (.Attribute (.Call (.Name "super" p0) [] [] p1) "pop" ap) [] [] pos) env) Q E s:=
 Ks Cl Su I F G L e ⋯ hline (Pw.pop Cl Su) λs₃ K₃=>by
  have G₃:=G.DU K₃
  refine Bm λGG fin=>(HI G₃ e).elim λvl y=>y.elim λkk y=>y.elim λsl y=>(y.2.1.get (show xs[xs.length-1]?=some v by rw[<-List.getLast?_eq_getElem?] at ⊢;exact hx)).elim λcv z=>fin ?_
  have hsv:=y.2.1.size
  refine qr y.1 rfl (hsv.symm▸CE hsz ⋯) (by rw[<-Q1,hsv] at ⊢;exact z.1) ⟨_,rfl,?_⟩
  have P:=CY (o:=.acc dl xs.dropLast) (f:=C6 (·.eraseIdxIfInBounds (vl.size-1))) G₃ (G₃.lt e) hwl y.1 CZ CZ rfl s₃.toks (λh' S e'=>⟨_,_,sl,e',y.2.2.1,by
   rw[Pz,bW,bW,y.2.1.length]
   exact(y.2.1.step S).take _⟩)
  exact h _ _ ((PG.pure G K₃).trans P.1) (z.2.step P.2)
theorem ku(Fs:EA c)(Cl:Be c)(Su:JJ c){l dl wr:Nat}(e:H[l]?=some (.acc dl xs))(hs:Cw H dl "part_count" =true)(hsz:xs.length<=1000)(hwl:xs.getLast?=none\/wr<=l):
  DR c (d+2) H wr (.val (.ref 209)) [.loc l] [] (qt xs) (qv H l dl xs):=by
 intro A π s E cf cargs Gr R hw G rf ra rk
 rcases rf.val with ⟨⟩
 refine Bm λGG fin=>(GH vR).elim λfi q=>q.elim λb q=>(GH qn).elim λfi2 q2=>q2.elim λ_ q2=>vT.elim λp z=>z.elim λn z=>fin ?_
 refine S4 Fs Su q.1 q.2.1 q.2.2 ⋯ (I4 q.1 (AaI _ _ _ _)) rfl R hw G ra λenv s₁ π₁ I hab P₁ F₁ L₁=>?_
 rcases I3 q.1 q.2.1 z.1 with ⟨⟩
 have qw:Bt c (d+1) (Au fi H.length wr) [("self",.loc l)] H (.Name "self" (p 0)) (.loc l) H:=IX (S:=⟨H,true⟩) _ (by
  show(CX (Au fi H.length wr) "self").bind _=_
  rw[show CX (Au fi H.length wr) "self" =some .local from(D9 ..).trans q.2.2.ka];rfl)
 have em:=
  Bt.vV qw rfl z.2.1 (UE Cl _ (fG (b:=true) e hs)) .nil (λ_ _=>rfl) (Eg.fn Fs q2.1) ⋯ (QS Fs Cl Su e)
 have test:Jw c (d+1) (Au fi H.length wr) [("self",.loc l)] H (.Compare (.Call (.Attribute (.Name "self" (p 0)) "part_count" (p 1)) [] [] (p 2)) [.Eq] [.Constant (.int 0) (n 3) (p 4)] (p 5)) (decide ((xs.length:Int)=0)) H:=
  Jw.cmp em (GC _ rfl) (YJ (S:=⟨H,true⟩) _ rfl) rfl
 have R':A5 (d+1) (A.deeper env):=A5.deeper R
 have L₁':=L₁
 delta qt qv
 revert test
 cases hx:xs.getLast? with
 |none=>
  rw[List.getLast?_eq_none_iff.mp hx] at ⊢
  intro test
  have et:Bt c (d+1) (Au fi H.length wr) [("self",.loc l)] H (.Tuple [.Constant (.str "") (n 6) (p 7),.Constant (.str "") (n 8) (p 9)] (n 10) (p 11)) (.tup [.str "",.str ""]) H:=
   Bt.tuple (.cons (GC _ rfl) (.cons (GC _ rfl) .nil)) (λ_ _=>rfl) ⋯
  refine Ih (JB ((Fb.ite test (Km.stop rfl (Fb.ret et))).Ng R' F₁ P₁.g L₁' λcf s₂ π₂ P₂ F₂ L₂ r₂=>?_))
  exact AH r₂ λcv r=>r.1▸⟨π₂,PG.Uj P₁ hab (P₂.Kl (Y6 hw).1),r.2⟩
 |some v=>
  rw[Ct λw=>by rw[List.eq_nil_of_length_eq_zero (LA.inj w)] at hx;cases hx]
  intro test
  refine Ih (JB ((Fb.ite test Km.nil).Ng R' F₁ P₁.g L₁' λcf s₂ π₂ P₂ F₂ L₂ r₂=>?_))
  subst r₂
  have kx:=PG.Uj P₁ hab (P₂.Kl (Y6 hw).1)
  exact Ih (RA (kr Cl Su e hsz hx (hwl.resolve_left (by rw[hx];nofun)) I F₂ P₂.g L₂ z.2.2 λcv s' P r=>⟨π₂,kx.trans P,F4.symm▸r⟩))
end
end
section
open Builtin Builtin.ObjectAttr
noncomputable def PB(K:AI):Aa:=match K.lookup 249 with
 |some ⟨_,_,.cls cd,sl⟩ => !cd.hasDel&&((sl.toList[4]?).join==some (.builtin "list.__new__")&&(cd.mro==[.ref 249,.type "list",.type "object"]&&(OB K (.ref 249) "__call__" ==some (some (.builtin "type.__call__"))&&(instIn K (.ref 249) (.type "type")==some true&&
   (A7 K (.ref 249) "__init__" ==some (some (.ref 186))&&EV K (.ref 186)==some (.type "function"))))))
 |_=>false
structure Xv(M:Model)(K:AI)(h:Ay):Prop where
 obj:∃oc od cd sl,h.get? 249=some ⟨oc,od,.cls cd,sl⟩/\cd.hasDel=false/\cd.mro=[.ref 249,.type "list",.type "object"]
 made:AR M h (Bind.madeBy (.ref 249)) (some "list.__new__")
 base:AR M h (Bind.staticBase (.ref 249)) (.ref 249)
 call:AR M h (Im (.ref 249) "__call__") (some (.builtin "type.__call__"))
 typ:AR M h (Ik (.ref 249) (.type "type")) true
 sub:∀t,AR M h (J4 (.ref 249) t) (([.ref 249,.type "list",.type "object"]:List Ad).contains t)
 init:AR M h (typeLookup (.ref 249) "__init__") (some (.ref 186))
 bind:∀self,AR M h (bindSpecial (.ref 186) self) (.ref 186,[self])
set_option tactic.hygienic true in
theorem QT{K:AI}(X:K.In h)(e:PB K=true):Xv M K h:=by
 unfold PB at e
 split at e
 ·rename_i oc od cd sl ho
  simp only[HQ,VT,beq_iff_eq] at e
  obtain ⟨e1,e2,e3,e4,e5,e6,e7⟩:=e
  have hc:W.clsIn K 249=some cd:=by unfold W.clsIn;rw[ho]
  have hm:AR M h (mroOf (.ref 249)) cd.mro:=(Oz X hc).andThen .now
  have made:AR M h (Bind.madeBy (.ref 249)) (some "list.__new__"):=by
   intro A Q E s k q
   refine Ac (hm A _ E s k ?_)
   rw[e3,FO]
   refine Ac (Ac (Ac (Ac (RI (k _ _ (X _ _ ho)) (An ?_)))))
   rw[<-Q1,e2] at ⊢
   exact An (An (An q))
  refine⟨⟨oc,od,cd,sl,X _ _ ho,e1,e3⟩,made,?_,looks_specialIn X e4,looks_instIn X e5,λt=>Iz X ?_,Dr X e6,λself=>bind_fn X self e7⟩
  ·intro A Q E s k q
   refine Ac (hm A _ E s k ?_)
   rw[e3,FO]
   exact Ac (Ac (Ac (made A _ E s k (An (An (An q))))))
  ·unfold IB;rw[hc,Gy,AD (by rw[e3];decide),e3]
 ·rcases e with ⟨⟩
noncomputable abbrev I5(dx:Ah):Obj:={cls:=.ref 249,dict:=some dx,data:=.seq #[]}
theorem ky:Dp "list.__new__" =some .builtinFn:=⋯
theorem fH:G8 "list.__new__" =some ("list","__new__"):=⋯
section
variable{prog:Dq}{w:DG}{A:AG}{K:AI}{R:Result->Aj->Prop}{h:Ay}{g:AE Md}{d:Drawn}{t:Nat}{os:G6}
theorem vW(Y:Xv (AW prog w) K h)
  (hq:R (.ok (.ret (.ref (h.objs.size+1)))) ⟨(h.push Cs).push (I5 h.objs.size),g,d,t,os⟩):
  EO (AW prog w) A (.call (.builtin "list.__new__") ⟨[.ref 249,v],[]⟩) R ⟨h,g,d,t,os⟩:=by
 obtain ⟨⟨oc,od,cd,sl,hC,e2,e3⟩,made,base,call,typ,sub,_,_⟩:=Y
 have s1:AR (AW prog w) h (J4 (.ref 249) (.type "list")) true:=sub _
 refine RG ?_
 have check:∀{A':AG}{E':EP}{Q':Ce->Aj->Prop},Q' () ⟨h,g,d,t,os⟩->Ae (AW prog w) A' (Ob "list.__new__" ⟨[.ref 249,v],[]⟩) Q' E' ⟨h,g,d,t,os⟩:=by
  intro A' E' Q' q
  rw[Ob,ky,fH]
  repeat (first | lk | rw[AD BI])
  exact q
 refine Ac (check (An ⟨Gc df _,codeAny_builtin_stack PySem.F.entry_list_new rfl λp st=>?_⟩))
 rw[Kc df _]
 have hown:=owner_list_new
 simp only[hown]
 repeat (first | lk | rw[AD BI])
 refine Oj (B6 _ (B6 _ hC)) ?_
 dsimp only
 rw[e2]
 refine An (An (An ?_))
 rw[Mh]
 exact hq
theorem qx(Y:Xv (AW prog w) K h)
  (hq:Ae (AW prog w) (A.under (.builtin "type.__call__" ⟨[.ref 249,v],[]⟩)) (RT (.ref 186) [.ref (h.objs.size+1),v]) (λr s'=>r=.none/\R (.ok (.ret (.ref (h.objs.size+1)))) s') (λe s'=>R (.error e) s') ⟨(h.push Cs).push (I5 h.objs.size),g,d,t,os⟩):
  EO (AW prog w) A (.call (.ref 249) ⟨[v],[]⟩) R ⟨h,g,d,t,os⟩:=by
 have Y':=Y
 obtain ⟨⟨oc,od,cd,sl,hC,e2,e3⟩,made,base,call,typ,sub,init,bind⟩:=Y
 refine RG ?_
 refine nd_load hC ?_
 show Ae _ _ (dA (.ref 249) _) _ _ _
 refine Ac (call.at ?_)
 dsimp only
 rw[tc_bind]
 refine Ac (An (Ac (An ?_)))
 refine An (Fl rfl ?_)
 refine cL (du _ ⋯) entry_typeCall (Mi tc_kind tc_split typ (tc_args _ _ _) ?_)
 have hm:AR (AW prog w) h (mroOf (.ref 249)) cd.mro:=((D4 hC).andThen .now).andThen .now
 have e4:cd.mro.isEmpty=false:=by rw[e3];rfl
 repeat (first | rw[AD BI] | rw[AD (show ¬cd.mro.isEmpty=true from e4▸BI)] | with_reducible refine DE ?_ | lk)
 refine vW Y' ?_
 have k:∀b o,h.get? b=some o->((h.push Cs).push (I5 h.objs.size)).get? b=some o:=λb o e=>B6 _ (B6 _ e)
 have hx:((h.push Cs).push (I5 h.objs.size)).get? (h.objs.size+1)=some (I5 h.objs.size):=by heap_get
 have t1:AR (AW prog w) ((h.push Cs).push (I5 h.objs.size)) (CR (.ref (h.objs.size+1))) (.ref 249):=(D4 hx).andThen .now
 have s1:=(sub (.ref 249)).keeps k
 have i1:=init.keeps k
 have b1:=(bind (.ref (h.objs.size+1))).keeps k
 repeat ((fail_if_success (with_reducible show Ae _ _ (RT _ _ _) _ _ _));lk)
 refine AJ hq (λr s' ⟨e,q⟩=>?_) λ_ _ x=>x
 subst e
 exact An (An q)
end
end
section
open Builtin Builtin.ObjectAttr
theorem A5.make(R:A5 (d+1) A)(C:Ah)(rest:List Ad):A5 d (A.under (.builtin "type.__call__" ⟨.ref C::rest,[]⟩)):=
 ⟨R.handled,by have:=R.depth;exact(pw [.t (.A .p (.A .q (.k 1))) (.k 900)] (.t (.A (.A .p (.k 1)) .q) (.k 900)) [] [_,_]) this,by have:=R.units;exact(pw [.t (.A (.A .p (.m 20 (.A .q (.k 1)))) (.k 40)) (.k 9900)] (.t (.A (.A (.A .p (.k 1)) (.m 20 .q)) (.k 40)) (.k 9900)) [] [_,_]) this,R.frames⟩
theorem kz(h:Ay):(h.push Cs).Ns1 h.objs.size (λ_=>none):=
 ⟨_,_,_,Bp _ rfl,rfl,by simp[StrKeys],by simp[UniqKeys],λname=>by simp[ES,findBy]⟩
section
variable{c:Cx}{d:Nat}{fr:FD}{lo Bv BJ:Lo}{H H' EZ H1 H2 H3:List AO}
theorem qy(H:List AO)(a b c' e:AO):((H++[a,b]).set H.length c').set (H.length+1) e=H++[c',e]:=by
 induction H with
 |nil=>rfl
 |cons x H ih=>exact Ai (x :: ·) ih
theorem Y8(H:List AO)(a b:AO):(H++[a,b])[H.length]?=some a/\(H++[a,b])[H.length+1]?=some b/\(H++[a,b]).length=H.length+2:=by
 induction H with
 |nil=>exact⟨rfl,rfl,rfl⟩
 |cons x H ih=>exact⟨ih.1,ih.2.1,Ai Gb ih.2.2⟩
theorem As.Y9(hl:l<n):As π n h (.loc l) (.ref (π.at' l)):=⟨hl,rfl⟩
theorem Xx(ho:s.heap.get? x=some o)(hd:o.data=.seq #[] k)
  (q:Q (.done (.ret .none)) {s with heap:=s.heap.update x (C6 λ_ => #[])}):
  Ae c.m A (Bk.«list.__init__» ⟨[.ref x],[]⟩) Q E s:=by
 obtain ⟨h,g,dd,t,os⟩:=s
 unfold Bk.«list.__init__»
 repeat wp_step
 rw[hd]
 refine An (An ?_)
 refine Ac (EK ho hd (_hz':=by simp) ?_)
 exact Ac (An (An q))
theorem PG.Za(G:Av c π H s)(hw:wr<=H.length)(hf:o2.isFreed=false)(hok:Jh o2)
  (hor:∀(h':Ay)(π':Pl),h'.get? (s.heap.objs.size+1)=some o2->π'.at' H.length=s.heap.objs.size->IT π' (H.length+2) h' ao (s.heap.objs.size+1)):
  ∃π',PG c wr none π H s (H++[.dict [],ao]) π' {s with heap:=(s.heap.push Cs).push o2}/\π'.at' (H.length+1)=s.heap.objs.size+1:=by
 have hsz1:(s.heap.push Cs).objs.size=s.heap.objs.size+1:=Mh ..
 have hl1:∀o:AO,(H++[o]).length=H.length+1:=λo=>BO
 have g1:(s.heap.push Cs).get? s.heap.objs.size=some Cs:=Bp _ rfl
 have P1:=PG.add (o:=.dict []) G hw (Kp.BS Cs) (Bx _ (AP _)) ⟨_,_,kz _,λx hx=>AL rfl hx,g1,λx=>rfl⟩ ⟨_,g1,.data (λ_ q=>nomatch q)⟩
 have g2:((s.heap.push Cs).push o2).get? (s.heap.push Cs).objs.size=some o2:=Bp _ hf
 have P2:=PG.add (wr:=wr) P1.g (hl1 _▸JU hw) (Kp.BS o2) (Bx _ (AP _)) (by
  have h4:=hor ((s.heap.push Cs).push o2) (ext (ext π H.length s.heap.objs.size) (H++[AO.dict []]).length (s.heap.push Cs).objs.size) (hsz1▸g2) ((Ep (hl1 _▸CF _)).trans D8)
  rw[<-hsz1] at h4
  rw[hl1] at h4 ⊢
  exact h4) ⟨_,g2,hok⟩
 have h5:=P1.trans P2
 rw[FL] at h5
 exact⟨_,h5,by rw[<-hl1 (.dict [])];exact D8.trans hsz1⟩
theorem kA(Fs:EA c)(Cl:Be c)(Su:JJ c)(hmk:PB c.K=true):DR c (d+2) H wr (.val (.ref 249)) [v] [] (.loc (H.length+1)) (H++[.dict [("_initial_size",v)],.acc H.length []]):=by
 intro A π s E cf cargs Gr R hw G rf ra rk
 rcases rf.val with ⟨⟩
 refine Bm λGG fin=>AH ra λcv ra=>ra.elim λws ra=>(GH AaJ).elim λfi q=>q.elim λb q=>vU.elim λp z=>(PG.Za (ao:=.acc H.length []) (o2:=I5 s.heap.objs.size) G hw rfl CZ λh' π' hg hat=>⟨#[],_,_,by rw[hg,hat],Wf ⋯,.nil⟩).elim λπ' P=>fin ?_
 rw[ra.1,ra.2.2]
 refine DE ?_
 obtain ⟨hp0,g,dd,t,os⟩:=s
 refine qx (QT (c.DA G) hmk) ?_
 have hat:=P.2
 have P:=P.1
 have hT:=Y8 H (.dict []) (.acc H.length [])
 have hS:=qy H (.dict []) (.acc H.length []) (.dict [("_initial_size",v)]) (.acc H.length [])
 revert hat P hT hS
 generalize H++[.dict [],.acc H.length []]=H2
 generalize (⟨(hp0.push Cs).push (I5 hp0.objs.size),g,dd,t,os⟩ :Aj)=s₀
 intro hat P hT hS
 have IZ:H.length+1<H2.length:=hT.2.2▸CF _
 have ra':Ag π' H2.length s₀.heap [.loc (H.length+1),v] [.ref (hp0.objs.size+1),cv]:=.cons ⟨IZ,Ai Bq hat.symm⟩ (.cons (ra.2.1.pg P G) .nil)
 have hw2:=AA hw P.le
 refine S4 Fs Su q.1 q.2.1 q.2.2 ⋯ (I4 q.1 (qo _ _ _ _ _)) rfl (R.make 249 [cv]) hw2 P.g ra' λenv s₁ π₁ I hab P₁ F₁ L₁=>?_
 rcases I3 q.1 q.2.1 z.1 with ⟨⟩
 have nm:∀{x:Str}{a:AV}{p:Pos},(W4 x=false)->CX (Au fi H2.length wr) x=some .local->lk x [("self",AV.loc (H.length+1)),("initial_size",v)]=some a->Bt c d (Au fi H2.length wr) [("self",.loc (H.length+1)),("initial_size",v)] H2 (.Name x p) a H2:=λh1 h2 he=>
  IX (S:=⟨H2,true⟩) _ (by unfold nameA;rw[h1,h2];exact he)
 have kI:CX (Au fi H2.length wr) "initial_size" =some .local:=I4 (f:=λfi=>CX (Au fi H2.length wr) "initial_size") q.1 (by kernel_rfl!)
 have hwS:(Au fi H2.length wr).wr<=H.length:=by
  show cond fi.Ss wr _<=_
  rw[show fi.Ss=true from AQ (I4 (f:=λfi=>some fi.Ss) q.1 (by kernel_rfl!))]
  exact hw
 have AaK:j9 c d (Au fi H2.length wr).wr H2 (.loc (H.length+1)) "_initial_size" v (H2.set H.length (.dict [("_initial_size",v)])):=Xp Cl.a (λy hy=>LB _ hy) rfl (nS · _) (.head _) (.inr ⟨rfl,_,hT.2.1⟩) hT.1 hwS
 have est:=Fb.Y1 (p:=p 1) (p2:=p 3) (nm (p:=p 2) rfl kI rfl) (nm (p:=p 0) (x:="self") rfl ((D9 ..).trans q.2.2.ka) rfl) AaK
 refine Ih (JB (est.Ng ((R.make 249 [cv]).deeper) F₁ P₁.g L₁ λcf s₂ π₂ P₂ F₂ L₂ r₂=>?_))
 subst r₂
 have kx:=PG.Uj P₁ hab (P₂.Kl (Y6 hw2).1)
 have fI:(H2.set H.length (.dict [("_initial_size",v)]))[H.length+1]?=some (.acc H.length []):=(Rb (EI (CF _))).trans hT.2.1
 refine Bm λGG fin=>(HI P₂.g fI).elim λvl y=>y.elim λkk y=>y.elim λsl y=>fin ?_
 clear fin GG
 obtain rfl:vl = #[]:=VO y.2.1.size
 have hint:interactive env=false:=by unfold interactive;rw[F₂.scope,F₂.kind];rfl
 refine Ih (ks_wpAt_Expr_any (Ks Cl Su I F₂ P₂.g L₂ fI ⋯ z.2 (Pw.init (c:=c)) λs₃ K₃=>?_) hint)
 have qz:=kx.DU K₃
 refine Xx (K₃.keep _ _ (λq=>q) (P₂.g.tabs.D5 y.1 nofun) y.1) rfl ⟨_,rfl,?_⟩
 have P4:=Fo (CY (wr:=wr) (o:=.acc H.length []) (f:=C6 λ_ => #[]) qz.g (qz.g.lt fI) (JU hw) (K₃.keep _ _ (λq=>q) (P₂.g.tabs.D5 y.1 nofun) y.1) CZ CZ rfl s₃.toks (λh' S e'=>⟨_,_,sl,e',y.2.2.1,.nil⟩))
 refine JB (WC ⟨rfl,π₂,hS▸(P.trans qz).trans P4,?_⟩)
 rw[<-(kx.agree (H.length+1) IZ).trans hat,<-hS]
 exact As.Y9 (by rw[F4,F4];exact IZ)
end
end
section
open Builtin Builtin.ObjectAttr
section
variable{prog:Dq}{w:DG}{A:AG}{K:AI}{C:Ah}{R:Result->Aj->Prop}{h:Ay}{g:AE Md}{d:Drawn}{t:Nat}{os:G6}
theorem qA(Y:Makes (AW prog w) h C)(hi:AR (AW prog w) h (typeLookup (.ref C) "__init__") (some init))
  (hb:∀self,AR (AW prog w) h (bindSpecial init self) (init,[self]))(hne:(some init !=some (R7 "object.__init__"))=true\/(rest=[]/\([]:List (Str×Ad))=[]))
  (hq:Ae (AW prog w) (A.under (.builtin "type.__call__" ⟨.ref C::rest,[]⟩)) (RT init (.ref (h.objs.size+1)::rest)) (λr s'=>r=.none/\R (.ok (.ret (.ref (h.objs.size+1)))) s') (λe s'=>R (.error e) s') ⟨(h.push Cs).push (Mj C h.objs.size),g,d,t,os⟩):
  EO (AW prog w) A (.call (.ref C) ⟨rest,[]⟩) R ⟨h,g,d,t,os⟩:=by
 have Y':=Y
 obtain ⟨⟨oc,od,cd,sl,hC,e1,e2,e4⟩,made,base,self,top,call,typ⟩:=Y
 refine RG ?_
 refine nd_load hC ?_
 show Ae _ _ (dA (.ref C) _) _ _ _
 refine Ac (call.at ?_)
 dsimp only
 rw[tc_bind]
 refine Ac (An (Ac (An ?_)))
 refine An (Fl rfl ?_)
 refine cL (du _ ⋯) entry_typeCall (Mi tc_kind tc_split typ (tc_args _ _ _) ?_)
 have hm:AR (AW prog w) h (mroOf (.ref C)) cd.mro:=((D4 hC).andThen .now).andThen .now
 repeat (first | rw[AD BI] | rw[AD (show ¬cd.mro.isEmpty=true from e4▸BI)] | with_reducible refine DE ?_ | lk)
 refine new_K Y' hi hne ?_
 have k:∀b o,h.get? b=some o->((h.push Cs).push (Mj C h.objs.size)).get? b=some o:=λb o e=>B6 _ (B6 _ e)
 have hx:((h.push Cs).push (Mj C h.objs.size)).get? (h.objs.size+1)=some (Mj C h.objs.size):=by heap_get
 have t1:AR (AW prog w) ((h.push Cs).push (Mj C h.objs.size)) (CR (.ref (h.objs.size+1))) (.ref C):=(D4 hx).andThen .now
 have s1:=self.keeps k
 have i1:=hi.keeps k
 have b1:=(hb (.ref (h.objs.size+1))).keeps k
 repeat ((fail_if_success (with_reducible show Ae _ _ (RT _ _ _) _ _ _));lk)
 refine AJ hq (λr s' ⟨e,q⟩=>?_) λ_ _ x=>x
 subst e
 exact An (An q)
end
section
variable{c:Cx}{d:Nat}{fr:FD}{lo Bv BJ:Lo}{H H' EZ H1 H2 H3:List AO}
theorem aO(Fs:EA c)(hmk:makesIn c.K 165=true)(hin:A7 c.K (.ref 165) "__init__" =some (some (.ref 106)))(hty:EV c.K (.ref 106)=some (.type "function"))(Sd:Bl c d r):Ok (dX r wr as S) (nC c (d+2) wr S (.val (.ref 165)) as []):=
 Ok.self.bind λfi hf=>(SU Fs Sd hf).bind λx i=>.guard λhn=>.some λo=>⟨(i o).1,λA π s E cf cargs Gr R hw G rf ra rk=>by
  cases rf.val
  have run:=(i o).2
  rw[Qz hn] at run
  revert run
  have hT:=Y8 S.H (.dict []) (.inst 165 S.H.length)
  refine(PG.Za (ao:=.inst 165 S.H.length) (o2:=Mj 165 s.heap.objs.size) G hw rfl (.data (λ_ q=>nomatch q)) λh' π' hg hat=>⟨_,by rw[hg,hat],Wf ⋯⟩).elim λπ' P=>?_
  have hat:=P.2
  have P:=P.1
  revert hat P hT
  generalize S.H++[.dict [],.inst 165 S.H.length]=H2
  intro hT hat P run
  have IZ:S.H.length+1<H2.length:=hT.2.2▸CF _
  refine DE ?_
  obtain ⟨hp0,g,dd,t,os⟩:=s
  refine qA (makes_of (c.DA G) hmk) (Dr (c.DA G) hin) (λself=>bind_fn (c.DA G) self hty) (.inl rfl) ?_
  refine AJ (run _ π' _ _ (.ref 106) (.ref (hp0.objs.size+1)::cargs) [] (R.make 165 cargs) (AA hw P.le) P.g .FV (.cons ⟨IZ,Ai Bq hat.symm⟩ (ra.pg P G)) .nil) (λcv s' q=>q.elim λπ₂ q=>?_) λ_ _ x=>x
  refine⟨q.2,π₂,P.trans q.1,?_⟩
  rw[<-(q.1.agree (S.H.length+1) IZ).trans hat]
  exact As.Y9 (BW IZ q.1.le)⟩
end
end
section
open Builtin Builtin.ObjectAttr
section
variable{α:Type}(gt:α->α->Aa)
noncomputable def Eb(l:List α)(a:α):α:=l.foldl (λm x=>if gt x m then x else m) a
def Mz(l:List α)(i j:Nat):Aa:=Bz l[i]? λx=>Bz l[j]? λy=>gt x y
theorem S5(a:α)(as:List α):∀k,k<=as.length->(a::as)[ER (Mz gt (a::as)) k]?=some (Eb gt (as.take k) a):=by
 intro k
 induction k with
 |zero=>exact λ_=>rfl
 |succ k ih=>
  intro hk
  have i1:=ih (Wi hk)
  have e2:=HU hk
  have e4:Mz gt (a::as) (k+1) (ER (Mz gt (a::as)) k)=gt as[k] (Eb gt (as.take k) a):=by
   show Bz as[k]? (λx=>Bz (a::as)[ER (Mz gt (a::as)) k]? λy=>gt x y)=_
   rw[e2,i1];rfl
  rw[bQ hk,show Eb gt (as.take k++[as[k]]) a=if gt as[k] (Eb gt (as.take k) a) then as[k] else Eb gt (as.take k) a from List.foldl_append ..]
  show(a::as)[if Mz gt (a::as) (k+1) (ER (Mz gt (a::as)) k)=true then k+1 else ER (Mz gt (a::as)) k]?=_
  rw[e4]
  induction gt as[k] (Eb gt (as.take k) a) using Ei with
  |true=>exact e2
  |false=>exact i1
theorem UJ(a:α)(as:List α):(a::as)[ER (Mz gt (a::as)) ((a::as).length-1)]?=some (Eb gt as a):=by
 have:=S5 gt a as as.length (AP _)
 rw[Wa] at this
 exact this
end
theorem Zb:∀(l:List Int)(m:Int),pj l m=Eb (λx m=>decide (m<x)) l m
 |[],_=>rfl
 |x::l,m=>(Zb l _).trans (Ai (Eb _ l) (by simp only[Gl]))
theorem Zc:∀(l:List Int)(m:Int),pk l m=Eb (λx m=>decide (x<m)) l m
 |[],_=>rfl
 |x::l,m=>(Zc l _).trans (Ai (Eb _ l) (by simp only[Gl]))
theorem Zd:∀(l:List Al)(m:Al),pn l m=Eb (λx m=>Em x m==some .gt) l m
 |[],_=>rfl
 |x::l,m=>Zd l _
theorem Ze:∀(l:List Al)(m:Al),pq l m=Eb (λx m=>Em x m==some .lt) l m
 |[],_=>rfl
 |x::l,m=>Ze l _
end
section
open Builtin Builtin.ObjectAttr
section
variable{prog:Dq}{w:DG}{A:AG}{E:EP}{s:Aj}
theorem args_max3(a b c:Ad):C5 "max" ⟨[a,b,c],[]⟩:=by unfold C5;kernel_rfl
theorem args_min3(a b c:Ad):C5 "min" ⟨[a,b,c],[]⟩:=by unfold C5;kernel_rfl
theorem call_max_three
  (h:Ae (AW prog w) A.in1 (Fj (.ref s.heap.objs.size)) (λit s₂=>∃I fp wr n P St bt,it=.ref I/\Walks prog w A.in1 I fp wr n P St/\St 0 s₂.heap/\(∀b∈fp,b<s₂.heap.objs.size)/\0<n/\Ha prog w A.in1 .Gt P bt/\
   ∀v h' tk,P (ER bt (n-1)) v->(∀b o,b∉wr->s₂.heap.get? b=some o->h'.get? b=some o)->Q v {s₂ with heap:=h',toks:=tk}) E
   {s with heap:=s.heap.push {cls:=.type "tuple",data:=.seq #[a,b,c]}}):
  Ae (AW prog w) A (call (.builtin "max") [a,b,c]) Q E s:=by
 have fJ:(toString "max" ++toString ".loop" :A3)="max.loop" :=⋯
 refine Ww PySem.F.kind_max PySem.F.plain_max PySem.F.entry_max (args_max3 _ _ _) ?_
 refine Ac (Ci (rfl) ?_)
 refine Ac (Ew ?_)
 refine Ac (AJ h (λit s₂ h₂=>?_) λ_ _ e=>e)
 obtain ⟨I,fp,wr,n,P,St,bt,rfl,W,hst,hfp,hn,hcmp,hQ⟩:=h₂
 refine Ac (Ew ?_)
 have hSf:=λhm=>F9 _ (hfp _ hm)
 rw[fJ]
 refine An ⟨Gc PySem.F.plain_max_loop _,codeAny_max_loop_first W bt hcmp s₂.heap.objs.size hSf hn (W.frame _ _ _ hst λb _ o e=>B6 _ e) (Bp _ rfl) λv h' tk hP hk=>?_⟩
 exact hQ v h' tk hP λb o hbw e=>hk b o hbw (EI (Ex e)) (B6 _ e)
theorem call_min_three
  (h:Ae (AW prog w) A.in1 (Fj (.ref s.heap.objs.size)) (λit s₂=>∃I fp wr n P St bt,it=.ref I/\Walks prog w A.in1 I fp wr n P St/\St 0 s₂.heap/\(∀b∈fp,b<s₂.heap.objs.size)/\0<n/\Ha prog w A.in1 .Lt P bt/\
   ∀v h' tk,P (ER bt (n-1)) v->(∀b o,b∉wr->s₂.heap.get? b=some o->h'.get? b=some o)->Q v {s₂ with heap:=h',toks:=tk}) E
   {s with heap:=s.heap.push {cls:=.type "tuple",data:=.seq #[a,b,c]}}):
  Ae (AW prog w) A (call (.builtin "min") [a,b,c]) Q E s:=by
 have fJ:(toString "min" ++toString ".loop" :A3)="min.loop" :=⋯
 refine Ww PySem.F.kind_min PySem.F.plain_min PySem.F.entry_min (args_min3 _ _ _) ?_
 refine Ac (Ci (rfl) ?_)
 refine Ac (Ew ?_)
 refine Ac (AJ h (λit s₂ h₂=>?_) λ_ _ e=>e)
 obtain ⟨I,fp,wr,n,P,St,bt,rfl,W,hst,hfp,hn,hcmp,hQ⟩:=h₂
 refine Ac (Ew ?_)
 have hSf:=λhm=>F9 _ (hfp _ hm)
 rw[fJ]
 refine An ⟨Gc PySem.F.plain_min_loop _,codeAny_min_loop_first W bt hcmp s₂.heap.objs.size hSf hn (W.frame _ _ _ hst λb _ o e=>B6 _ e) (Bp _ rfl) λv h' tk hP hk=>?_⟩
 exact hQ v h' tk hP λb o hbw e=>hk b o hbw (EI (Ex e)) (B6 _ e)
def Eu(prog:Dq)(w:DG)(A:AG)(op:G9)(x:Ad)(s:Aj)(vs:AE Ad)(bt:Nat->Nat->Aa)(Q:EP)(E:EP):Prop:=
 Ae (AW prog w) A (Fj x) (λit s₂=>∃I fp wr n P St bt,it=.ref I/\Walks prog w A I fp wr n P St/\St 0 s₂.heap/\(∀b∈fp,b<s₂.heap.objs.size)/\0<n/\Ha prog w A op P bt/\
   ∀v h' tk,P (ER bt (n-1)) v->(∀b o,b∉wr->s₂.heap.get? b=some o->h'.get? b=some o)->Q v {s₂ with heap:=h',toks:=tk}) E s
theorem Eu.list(hh:A.handled=none)(hl:s.heap.IsList l vs)(hn: 0<vs.size)(hcmp:Ha prog w A op (λi v=>vs[i]?=some v) bt)
  (hQ:∀v h' tk,vs[ER bt (vs.size-1)]?=some v->(∀b o,s.heap.get? b=some o->h'.get? b=some o)->Q v {s with heap:=h',toks:=tk}):Eu prog w A op (.ref l) s vs bt Q E:=by
 have IZ:l<s.heap.objs.size:=by obtain ⟨_,e,_⟩:=hl;exact Ex e
 refine RC hl ?_
 refine⟨s.heap.objs.size,[s.heap.objs.size,l],[s.heap.objs.size],vs.size,_,_,bt,rfl,Walks.list hh _ l (EI IZ) vs,⟨⟨_,Bp _ rfl,rfl,rfl⟩,hl.push _⟩,λb hb=>?_,hn,hcmp,λv h' tk hP hk=>?_⟩
 ·show b<(s.heap.push _).objs.size
  rw[Mh]
  simp only[Bc,N1,OF] at hb
  rcases hb with rfl | rfl
  ·exact CF _
  ·exact N5 IZ
 ·exact hQ v h' tk hP λb o e=>hk b o (λhm=>by rw[CL.mp hm] at e;exact F9 _ (Ex e)) (B6 _ e)
theorem Eu.tup(hh:A.handled=none)(hn: 0<as.size)(hcmp:Ha prog w A op (λi v=>as[i]?=some v) bt)
  (hQ:∀v h' tk,as[ER bt (as.size-1)]?=some v->(∀b o,s.heap.get? b=some o->h'.get? b=some o)->Q v {s with heap:=h',toks:=tk}):
  Eu prog w A op (.ref s.heap.objs.size) {s with heap:=s.heap.push {cls:=.type "tuple",data:=.seq as}} as bt Q E:=by
 have hT:(s.heap.push {cls:=.type "tuple",data:=.seq as}).IsTuple s.heap.objs.size as:=⟨_,Bp _ rfl,rfl,0,rfl⟩
 have hsz:(s.heap.push {cls:=.type "tuple",data:=.seq as}).objs.size=s.heap.objs.size+1:=Mh ..
 refine wpAny_pyIter_tuple hT ?_
 refine⟨_,[_,s.heap.objs.size],[_],as.size,_,_,bt,rfl,Walks.tuple hh _ s.heap.objs.size (by rw[hsz];exact EI (CF _)) as,⟨⟨_,Bp _ rfl,rfl,rfl⟩,hT.push _⟩,λb hb=>?_,hn,hcmp,λv h' tk hP hk=>?_⟩
 ·show b<((s.heap.push _).push _).objs.size
  rw[Mh,hsz]
  rcases Bc.mp hb with rfl | hb
  ·show(s.heap.push _).objs.size<_
   rw[hsz];exact CF _
  ·rw[CL.mp hb];exact N5 (CF _)
 ·exact hQ v h' tk hP λb o e=>hk b o (λhm=>by
   have h1:=CL.mp hm
   have h2:=h1
   rw[hsz] at h2
   have h3:=Ex e
   rw[h2] at h3
   exact AL h3 (EJ.mpr (Dw _))) (B6 _ (B6 _ e))
end
end
section
open Builtin Builtin.ObjectAttr
section
noncomputable def qB:Aa->G9 | true=>.Gt | false=>.Lt
def gtI(mx:Aa)(x m:Int):Aa:=match mx with | true=>decide (m<x) | false=>decide (x<m)
noncomputable def gtF(mx:Aa)(x m:Al):Aa:=match mx with | true=>Em x m==some .gt | false=>Em x m==some .lt
abbrev Zf{α:Type}(K:α->Ad->Prop)(l:List α)(vs:AE Ad):Prop:=∀(i:Nat)(v:Ad),vs[i]?=some v->∃x,l[i]?=some x/\K x v
abbrev isI(x:Int)(v:Ad):Prop:=∃t,v=.int x t
abbrev isF(x:Al)(v:Ad):Prop:=∃t,v=.float x t
theorem Zg{x y:α}(e1:l[i]?=some x)(e2:l[j]?=some y):Mz gt l i j=gt x y:=by unfold Mz;rw[e1,e2];rfl
theorem qC(mx:Aa)(hv:Zf isI l vs):Ha prog w A (qB mx) (λi v=>vs[i]?=some v) (Mz (gtI mx) l):=by
 intro i j vi vj s Q E hi hj
 refine(hv i vi hi).elim λx q=>q.2.elim λt e=>(hv j vj hj).elim λy q'=>q'.2.elim λu e'=>?_
 rw[Zg q.1 q'.1,e,e']
 intro h
 rcases mx with ⟨⟩
 ·exact richCompare_gives (EL s _ t) (EL s _ u) PySem.F.slot_int_lt PySem.F.entry_int_lt (PySem.F.args_int_lt_2 _ _) (gives_int_lt _ _ t u) (λx=>nomatch x) h
 ·exact richCompare_gives (EL s _ t) (EL s _ u) PySem.F.slot_int_gt PySem.F.entry_int_gt (PySem.F.args_int_gt_2 _ _) (gives_int_gt _ _ t u) (λx=>nomatch x) h
theorem qD(mx:Aa)(hv:Zf isF l vs):Ha prog w A (qB mx) (λi v=>vs[i]?=some v) (Mz (gtF mx) l):=by
 intro i j vi vj s Q E hi hj
 refine(hv i vi hi).elim λx q=>q.2.elim λt e=>(hv j vj hj).elim λy q'=>q'.2.elim λu e'=>?_
 rw[Zg q.1 q'.1,e,e']
 intro h
 rcases mx with ⟨⟩
 ·exact cS h
 ·exact cT h
theorem Ag.qE{mk:α->AV}{K:α->Ad->Prop}(hK:∀x v,As π n h (mk x) v->K x v)(r:Ag π n h (l.map mk) vs.toList):Zf K l vs:=λi v hv=>by
 rw[<-Q1] at hv
 refine(r.get' hv).elim λx q=>?_
 have q1:=q.1
 rw[F3] at q1
 exact(Ab.map_eq_some_iff.mp q1).imp λy (z:l[i]?=some y/\mk y=x)=>⟨z.1,hK y v (z.2▸q.2)⟩
theorem I6{mk:α->AV}(hf:∀{v},Ok (f v) λx=>v=mk x):∀{xs:List AV},Ok (Gn f xs) λys=>xs=ys.map mk
 |[]=>.some rfl
 |x::xs=>hf.bind λb e=>(I6 hf).bind λbs q=>.some (e▸q▸rfl)
theorem QU:Ok (OL xs) λis=>xs=is.map .int:=I6 Bd
theorem aP:Ok (dO xs) λis=>xs=is.map .AS:=I6 IS
def nX(mx:Aa)(xs:List AV)(r:AV):Prop:=∀{π:Pl}{n:Nat}{hp:Ay}{vs:AE Ad},Ag π n hp xs vs.toList->∀{prog:Dq}{w:DG}{A:AG},
 0<vs.size/\∃bt,Ha prog w A (qB mx) (λi v=>vs[i]?=some v) bt/\∀v,vs[ER bt (vs.size-1)]?=some v->∀h',As π n h' r v
theorem bestOf{mk:α->AV}{K:α->Ad->Prop}(hK:∀{π n h x v},As π n h (mk x) v↔K x v)(hr:r=mk (Eb gt as a))
  (hc:∀{prog:Dq}{w:DG}{A:AG}{vs:AE Ad},Zf K (a::as) vs->Ha prog w A (qB mx) (λi v=>vs[i]?=some v) (Mz gt (a::as))):nX mx ((a::as).map mk) r:=λ{π n hp vs} rv {prog w A}=>by
 have hv:=Ag.qE (λx v=>hK.mp) rv
 have hsz:=rv.size.trans (AY ..)
 refine⟨hsz▸N7 _,_,hc hv,λv hk h'=>(hv _ v hk).elim λx q=>?_⟩
 have e:=q.1
 rw[hsz,UJ] at e
 rw[hr,AQ e]
 exact hK.mpr q.2
theorem PC{mx:Aa}{xs:List AV}:Ok (YE mx xs) (nX mx xs):=by
 induction xs using B9 with
 |nil=>exact .none
 |cons x t=>
  induction x using AV.casesOn with
  |int i=>exact QU.bind λis e=>.some (e▸bestOf Iff.rfl (by rcases mx with ⟨⟩;exact Ai AV.int (Zc ..);exact Ai AV.int (Zb ..)) (qC mx))
  |AS i=>exact aP.bind λis e=>.some (e▸bestOf Iff.rfl (by rcases mx with ⟨⟩;exact Ai AV.AS (Ze ..);exact Ai AV.AS (Zd ..)) (qD mx))
  |_=>exact .none
end
end
section
open Builtin Builtin.ObjectAttr
section
variable{c:Cx}{d:Nat}{fr:FD}{lo Bv BJ:Lo}{H H' EZ H1 H2 H3:List AO}
noncomputable def S6(mx:Aa):A3:=match mx with | true=>"max" | false=>"min"
theorem vX(h:Eu c.prog c.w A.in1 (qB mx) x s vs bt Q E):Ae c.m A (call (.builtin (S6 mx)) [x]) Q E s:=by
 rcases mx with ⟨⟩
 ·exact call_min_walk h
 ·exact call_max_walk h
theorem vY(h:Eu c.prog c.w A.in1 (qB mx) (.ref s.heap.objs.size) {s with heap:=s.heap.push {cls:=.type "tuple",data:=.seq #[a,b]}} #[a,b] bt Q E):Ae c.m A (call (.builtin (S6 mx)) [a,b]) Q E s:=by
 rcases mx with ⟨⟩
 ·exact call_min_two h
 ·exact call_max_two h
theorem vZ(h:Eu c.prog c.w A.in1 (qB mx) (.ref s.heap.objs.size) {s with heap:=s.heap.push {cls:=.type "tuple",data:=.seq #[a,b,e]}} #[a,b,e] bt Q E):Ae c.m A (call (.builtin (S6 mx)) [a,b,e]) Q E s:=by
 rcases mx with ⟨⟩
 ·exact call_min_three h
 ·exact call_max_three h
def aQ(c:Cx)(d:Nat)(wr:Nat)(S:St)(id:A3)(as:List AV)(x:Rt AV):Prop:=AX S x.S (Cj c d S.H wr id as x.v x.S.H)
theorem UK:Ok (dQ mx as S) (aQ c d wr S (S6 mx) as):=by
 have up:∀{s:Aj}{h':Ay}{tk:Nat},(∀b o,s.heap.get? b=some o->h'.get? b=some o)->Kp no s {s with heap:=h',toks:=tk}:=λup=>.of_keeps up
 match as with
 |[]=>exact .none
 |[a]=>exact Bs.bind λxs hl=>PC.bind λv hi=>.some (AX.mk (.one λA π s E ca R _ G ra=>(hl π s G ca ra).elim λb q=>q.elim λvs q=>(hi q.2.2).2.elim λbt z=>
   q.1▸vX (Eu.list R.handled q.2.1 (hi q.2.2 (prog:=c.prog) (w:=c.w) (A:=A.in1)).1 z.1 λv h' tk hk hu=>⟨π,.pure G (up hu),z.2 v hk _⟩)))
 |[a,b]=>exact PC.bind λv hi=>.some (AX.mk (.two λA π s E ca cb R _ G ra rb=>(hi (.cons ra (.cons rb .nil))).2.elim λbt z=>
   vY (Eu.tup R.handled (N7 _) z.1 λv h' tk hk hu=>⟨π,.pure G (up hu),z.2 v hk _⟩)))
 |[a,b,e]=>exact .guard λ_=>PC.bind λv hi=>.some (AX.mk (.three λA π s E ca cb ce R _ G ra rb re=>(hi (.cons ra (.cons rb (.cons re .nil)))).2.elim λbt z=>
   vZ (Eu.tup R.handled (N7 _) z.1 λv h' tk hk hu=>⟨π,.pure G (up hu),z.2 v hk _⟩)))
 |a::b::e::x::t=>exact .none
theorem n63{n:Nat}(h:(n:Int)<2^60):(n:Int)<2^63:=V4 h ⋯
theorem Cj.qF(hn:(x.length:Int)<2^60):Cj c d H wr "len" [.str x] (.int x.length) H:=.one λA π s E ca R _ G ra=>ra.str.elim λt e=>by
 subst e
 exact P.len_str (Fe.mpr (n63 hn)) ⟨π,.pure G .toks,.mkInt⟩
theorem Cj.qG(hn:(xs.length:Int)<2^60):Cj c d H wr "len" [.tup xs] (.int xs.length) H:=.one λA π s E ca R _ G ra=>ra.tup.elim λa q=>q.elim λvs q=>by
 rw[q.1]
 exact PyProof.Rows.len_tuple q.2.1 (q.2.2.2.size.symm▸n63 hn) ⟨π,.pure G .toks,q.2.2.2.size▸.mkInt⟩
theorem Cj.Zh(ha:Jx c H a xs)(hn:(xs.length:Int)<2^60):Cj c d H wr "len" [a] (.int xs.length) H:=.one λA π s E ca R _ G ra=>(ha π s G ca ra).elim λb q=>q.elim λvs q=>by
 rw[q.1]
 exact Calls.call_len_list q.2.1 (q.2.2.size.symm▸n63 hn) ⟨π,.pure G .toks,q.2.2.size▸.mkInt⟩
theorem UL(l:List Int):preSum (λi=>l.getD i 0) l.length=l.foldl (· + ·) 0:=by
 rw[preSum_getD,Wa,List.sum_eq_foldl]
theorem kB:Ok (uu as S) (aQ c d wr S "sum" as):=BD.bind λa e=>Bs.bind λxs ha=>QU.bind λis hi=>.some (e▸AX.mk (.one λA π s E ca R _ G ra=>(ha π s G ca ra).elim λb q=>q.elim λvs q=>by
 subst hi
 rw[q.1]
 have IZ:=q.2.1.elim λ_ e=>Ex e.1
 have hs:=q.2.2.size.trans (AY ..)
 have hv:=Ag.qE (mk:=.int) (λx v r=>r) q.2.2
 refine call_sum_walkAnyS (RC q.2.1 ?_)
 refine⟨s.heap.objs.size,[s.heap.objs.size,b],[s.heap.objs.size],_,vs.size,_,_,(λi=>is.getD i 0),rfl,(Walks.list (A:=A.in1) R.handled _ b (EI IZ) vs).toS,⟨⟨_,Bp _ rfl,rfl,rfl⟩,q.2.1.push _⟩,λy hy=>?_,λi v hP=>(hv i v hP).elim λx z=>z.2.imp λt z2=>?_,λs' t' hm=>?_⟩
 ·show y<(s.heap.push _).objs.size
  rw[Mh]
  exact(Bc.mp hy).elim (λe=>e▸CF _) λhy=>CL.mp hy▸N5 IZ
 ·rw[z2];show _=Kb (is.getD i 0) t;rw[HG,z.1] at ⊢;rfl
 ·rw[hs,UL]
  have K:Kp no s s':=.of_keeps (λy o e=>hm.heap y o (λkC=>by rw[CL.mp kC] at e;exact F9 _ (Ex e)) (B6 _ e)) hm.os hm.gens
  exact⟨π,.pure G K,.mkInt⟩))
theorem kD:Ok (uw as S) (aQ c d wr S "abs" as):=BD.bind λa e=>Bd.bind λi hi=>.some (e▸hi▸AX.mk (.one λA π s E ca R _ G ra=>ra.int.elim λt e=>e▸call_abs_int λu tk=>⟨π,.pure G .toks,.mkInt⟩))
theorem aR:Ok (dT as S) (aQ c d wr S "round" as):=BD.bind λa e=>IS.bind λi hi=>.some (e▸hi▸AX.need λh=>.one λA π s E ca R _ G ra=>ra.AS.elim λt e=>by
 subst e
 exact PySem.Flt.call_round_float R.handled (λq=>nomatch (PySem.Flt.not_nan_of_finite h).symm.trans q) (λq=>nomatch (PySem.Flt.not_inf_of_finite h).symm.trans q) λ_=>⟨π,.pure G .toks,.mkInt⟩)
theorem S7(G:Av c π H s)(K:Kp no s s')(hx:s'.heap.get? x=some {cls:=.type "range",data:=.fields #[.int a tx,.int b ty,.int k tz]})(hf:s.heap.get? x=none):
  FU c wr π H s (.Gw a b k) H (.ref x) s':=⟨π,.pure G K,x,rfl,⟨tx,ty,tz,hx⟩,G.fresh hf⟩
def wa(c:Cx)(d:Nat)(H:List AO)(wr:Nat)(id:A3)(as:List AV)(r:AV)(H':List AO):Prop:=
 ∀(A:AG)(π:Pl)(s:Aj)(E:EP)(cargs:List Ad),A5 d A->wr<=H.length->Av c π H s->Ag π H.length s.heap as cargs->Ae c.m A (call (.type id) cargs) (FU c wr π H s r H') E s
theorem wa.NA{id:A3}(h:wa c d H wr id as r H'):DR c d H wr (.val (.type id)) as [] r H':=λA π s E cf cargs Gr R hw G rf ra rk=>by
 rcases rf.val with ⟨⟩
 exact h A π s E cargs R hw G ra
def qH(c:Cx)(d:Nat)(wr:Nat)(S:St)(id:A3)(as:List AV)(x:Rt AV):Prop:=AX S x.S (wa c d S.H wr id as x.v x.S.H)
theorem aS:Ok (dU as S) (qH c d wr S "range" as):=by
 induction as using B9 with
 |nil=>exact .none
 |cons a t=>
  exact Bd.bind λx hx=>by
         subst hx
         induction t using B9 with
         |nil=>
          exact .some (AX.mk λA π s E cargs R hw G ra=>AH ra λv ra=>ra.elim λws ra=>by
               rw[ra.1,ra.2.2]
               refine ra.2.1.int.elim λt e=>e▸callType_new R3 ⋯ (PySem.F.typeCall_range_1 _) (PySem.F.newCall_range_1 _) (λobj=>PySem.F.initArgs_range_1 obj _) c9 (AutoRange.range___new___type_int_0 x t R3.sub) ⟨⟨_,Bp _ rfl,rfl⟩,?_⟩
               exact S7 G (.push _) (Bp _ rfl) (Bx _ (AP _)))
         |cons b t=>
          exact Bd.bind λy hy=>by
                 subst hy
                 induction t using B9 with
                 |nil=>
                  exact .some (AX.mk λA π s E cargs R hw G ra=>AH ra λv ra=>ra.elim λws ra=>AH ra.2.2 λw rb=>rb.elim λus rb=>by
                       rw[ra.1,rb.1,rb.2.2]
                       refine ra.2.1.int.elim λt e=>rb.2.1.int.elim λu e'=>e▸e'▸callType_new R3 ⋯ (PySem.F.typeCall_range_2 _ _) (PySem.F.newCall_range_2 _ _) (λobj=>PySem.F.initArgs_range_2 obj _ _) c9 (AutoRange.range___new___type_int_int_0 x y t u R3.sub) ⟨⟨_,Bp _ rfl,rfl⟩,?_⟩
                       exact S7 G (.push _) (Bp _ rfl) (Bx _ (AP _)))
                 |cons z t=>
                  exact Bd.bind λk hz=>.guard λh=>by
                         subst hz
                         have hk:=Bi (Am h)
                         rw[Bj (Ax h)]
                         exact .some (AX.mk λA π s E cargs R hw G ra=>AH ra λv ra=>ra.elim λws ra=>AH ra.2.2 λw rb=>rb.elim λus rb=>AH rb.2.2 λw rc=>rc.elim λts rc=>by
                          rw[ra.1,rb.1,rc.1,rc.2.2]
                          exact ra.2.1.int.elim λt e=>rb.2.1.int.elim λu e'=>rc.2.1.int.elim λv uc=>e▸e'▸uc▸call_range_3 hk.1 (S7 G (.push _) (Bp _ rfl) (Bx _ (AP _))) (.inl (PyProof.noPylong_small hk.2)))
end
end
section
open Builtin Builtin.ObjectAttr
noncomputable def Cf(z:Int)(val:Nat->Int):Nat->Int
 |0=>z
 |j+1=>Cf z val j+val j
section
variable{prog:Dq}{w:DG}{A:AG}{R:Result->Aj->Prop}{I:Ah}{fp wr:List Ah}{G:AE Md->AE Md->Prop}{n:Nat}{P:Nat->Ad->Prop}{St:Nat->Aj->Prop}
theorem GI(W:WalksS prog w A.in1 I fp wr G n P St)(z:Int)(val:Nat->Int)(hval:∀i v,P i v->∃t,v=.int (val i) t)(S:Ah)(hSf:S∉fp):
  ∀(k i:Nat)(s:Aj)(tA:Tok)(c:Nat)(st:Int),(st=0\/st=2)->n-i=k->i<=n->St i s->s.heap.get? S=some {cls:=.type "list",dict:=none,data:=.seq #[.int (Cf z val i) tA] c,slots := #[]}->
  (∀s' t',Moved (S::wr) G s s'->R (.ok (.ret (.int (Cf z val n) t'))) s')->EO (AW prog w) A (.builtin "sum.loop" ⟨[.ref I,.ref S,D1 st,D1 0],[]⟩) R s:=by
 have hSw:=λh=>hSf (W.sub _ h)
 have kE:∀b∈wr,b∈S::wr:=λb hb=>Ee _ hb
 intro k
 induction k with
 |zero=>
  intro i s tA c st wc hk hi hst hS hR
  have hin:i=n:=(pw [.e (.S .p .q) (.k 0),.l .q .p] (.e .q .p) [] [_,_]) hk hi
  subst hin
  refine LW dc ?_
  rw[Kc J8 _]
  refine Ac (FQ hS rfl ?_)
  refine Ac (WE (W.done s _ _ hst λs' hm=>?_))
  exact An (hR s' tA (hm.mono kE))
 |succ k ih=>
  intro i s tA c st wc hk hi hst hS hR
  have IZ:i<n:=(pw [.e (.S .p .q) (.A .r (.k 1))] (.t .q .p) [] [_,_,_]) hk
  refine LW dc ?_
  rw[Kc J8 _]
  refine Ac (FQ hS rfl ?_)
  refine Ac (WE (W.item i s _ _ IZ hst λv s' hP qI hm=>?_))
  obtain ⟨t,rfl⟩:=hval i v hP
  have jc:=hm.heap S _ hSw hS
  rcases wc with rfl | rfl
  ·show Ae _ A.in1 (if (_:Aa)=true then (mkInt (Cf z val i+val i)>>=_) else _) _ _ _
   split
   ·refine Ac (wpAny_mkInt ?_)
    refine Ac ?_
    refine EK jc rfl (An ⟨Gc J8 _,ih (i+1) _ s'.toks _ 0 (.inl rfl) ((pw [.e (.S .p .q) (.A .r (.k 1))] (.e (.S .p (.A .q (.k 1))) .r) [] [_,_,_]) hk) IZ (W.frame _ s' _ _ qI (by first | exact AP _ | exact Dw _ | lia) λb hb o e=>?_) (KC _ jc rfl) λHM we fK=>?_⟩)
    ·exact(JC _ _ (λh:S=b=>hSf (by rw[h];exact hb))).trans e
    ·refine hR HM we (WU W.gtrans ((hm.mono kE).then_heap (by first | exact AP _ | exact Dw _ | lia) λb o hb e=>?_) fK)
     exact(JC _ _ (λh:S=b=>hb (by rw[h];exact CT))).trans e
   ·refine Ac (Gd ?_)
    refine Ac (GZ (BE (WG ?_)))
    refine Ac (EK jc rfl ?_)
    have wj:=KC (C6 λ_ => #[Kb (Cf z val i+val i) s'.toks]) jc rfl
    refine Ac (L6 ?_)
    refine Ac (EK wj rfl (An ⟨Gc J8 _,ih (i+1) _ s'.toks _ 2 (.inr rfl) ((pw [.e (.S .p .q) (.A .r (.k 1))] (.e (.S .p (.A .q (.k 1))) .r) [] [_,_,_]) hk) IZ (W.frame _ s' _ _ qI (by first | exact AP _ | exact Dw _ | lia) λb hb o e=>?_) (KC _ wj rfl) λHM we fK=>?_⟩))
    ·exact(JC _ _ (λh:S=b=>hSf (by rw[h];exact hb))).trans ((JC _ _ (λh:S=b=>hSf (by rw[h];exact hb))).trans e)
    ·refine hR HM we (WU W.gtrans ((hm.mono kE).then_heap (by first | exact AP _ | exact Dw _ | lia) λb o hb e=>?_) fK)
     exact(JC _ _ (λh:S=b=>hb (by rw[h];exact CT))).trans ((JC _ _ (λh:S=b=>hb (by rw[h];exact CT))).trans e)
  ·show Ae _ A.in1 ((holding [Kb (val i) t] (binaryOp .Add (.int (Cf z val i) tA) (.int (val i) t))).attempt>>=_) _ _ _
   refine Ac (GZ (BE (WG ?_)))
   refine Ac (EK jc rfl ?_)
   have wj:=KC (C6 λ_ => #[Kb (Cf z val i+val i) s'.toks]) jc rfl
   refine Ac (L6 ?_)
   refine Ac (EK wj rfl (An ⟨Gc J8 _,ih (i+1) _ s'.toks _ 2 (.inr rfl) ((pw [.e (.S .p .q) (.A .r (.k 1))] (.e (.S .p (.A .q (.k 1))) .r) [] [_,_,_]) hk) IZ (W.frame _ s' _ _ qI (by first | exact AP _ | exact Dw _ | lia) λb hb o e=>?_) (KC _ wj rfl) λHM we fK=>?_⟩))
   ·exact(JC _ _ (λh:S=b=>hSf (by rw[h];exact hb))).trans ((JC _ _ (λh:S=b=>hSf (by rw[h];exact hb))).trans e)
   ·refine hR HM we (WU W.gtrans ((hm.mono kE).then_heap (by first | exact AP _ | exact Dw _ | lia) λb o hb e=>?_) fK)
    exact(JC _ _ (λh:S=b=>hb (by rw[h];exact CT))).trans ((JC _ _ (λh:S=b=>hb (by rw[h];exact CT))).trans e)
end
section
variable{prog:Dq}{w:DG}{A:AG}{E:EP}{s:Aj}
theorem aT(a b:Ad):C5 "sum" ⟨[a,b],[]⟩:=by unfold C5;kernel_rfl
theorem forC{M:Model}{A:AG}{α:Type}{a:α}{as:List α}{f:α->EX->Sem (En EX)}{Q:EX->Aj->Prop}(h:Ae M A (f a ⟨⟩) (λr s'=>r=.yield ⟨⟩/\Ae M A (forIn as ⟨⟩ f) Q E s') E s):Ae M A (forIn (a::as) ⟨⟩ f) Q E s:=by
 rw[FO]
 exact Ac (AJ h (λr s' q=>q.1▸q.2) λ_ _ e=>e)
theorem Qj
  (h:Ae (AW prog w) A.in1 (Fj x) (λit s₂=>∃I fp wr G n P St val,it=.ref I/\WalksS prog w A.in1 I fp wr G n P St/\St 0 s₂/\(∀b∈fp,b<s₂.heap.objs.size)/\
   (∀i v,P i v->∃t,v=.int (val i) t)/\
   ∀s' t',Moved wr G s₂ s'->Q (.int (Cf z val n) t') s') E s):
  Ae (AW prog w) A (call (.builtin "sum") [x,.int z zt]) Q E s:=by
 refine Ww PySem.F.kind_sum PySem.F.plain_sum PySem.F.entry_sum (aT _ _) ?_
 unfold Bk.«sum»
 simp -iota only[JQ,Ri]
 rw[AD ⋯]
 refine Ac (Ci (rfl) ?_)
 refine Ac (AJ h (λit s₂ h₂=>?_) λ_ _ e=>e)
 obtain ⟨I,fp,wr,G,n,P,St,val,rfl,W,hst,hfp,hval,hQ⟩:=h₂
 dsimp only
 split
 ·refine Ac (Gd (Ac (wpAny_mkInt (Ac (An ?_)))))
  refine Ac (forC (Ac (Ii (EL _ _ _) cQ ?_)))
  refine An ⟨rfl,forC (Ac (Ii (EL _ _ _) cO ?_))⟩
  refine An ⟨rfl,forC (Ac (Ii (EL _ _ _) cN ?_))⟩
  refine An ⟨rfl,An ?_⟩
  refine Ac (Ew ?_)
  have hSf:=λhm=>F9 _ (hfp _ hm)
  refine An ⟨Gc J8 _,GI W z val hval s₂.heap.objs.size hSf n 0 _ _ 0 _ (.inl rfl) rfl (Co _)
   (W.frame 0 s₂ _ _ hst (Dw _) λb _ o e=>B6 _ e) (Bp _ rfl) λs' t' hm=>?_⟩
  exact hQ s' t' (hm.drop_new (Dw _))
 ·refine Ac (An ?_)
  refine Ac (forC (Ac (Ii (EL _ _ _) cQ ?_)))
  refine An ⟨rfl,forC (Ac (Ii (EL _ _ _) cO ?_))⟩
  refine An ⟨rfl,forC (Ac (Ii (EL _ _ _) cN ?_))⟩
  refine An ⟨rfl,An ?_⟩
  refine Ac (Ew ?_)
  have hSf:=λhm=>F9 _ (hfp _ hm)
  refine An ⟨Gc J8 _,GI W z val hval s₂.heap.objs.size hSf n 0 _ _ 0 _ (.inr rfl) rfl (Co _)
   (W.frame 0 s₂ _ _ hst (AP _) λb _ o e=>B6 _ e) (Bp _ rfl) λs' t' hm=>?_⟩
  exact hQ s' t' (hm.drop_new (AP _))
end
end
section
open Builtin Builtin.ObjectAttr
section
variable{c:Cx}{d:Nat}{fr:FD}{lo Bv BJ:Lo}{H H' EZ H1 H2 H3:List AO}
theorem kF:Dp "list.__iter__" =some .slot\/Dp "list.__iter__" =some .method:=⋯
theorem fL:G8 "list.__iter__" =some ("list","__iter__"):=⋯
theorem kH(Cl:Be c)(X:c.K.In s.heap)(T:AR c.m s.heap (CR (.ref x)) (.ref 249))
  (q:Q (.ref s.heap.objs.size) {s with heap:=s.heap.push {cls:=.type "list_iterator",data:=.fields #[.ref x,.int 0 0]}}):Ae c.m A (Fj (.ref x)) Q E s:=by
 have S:AR c.m s.heap (Im (.ref x) "__iter__") (some (.builtin "list.__iter__")):=T.andThen (Dr X Cl.iter)
 refine Ac (S.here ?_)
 refine Ac (BE (Ac (Ac (S.here ?_))))
 refine Ac (wpAny_askSetting (wpAny_ite ?_))
 have fin:∀{refuse:Sem Ad}{Q':Ab Ad->Aj->Prop},Q' (some (.ref s.heap.objs.size)) {s with heap:=s.heap.push {cls:=.type "list_iterator",data:=.fields #[.ref x,.int 0 0]}}->
   Ae c.m A (if (R7 "list.__iter__" ==D2)=true then (refuse>>=λv=>pure (some v)) else (call (.builtin "list.__iter__") [.ref x]>>=λv=>pure (some v))) Q' E s:=by
  intro refuse Q' q'
  refine Ac (SV kF fL slot_list_iter.plain entry_list_iter (args_list_iter _) (Xm Cl X T _ ⋯) ?_)
  show Ae _ _ (do ret (<-newFields "list_iterator" [.ref x,D1 0])) _ _ s
  exact Ac (Ew (An ⟨_,rfl,An q'⟩))
 have nxt:Ae c.m A (Im (.ref s.heap.objs.size) "__next__") (λr s'=>r.isSome=true/\s'={s with heap:=s.heap.push {cls:=.type "list_iterator",data:=.fields #[.ref x,.int 0 0]}}) E {s with heap:=s.heap.push {cls:=.type "list_iterator",data:=.fields #[.ref x,.int 0 0]}}:=
  J0 ⟨_,Bp _ rfl,rfl⟩ JZ.lookup ⟨rfl,rfl⟩
 split
 ·refine Ac (An (An (fin ?_)))
  exact Ac (J0 ⟨_,Bp _ rfl,rfl⟩ JZ.lookup (An q))
 ·refine WE (Ac (An (An (fin ?_))))
  exact Ac (J0 ⟨_,Bp _ rfl,rfl⟩ JZ.lookup (An q))
theorem UM(hit:s.heap.IsListIter it l i)(hol:s.heap.get? l=some ol)(hdl:ol.data=.seq items nl)(hx:items[i]?=some x)
  (hQ:∀h',h'.IsListIter it l (i+1)->Hb it s.heap h'->Q (some x) {s with heap:=h'}):Ae c.m A (pyNext (.ref it)) Q E s:=by
 obtain ⟨o,ho,hc,hd⟩:=id hit
 refine Ac (GZ (Oa hit.typeIs JZ
  (GY JZ hit.typeIs entry_listiter_next ?_ (args_listiter_next _))))
 show Ae _ _ (field (.ref it) 0>>=_) _ _ s
 refine Ac (D0 ho hd rfl ?_)
 show Ae _ _ (if (Bq l==D2)=true then _ else _) _ _ s
 rw[AD (show ¬ ((Bq l==D2)=true) from BI)]
 refine Ac (D0 ho hd rfl ?_)
 refine Ac (FQ hol hdl ?_)
 simp only[NV,hx]
 refine Ac (RJ ho hd (by simp) (An ⟨x,rfl,An (hQ _ ?_ (Mm ..))⟩))
 exact⟨_,KC _ ho (dm (R4 hd _)),(Obj.cls_mapFields ..).trans hc,by
  rw[R4 hd];simp[D1]⟩
theorem Xy(hh:A.handled=none)(hit:s.heap.IsListIter it l i)(hol:s.heap.get? l=some ol)(hdl:ol.data=.seq items nl)(hx:items[i]?=none)
  (hQ:∀h',Hc it s.heap h'->Q none {s with heap:=h'}):Ae c.m A (pyNext (.ref it)) Q E s:=by
 obtain ⟨o,ho,hc,hd⟩:=id hit
 refine Ac (GZ (Oa hit.typeIs JZ
  (GY JZ hit.typeIs entry_listiter_next ?_ (args_listiter_next _))))
 show Ae _ _ (field (.ref it) 0>>=_) _ _ s
 refine Ac (D0 ho hd rfl ?_)
 show Ae _ _ (if (Bq l==D2)=true then _ else _) _ _ s
 rw[AD (show ¬ ((Bq l==D2)=true) from BI)]
 refine Ac (D0 ho hd rfl ?_)
 refine Ac (FQ hol hdl ?_)
 simp only[NV,hx]
 refine Ac (Gd (Ac (RJ ho hd (by simp) ?_)))
 refine Ac ?_
 refine Ac (Ew ?_ (by size_fits))
 refine Ac (Ci (by first | rfl | (simp only[firstArgMember];rfl)) ?_)
 refine Ew ?_ (by size_fits)
 refine Ac (wpAny_handled ?_)
 rw[hh]
 refine Ac (An (wpAny_throw ?_))
 refine Ac (Ii ⟨_,Bp _ rfl,rfl⟩ isSubtype_stop ?_)
 exact An (hQ _ (((Mm ..).extBut.push _).push _))
theorem kJ(hh:A.handled=none)(I ax:Ah)(hne:ax≠I)(ol:Obj)(items:AE Ad)(nl:Nat)(hdl:ol.data=.seq items nl)(Ts:Nat->Ah)(vals:Nat->AE Ad)
  (hit:∀j,j<items.size->items[j]?=some (.ref (Ts j)))(hTI:∀j,j<items.size->Ts j≠I):
  WalksU c.prog c.w A I (I::ax::(Cn items.size).map Ts) [I] items.size (λj v=>j<items.size/\v=vals j)
   (λj h=>h.IsListIter I ax j/\h.get? ax=some ol/\∀k,k<items.size->h.IsTuple (Ts k) (vals k))
   (λj T h=>(j<items.size/\T=Ts j)/\h.IsListIter I ax (j+1)/\h.get? ax=some ol/\∀k,k<items.size->h.IsTuple (Ts k) (vals k)) where
 sub:=λb hb=>by simp at hb;simp[hb]
 frame:=λ_ _ _ st hk=>⟨st.1.at λo e=>hk I (by simp) o e,hk ax (by simp) _ st.2.1,
  λk wk=>(st.2.2 k wk).at λo e=>hk (Ts k) (Ee _ (Ee _ (CD.mpr ⟨k,Ff.mpr wk,rfl⟩))) o e⟩
 item:=λi s Q E hi st hQ=>by
  refine UM st.1 st.2.1 hdl (hit i hi) λh' AaN nQ=>?_
  have tup:=λk wk=>(st.2.2 k wk).extBut nQ.extBut (hTI k wk)
  exact hQ (Ts i) (vals i) h' s.toks ⟨hi,rfl⟩ (tup i hi) ⟨⟨hi,rfl⟩,AaN,nQ.extBut _ _ hne st.2.1,tup⟩ λb o hb e=>nQ.extBut b o (λh=>hb (by simp[h])) e
 go:=λ_ _ _ _ _ s Q _ hm hQ=>wpAny_letOwnedTupleGo_listiter hm.2.1 (hQ s.heap hm.2 λ_ _ _ e=>e)
 apart:=λj T _ hm kC=>by
  rcases Bc.mp kC with e | e
  ·exact hTI j hm.1.1 (hm.1.2▸e)
  ·cases e
 done:=λs Q E st hQ=>Xy hh st.1 st.2.1 hdl (by simp) λh' he'=>hQ h' s.toks λb o hb e=>he' b o (λh=>hb (by simp[h])) e
 self:=λ_ _ _ _ st hQ=>Ws st.1 hQ
end
end
section
open Builtin Builtin.ObjectAttr
section
variable{c:Cx}{d:Nat}{fr:FD}{lo Bv BJ:Lo}{H H' EZ H1 H2 H3:List AO}
theorem kK(F:Bu π H.length fr env)(G:Av c π H s)(hT:(c0,P,qual)∈TL)(hcode:fr.code=.ref c0){Q:Ad->Ah->Aj->Prop}
  (k:∀cv h' tk,Kp no s {s with heap:=h',toks:=tk}->(∀b o,b≠P->s.heap.get? b=some o->h'.get? b=some o)->Q cv C4 {s with heap:=h',toks:=tk}):
  Ae c.m A (genexprCode env pos qual sc) (λcv s₃=>Ae c.m A (builtinsFor env.globals env.builtins) (λbi s₄=>Q cv bi s₄) E s₃) E s:=by
 have hec:=(F.code (by rw[hcode];nofun)).trans hcode
 have T:=G.tabs _ hT
 refine Bm λGG fin=>T.2.elim λps y=>c.names.elim λmg x=>x.elim λmb x=>x.elim λbm x=>x.elim λob x=>fin ?_
 have bf:∀{h':Ay}{tk:Nat}{Q:Ah->Aj->Prop},Kp no s {s with heap:=h',toks:=tk}->Q C4 {s with heap:=h',toks:=tk}->Ae c.m A (builtinsFor env.globals env.builtins) Q E {s with heap:=h',toks:=tk}:=λK q=>by
  have G':=G.DU K
  rw[F.glob]
  exact wpAny_builtinsFor (Ns.up G' x.1) x.2.2.1 x.2.2.2.1 (G'.base.keep _ _ id (c.tabs.D5 x.2.2.2.2.1 (by rw[x.2.2.2.2.2.1];nofun)) x.2.2.2.2.1) x.2.2.2.2.2.1 x.2.2.2.2.2.2.1 x.2.2.2.2.2.2.2 q
 cases tO:Mc pos ps.toList with
 |some cv=>exact wpAny_genexprCode_hit hec (T.1.code y.1 y.2.1) tO (bf (.refl s) (k _ _ _ (.refl s) λb o _ e=>e))
 |none=>exact wpAny_genexprCodeX hec (T.1.code y.1 y.2.1) (T.1.tab y.1) tO λc' h' tk hx _ _ _ hrec htb hself=>
       have K:=Kp.grow hT y.1 hx htb.2 (UC hrec hself)
       bf K (k _ _ _ K hx)
end
end
section
open Builtin Builtin.ObjectAttr
theorem UN(n:Nat):passing (λ_=>true) n 0=Cn n:=by unfold passing;simp
noncomputable def Xz(vs:AE Ad)(j:Nat):Ah:=match vs[j]? with | some (.ref T)=>T | _=>0
def MA(h:Ay)(vs:AE Ad)(j:Nat):AE Ad:=match h.get? (Xz vs j) with | some o=>(match o.data with | .seq v _=>v | _ => #[]) | none => #[]
def wm(prog:Dq)(w:DG)(A:AG)(a:Ah)(pairs:List (Str×Str))(Fy:Str->Str->Ad->Prop)(s s₅:Aj):Prop:=
 ∃fp wr g St,WalksS prog w A.in4 a fp wr (GenOnlyQ g) pairs.length (λj y=>∃i,(Cn pairs.length)[j]?=some i/\∃p,pairs[i]?=some p/\Fy p.1 p.2 y) St/\St 0 s₅/\(∀i s,St i s->s.TypeIs (.ref a) "generator")/\a∈fp/\(∀b∈fp,b<s₅.heap.objs.size)/\(∀b∈wr,s.heap.get? b=none)/\∃h₄,TabsOk h₄/\(∀b o,h₄.get? b=some o->s₅.heap.get? b=some o)/\∀b∈wr,h₄.get? b=none\/∃o,h₄.get? b=some o/\Jh o
section
variable{c:Cx}{d:Nat}{fr:FD}{lo Bv BJ:Lo}{H H' EZ H1 H2 H3:List AO}
theorem wo{p:Str×Str}(r:As π n h (.tup [.str p.1,.str p.2]) v):∃T t u,v=.ref T/\h.IsTuple T #[EU p.1 t,EU p.2 u]:=
 r.tup.elim λT q=>q.elim λitems q=>AH q.2.2.2 λx a=>a.elim λw a=>AH a.2.2 λx' b=>b.elim λw' b=>a.2.1.str.elim λt e=>b.2.1.str.elim λu e'=>⟨T,t,u,q.1,by
  have h:items = #[EU p.1 t,EU p.2 u]:=NP.mp (a.1.trans (by rw[b.1,e,e',b.2.2]))
  exact h▸q.2.1⟩
structure qJ(h:Ay)(pairs:List (Str×Str))(vs:AE Ad)(j:Nat):Prop where
 val:vs[j]?=some (.ref (Xz vs j))
 tup:h.IsTuple (Xz vs j) (MA h vs j)
 QI:∃p t u,pairs[j]?=some p/\MA h vs j = #[EU p.1 t,EU p.2 u]
theorem pairAt(hv:Ag π n h (pairs.map λp=>.tup [.str p.1,.str p.2]) vs.toList)(j:Nat)(hj:j<vs.size):qJ h pairs vs j:=
 (Ag.qE (λ_ _=>wo) hv j vs[j] (VP hj)).elim λp q=>q.2.elim λT z=>z.elim λt z=>z.elim λu z=>by
  have ev:vs[j]?=some (.ref T):=by rw[VP hj,z.1] at ⊢
  have eT:Xz vs j=T:=by unfold Xz;rw[ev]
  have eV:MA h vs j = #[EU p.1 t,EU p.2 u]:=z.2.elim λo w=>w.2.2.elim λk hd=>by unfold MA;rw[eT,w.1];show(match o.data with | .seq v _=>v | _ => #[])=_;rw[hd]
  exact⟨eT▸ev,by rw[eT,eV];exact z.2,p,t,u,q.1,eV⟩
theorem qK(Cl:Be c){l dl:Nat}
  (R:A5 d A)(F:Bu π H.length fr env)(G:Av c π H s)(L:Br c π H.length s.heap env.locals lo)(hT:(c0,P,fr.qual++"<genexpr>")∈TL)(hcode:fr.code=.ref c0)(hx:fr.scope.names.lookup x=some .local)(hxd:(x==("__debug__" :Str))=false)(hlo:lo.lookup x=some (.loc l))
  (e:H[l]?=some (.acc dl (pairs.map λp=>.tup [.str p.1,.str p.2])))(hco:sc.isCoroutine=false)(hcl:Ma sc env=pure [])(hcell:∀y∈sc.names,y.2≠.cell)(h0:sc.names.lookup (".0" :Str)=some Sh)(hxa:sc.names.lookup xa=some .local)(hxb:sc.names.lookup xb=some .local)
  (hab:xa≠xb)(hkind:sc.kind=.function)
  (helt:∀(C:Ah)(cv:Ad)(A':AG)(E':EP)(a b:Str)(ta tb:Tok)(s₂:Aj) m₂,A'.handled=none->(a,b)∈pairs->s₂.heap.Ns C m₂->m₂ xa=some (.str a ta)->m₂ xb=some (.str b tb)->(∀(y:Str) v,Glob c.B.heap y v->Glob s₂.heap y v)->
   Ae c.m A' (eval elt (genEnv sc [] C cv C4 env)) (λy s₃=>Fy a b y/\Keeps s₂ s₃) E' s₂)
  (k:∀a s₅,Kp no s s₅->wm c.prog c.w A a pairs Fy s s₅->Q (.ref a) s₅):
  Ae c.m A (eval (.GeneratorExp elt [⟨.Tuple [.Name xa pa,.Name xb pb] kt pt,.Name x ip,[],0⟩] sc pos) env) Q E s:=by
 refine wpAny_GeneratorExp_walksQT R.handled hco hcl hcell h0 hxa hxb hab hkind R.rl ?_ λ_=>rfl
 refine Bm λGG fin=>(O5 L hlo).elim λm q=>q.elim λcv q=>(HI G e).elim λvl y=>y.elim λkk y=>y.elim λsl y=>fin ?_
 refine Jj F.kd (F.kindOf hx) q.1 q.2.1 hxd ?_
 rw[q.2.2.loc.2]
 have ho:=y.1
 refine kH Cl (c.DA G) y.2.2.2 ?_
 have K2:Kp no s {s with heap:=s.heap.push {cls:=.type "list_iterator",data:=.fields #[.ref (π.at' l),.int 0 0]}}:=.BS _
 have G₂:=G.DU K2
 refine⟨c.QD G₂,?_⟩
 rw[F.qual]
 refine kK F G₂ hT hcode λcd h' tk K3 up=>?_
 have PT:=TU _ hT
 have hI:(s.heap.push {cls:=.type "list_iterator",data:=.fields #[.ref (π.at' l),.int 0 0]}).get? s.heap.objs.size=some {cls:=.type "list_iterator",data:=.fields #[.ref (π.at' l),.int 0 0]}:=Bp _ rfl
 have yW:=up _ _ (λq:s.heap.objs.size=P=>G₂.tabs.D5 hI nofun (q▸PT)) hI
 have upP:=λb o hb e=>up b o hb (B6 _ e)
 have upN:=λb o e hc=>upP b o (λq=>G.tabs.D5 e hc (q▸PT)) e
 have hIne:∀{b o},s.heap.get? b=some o->b≠s.heap.objs.size:=λe=>EI (Ex e)
 have qk:=upN _ _ ho nofun
 have hpr:=pairAt y.2.1
 have yY:∀j,j<vl.size->h'.IsTuple (Xz vl j) (MA s.heap vl j):=λj hj=>(hpr j hj).tup.elim λo z=>⟨o,upN _ _ z.1 (by rw[z.2.1];nofun),z.2⟩
 have G₄:=G₂.DU K3
 have AaO:=c.QD G₄
 have hsz:=y.2.1.size.trans (AY ..)
 refine⟨s.heap.objs.size,_,_,vl.size,_,_,_,(λ_=>true),(λi y=>∃p,pairs[i]?=some p/\Fy p.1 p.2 y),rfl,
  λA' hA=>kJ hA s.heap.objs.size (π.at' l) (hIne ho) ⟨.ref 249,some (π.at' dl),.seq vl kk,sl⟩ vl kk rfl (Xz vl) (MA s.heap vl) (λj hj=>(hpr j hj).val) (λj hj=>(hpr j hj).tup.elim λo z=>hIne z.1),?_,?_,?_,AaO,?_,?_,?_⟩
 ·exact λi vals hi=>(hpr i hi.1).QI.elim λp z=>z.elim λt z=>z.elim λu z=>⟨_,_,hi.2.trans z.2⟩
 ·exact⟨⟨_,yW,rfl,rfl⟩,qk,yY⟩
 ·exact λb hb=>(Bc.mp hb).elim (λe=>by rw[e];exact Ex yW) λhb=>(Bc.mp hb).elim (λe=>by rw[e];exact Ex qk) λhb=>(CD.mp hb).elim λj z=>z.2▸(yY j (Ff.mp z.1)).elim λo w=>Ex w.1
 ·exact λhm=>AH (c.QD G) λmc hn=>F9 _ (CL.mp hm▸hn.1.lt)
 ·intro AeQ hup
  refine⟨λA' E' i va vb s₂ m₂ hA hP hn h1 h2 hold=>?_,λA' E' i va vb s₂ m₂ hA hP _ hn h1 h2 hold=>?_⟩
  ·rw[LL]
   exact An ⟨rfl,_,_,rfl,λb o e=>e⟩
  ·refine(hpr i hP.1).QI.elim λp z=>z.elim λt z=>z.elim λu z=>?_
   have kL:=Ai AE.toList (hP.2.trans z.2)
   obtain rfl:va=.str p.1 t:=(Gk kL).1
   obtain rfl:vb=.str p.2 u:=(Gk (Gk kL).2).1
   refine AJ (helt _ _ A' E' p.1 p.2 t u s₂ m₂ hA (bZ z.1) hn h1 h2 λy v g=>?_) (λy s₃ w=>⟨⟨p,z.1,w.1⟩,w.2⟩) λ_ _ x=>x
   have nsk:∀{a:Ah}{m},c.B.heap.Ns a m->s₂.heap.Ns a m:=λ{a m} hn=>(Ns.pK hn).elim λoa w=>by
    have q1:=G.base.keep _ oa id (c.tabs.Mq w.1 w.2) w.1
    have q2:=upP _ _ (λq:a=P=>G.tabs.Mq q1 w.2 (by rw[q];exact PT)) q1
    exact hn.at' λo' e'=>hold a (Ff.mpr (Ex q2)) (λhm=>hIne q1 (CL.mp hm)) _ (hup _ _ (AQ (w.1.symm.trans e')▸q2))
   exact g.imp λmg g=>g.imp λmb g=>⟨nsk g.1,nsk g.2.1,g.2.2⟩
 ·intro a h₅ tk₅ gs wq IZ AaP wt W5 GA
  have K5:Kp no s {s with gens:=s.gens.push gs,toks:=tk₅,heap:=h₅}:=
   (K2.trans K3).trans ⟨λb o _ _ e=>wt b o e,λb o _ e=>⟨o,wt b o e⟩,λb _ vs e=>⟨#[],by rw[wt _ _ e,AE.append_empty]⟩,λT=>T.keeps wt,rfl,λhg=>AllBare.push hg wq⟩
  have hgone:∀b,s.heap.objs.size<=b->s.heap.get? b=none:=λb hb=>Bx _ hb
  have two:∀{b x z:Ah}{Q:Ah->Prop},Q x->Q z->b∈[x,z]->Q b:=λh1 h2 hb=>(Bc.mp hb).elim (λe=>e▸h1) λhb=>CL.mp hb▸h2
  have hpl:passing (λ_=>true) vl.size 0=Cn pairs.length:=by rw[UN,hsz]
  rw[hpl,GV] at W5
  refine k a _ K5 ⟨_,_,_,_,W5,GA,λi s st=>st.1.typeIs,CT ..,λb hb=>?_,λb hb=>two (Q:=λb=>s.heap.get? b=none) (hgone _ (DY (Ex yW))) (hgone _ (AP _)) hb,h',G₄.tabs,wt,λb hb=>two (Q:=λb=>h'.get? b=none\/∃o,h'.get? b=some o/\Jh o) (.inl (Bx _ (AP _))) (.inr ⟨_,yW,.inl ⟨by simp,by simp⟩⟩) hb⟩
  rw[AaP]
  exact(Bc.mp hb).elim (λe=>by rw[e];exact CF _) λhb=>N5 ((Bc.mp hb).elim (λe=>by rw[e];exact IZ) λhb=>EH (Ff.mp hb) IZ)
end
theorem TabsOk.kept(T:TabsOk h)(hk:∀b o,h.get? b=some o->¬ Jh o->h'.get? b=some o):TabsOk h':=λt ht=>(T t ht).imp (λb o e c d=>hk b o e λq=>q.dH c d) λps e=>hk _ _ e λq=>q.Sp
theorem nY(K:Kp no s s₅)(hm:Moved wr (GenOnlyQ g) s₅ s')(hwr:∀b∈wr,s.heap.get? b=none)(T:TabsOk h₄)(up:∀b o,h₄.get? b=some o->s₅.heap.get? b=some o)
  (hwo:∀b∈wr,h₄.get? b=none\/∃o,h₄.get? b=some o/\Jh o):Kp no s s' where
 keep:=λb o hb ht e=>hm.heap b o (λh=>nomatch (hwr b h).symm.trans e) (K.keep b o hb ht e)
 there:=λb o hb e=>(let ⟨o',e'⟩:=K.there b o hb e;⟨o',hm.heap b o' (λh=>nomatch (hwr b h).symm.trans e) e'⟩)
 tabs:=λb hb vs e=>(let ⟨xs,e'⟩:=K.tabs b hb vs e;⟨xs,hm.heap b _ (λh=>nomatch (hwr b h).symm.trans e) e'⟩)
 tok:=λ_=>T.kept λb o e hno=>hm.heap b o (λh=>by
  exact(hwo b h).elim (λq=>nomatch q.symm.trans e) λq=>q.elim λo' q=>hno (AQ (q.1.symm.trans e)▸q.2)) (up b o e)
 os:=hm.os.trans K.os
 gens:=λG=>hm.gens.bare (K.gens G)
end
section
open Builtin Builtin.ObjectAttr
section
variable{c:Cx}{d:Nat}{fr:FD}{lo Bv BJ:Lo}{H H' EZ H1 H2 H3:List AO}
theorem lenOf{m}(hk:env.scope.kind=.function)(hl:env.kindOf "len" =some .globalImplicit)(hg:env.globals=DO)(hb:env.builtins=C4)(G:Glob s.heap "len" (.builtin "len"))
  (hx:env.kindOf x=some .local)(hn:s.heap.Ns env.locals m)(hm:m x=some (.str a ta))(hd:(x==("__debug__" :Str))=false)(hnc:∀q r,Expr.Name x p2≠.Starred q r)(hsz:(a.length:Int)<2^60)(q:∀t tk,Q (.int a.length t) {s with toks:=tk}):
  Ae c.m A (eval (.Call (.Name "len" p1) [.Name x p2] [] p3) env) Q E s:=by
 refine Ac (KR hk hl hg hb G ⋯ ?_)
 refine IA (P:=λ_=>True) rfl (λh _=>⟨.machine,.inr (.inl rfl),.now⟩) ?_
 have em:J6 p3 (G4 [.Name x p2] env)=([Expr.Name x p2].map λe=>eval e env).map λt=>(false,t):=rfl
 rw[em]
 refine Dd rfl ?_
 refine IC (Jj hk hx hn hm hd ?_)
 refine Ml ?_
 refine JY ⟨trivial,?_⟩
 exact P.len_str ((pw [.T (.n .p) (.j (2^60))] (.n (.L (.j (2^63)) (.n .p))) [] [_]) hsz) (q _ _)
def fM(cc:Ah)(gs:List Str)(fi:FI):Aa:=nil (AK fi.scope.names)&&(Bz (lk "self" fi.scope.names) isLocal&&(Bz fi.code (Aw · cc)&&gs.all λx=>Bz (lk x fi.scope.names) OQ))
structure XA(cc:Ah)(gs:List Str)(fi:FI):Prop where
 cells:AK fi.scope.names=[]
 ka:fi.scope.names.lookup ("self" :Str)=some .local
 code:fi.code=some cc
 gl:∀x∈gs,fi.scope.names.lookup x=some .globalImplicit
theorem aU(h:fM cc gs fi=true):XA cc gs fi:=
 ⟨Bj (Ax h),S3 (λ_=>DL) (Ax (Am h)),(A0 (Ax (Am (Am h)))).elim λa q=>Cb q.2▸q.1,λx hx=>S3 (λ_=>Jo) (BV.mp (Am (Am (Am h))) x hx)⟩
def fN(a cc:Ah)(gs:List Str):Aa:=Bz (FT a) λfi=>fM cc gs fi&&fF fi.body
theorem UO(h:fN a cc gs=true):∃fi b,FT a=some fi/\fi.body=.stmts b/\XA cc gs fi:=(A0 h).elim λfi q=>by
 have h2:=Am q.2
 cases e:fi.body with
 |stmts b=>exact⟨fi,b,q.1,e,aU (Ax q.2)⟩
 |expr _=>rw[e] at h2;cases h2
def scG(sc:BQ)(gs:List Str):Aa:=isFun sc.kind&&(!sc.isCoroutine&&(sc.names.all (λp => !EY p.2 && !isFree p.2)&&(Bz (lk ".0" sc.names) isLocal&&(Bz (lk "fws" sc.names) isLocal&&(Bz (lk "part" sc.names) isLocal&&gs.all λx=>Bz (lk x sc.names) OQ)))))
structure ScG(sc:BQ)(gs:List Str):Prop where
 kind:sc.kind=.function
 co:sc.isCoroutine=false
 cell:∀y∈sc.names,y.2≠.cell
 free:∀y∈sc.names,y.2≠.free
 dot:sc.names.lookup (".0" :Str)=some Sh
 fws:sc.names.lookup ("fws" :Str)=some Sh
 part:sc.names.lookup ("part" :Str)=some Sh
 gl:∀x∈gs,sc.names.lookup x=some .globalImplicit
theorem fO(h:scG sc gs=true):ScG sc gs:=
 have h2:=Am h;have h3:=Am h2;have h4:=Am h3;have h5:=Am h4;have h6:=Am h5
 ⟨Um (Ax h),HN (Ax h2),λy hy q=>(nomatch (HN (Ax (BV.mp (Ax h3) y hy))).symm.trans (Ai EY q)),λy hy q=>(nomatch (HN (Am (BV.mp (Ax h3) y hy))).symm.trans (Ai isFree q)),
  S3 (λ_=>DL) (Ax h4),S3 (λ_=>DL) (Ax h5),S3 (λ_=>DL) (Ax h6),λx hx=>S3 (λ_=>Jo) (BV.mp (Am h6) x hx)⟩
theorem S8(h:∀y∈sc.names,y.2≠.free):Ma sc env=pure []:=by
 unfold Ma
 have:∀(l:List (Str×BX))(f:Str×BX->List (Str×Ah)->Sem (En (List (Str×Ah)))),(∀y∈l,y.2≠.free)->(∀n k cs,k≠.free->f (n,k) cs=pure (.yield cs))->forIn l ([]:List (Str×Ah)) f=pure []:=by
  intro l
  induction l with
  |nil=>intro f _ _;rfl
  |cons p l ih=>
   intro f hl hf
   rw[FO,hf p.1 p.2 [] (hl p (CT ..))]
   exact ih f (λy hy=>hl y (Ee _ hy)) hf
 dsimp -iota only
 rw[this sc.names _ h λn k cs hk=>by simp[hk]]
 rfl
noncomputable abbrev M0(p:Str×Str):AV:=.tup [.str p.1,.str p.2]
theorem PD:Ok (Sr v) λp=>v=M0 p:=Fv.bind λxs e=>Ms.bind λp q=>Cz.bind λx ex=>Cz.bind λy ey=>.some (by rw[e,q,ex,ey])
theorem XB:Ok (YB xs) λn=>∃pairs:List (Str×Str),xs=pairs.map M0/\n=(pairs.map λp=>p.1.length+p.2.length).sum:=(I6 PD).bind λps e=>.some ⟨ps,e,rfl⟩
theorem XC:Ok (YC xs) λn=>∃pairs:List (Str×Str),xs=pairs.map M0/\n=pairs.flatMap λp=>p.1.cps.toList++p.2.cps.toList:=(I6 PD).bind λps e=>.some ⟨ps,e,rfl⟩
theorem HK(z:Int)(l:List Int):∀j,j<=l.length->Cf z (λi=>l.getD i 0) j=z+(l.take j).sum
 |0,_=>(Ej z).symm
 |j+1,hj=>by
  rw[Cf,HK z l j (Wi hj),bQ hj,List.sum_append,HG,HU hj,List.sum_singleton,V3] at ⊢
  rfl
theorem AaS:fN 216 215 ["sum"]=true:=by kernel_rfl!
theorem wu:∃(p:Nat->Pos)(n:Nat)(sc:BQ),MZ 216=.stmts [.Return (some (.Call (.Name "sum" (p 0)) [.GeneratorExp (.BinOp (.Call (.Name "len" (p 1)) [.Name "fws" (p 2)] [] (p 3)) .Add (.Call (.Name "len" (p 4)) [.Name "part" (p 5)] [] (p 6)) (p 7)) [⟨.Tuple [.Name "fws" (p 8),.Name "part" (p 9)] n (p 11),.Name "self" (p 12),[],0⟩] sc (p 14),
 .Attribute (.Name "self" (p 15)) "_initial_size" (p 16)] [] (p 17))) (p 18)]/\scG sc ["len"]=true:=⟨pF 216,nF 216 10,sF 216 13,by kernel_rfl!,by kernel_rfl!⟩
theorem AaT:((FT 216).bind λfi=>some (sEq fi.qual "_Accumulator.__len__"))=some true:=by kernel_rfl!
theorem fP(hf:FT a=some fi)(h:((FT a).bind λfi=>some (sEq fi.qual q))=some true):fi.qual=q:=BC (AQ (I4 hf h))
theorem AaU(v:AV)(n wr:Nat)(S:St):((FT 216).bind λfi=>(Cv fi [v] []).bind λbs=>IK (Au fi n wr) [] S bs)=some ⟨[("self",v)],S⟩:=by kernel_rfl!
theorem XD{dl:Nat}:Ok (YD H dl) λi=>∃es,H[dl]?=some (.dict es)/\es.lookup ("_initial_size" :Str)=some (AV.int i)/\0<=i:=
 dictAt.bind λes hd=>Ok.self.bind λv hv=>Bd.bind λi hi=>.guard λh=>.some ⟨es,hd,hi▸(D9 ..).symm.trans hv,Bi h⟩
theorem XE:∀{pairs:List (Str×Str)}{p:Str×Str},p∈pairs->p.1.length+p.2.length<=(pairs.map λp=>p.1.length+p.2.length).sum
 |q::ps,p,h=>by
  rw[EF,LM]
  exact(Bc.mp h).elim (λe=>e▸BF _ _) λh=>AA (XE h) (H8 _ _)
theorem UP:∀l:List (Str×Str),(l.map λp=>((p.1.length+p.2.length:Nat):Int)).sum=((l.map λp=>p.1.length+p.2.length).sum:Nat)
 |[]=>rfl
 |p::l=>by rw[EF,LM,EF,LM,UP l];rfl
theorem Zi{n i j:Nat}(h:(Cn n)[j]?=some i):i=j:=(NZ.mp h).elim λ_ e=>(Rd ..).symm.trans e |>.symm
theorem Zj(Cl:Be c){l dl:Nat}
  (R:A5 d A)(Sf:XA cc gs' fi)(S:ScG sc gs)(F:Bu π H.length (Au fi n wr) env)(G:Av c π H s)(L:Br c π H.length s.heap env.locals [("self",.loc l)])(hT:(cc,P,fi.qual++".<locals>." ++"<genexpr>")∈TL)
  (e:H[l]?=some (.acc dl (pairs.map M0)))
  (helt:∀(C:Ah)(cv:Ad)(A':AG)(E':EP)(a b:Str)(ta tb:Tok)(s₂:Aj) m₂,A'.handled=none->(a,b)∈pairs->s₂.heap.Ns C m₂->m₂ "fws" =some (.str a ta)->m₂ "part" =some (.str b tb)->(∀(y:Str) v,Glob c.B.heap y v->Glob s₂.heap y v)->
   Ae c.m A' (eval elt (genEnv sc [] C cv C4 env)) (λy s₃=>Fy a b y/\Keeps s₂ s₃) E' s₂)
  (k:∀a s₅,Kp no s s₅->wm c.prog c.w A a pairs Fy s s₅->Q (.ref a) s₅):
  Ae c.m A (eval (.GeneratorExp elt [⟨.Tuple [.Name "fws" pa,.Name "part" pb] kt pt,.Name "self" ip,[],0⟩] sc pos) env) Q E s:=
 qK Cl R F G L hT (by show T7 fi.code=_;rw[Sf.code];rfl) Sf.ka rfl rfl e S.co (S8 S.free) S.cell S.dot S.fws S.part ⋯ S.kind helt k
theorem XG(Fs:EA c)(Cl:Be c){l dl wr:Nat}{pairs:List (Str×Str)}(e:H[l]?=some (.acc dl (pairs.map M0)))(hd:H[dl]?=some (.dict es))(hes:es.lookup ("_initial_size" :Str)=some (AV.int i))
  (hsz:((pairs.map λp=>p.1.length+p.2.length).sum:Nat)<2^60):DR c (d+1) H wr (.val (.ref 216)) [.loc l] [] (.int (i+(pairs.map λp=>p.1.length+p.2.length).sum)) H:=by
 intro A π s E cf cargs Gr R hw G rf ra rk
 cases rf.val
 refine Bm λGG fin=>(UO AaS).elim λfi q=>q.elim λb q=>wu.elim λp z=>z.elim λkt z=>z.elim λsc z=>fin ?_
 refine Py Fs q.1 q.2.1 q.2.2.cells (I4 q.1 (AaU _ _ _ _)) R hw G ra λo fd env s₁ π₁ _ _ _ _ hab P₁ F₁ L₁=>?_
 cases I3 q.1 q.2.1 z.1
 have S:=fO z.2
 have nZ:Glob c.B.heap "len" (.builtin "len"):=c.gt _ _ rfl
 refine Ih (RA (JB ?_))
 refine Ac (KR F₁.kd (F₁.kindOf (q.2.2.gl "sum" (.head _))) F₁.glob F₁.bi (Glob.up P₁.g (c.gt "sum" (.builtin "sum") rfl)) rfl ?_)
 refine IA (P:=λ_=>True) rfl (λh _=>⟨.machine,.inr (.inl rfl),.now⟩) ?_
 have ns:∀a b:Expr,Ea [a,b]->J6 (p 17) (G4 [a,b] env)=([eval a env,eval b env]:List (Sem Ad)).map λt=>(false,t):=λa b h=>h env (p 17)
 rw[ns _ _ λ_ _=>rfl]
 refine Dd rfl (IC (Zj (P:=211) (Fy:=λa b y=>∃t,y=Kb (a.length+b.length) t) Cl R.deeper q.2.2 S F₁ P₁.g L₁ (by rw[fP q.1 AaT];decide) e
  (λC cv A' E' a b ta tb s₂ m₂ hA hm hn h1 h2 hgl=>?_) λa s₅ K₅ GX=>?_))
 ·have kM:=CE (XE hm) hsz
  refine wpAny_BinOp (lenOf S.kind (S.gl "len" (.head _)) F₁.glob rfl (hgl _ _ nZ) S.fws hn h1 rfl (by nofun) (DB.mpr (CE (BF _ _) kM)) λt tk=>?_)
  exact lenOf S.kind (S.gl "len" (.head _)) F₁.glob rfl (hgl _ _ nZ) S.part hn h2 rfl (by nofun) (DB.mpr (CE (H8 _ _) kM)) λt' tk'=>WG ⟨⟨_,rfl⟩,_,_,rfl,λ_ _ e=>e⟩
 ·have G₅:=P₁.g.DU K₅
  refine Bm λGG fin=>(O5 (x:="self") (L₁.DU P₁.g K₅) rfl).elim λm r=>r.elim λcv r=>(MT.of G₅ (.inr ⟨rfl,_,e⟩) hd).elim λm' I=>I.elim λox I=>I.elim λod I=>(I.own Cl.a (.head _) hes).elim λcv2 r2=>r2.2.int.elim λti hti=>Cl.a.mro.elim λcd w=>fin ?_
  refine IC ?_
  rw[arm_eval_Attribute,GD rfl]
  refine Ac (Jj F₁.kd (F₁.kindOf q.2.2.ka) r.1 r.2.1 rfl (Ac (DN (Ac (BE ?_)))))
  rw[r.2.2.loc.2]
  refine fo (c.DA G₅) I.inst Cl.a.ga Cl.a.hk w.1 w.2 (hti▸r2.1) rfl (Ac (Wu (An (Ml (JY ⟨trivial,?_⟩)))))
  refine GX.elim λfp x=>x.elim λyK x=>x.elim λg x=>x.elim λSt x=>x.2.2.2.2.2.2.elim λh₄ y=>?_
  have qM:=x.1.frame 0 s₅ s₅.heap _ x.2.1 (Dw _) λ_ _ _ e=>e
  refine Qj (x.1.in4_1.self 0 _ _ _ qM ⟨a,fp,yK,_,_,_,St,(λj=>(pairs.map λp=>((p.1.length+p.2.length:Nat):Int)).getD j 0),rfl,x.1.in4_1,qM,x.2.2.2.2.1,λj v u=>?_,λs' t' hmv=>?_⟩)
  ·exact u.elim λi' u=>u.2.elim λp u2=>u2.2.imp λt ht=>by
    rw[ht,<-Zi u.1]
    show _=Kb ((pairs.map λp=>((p.1.length+p.2.length:Nat):Int)).getD i' 0) t
    rw[HG,F3,u2.1] at ⊢;rfl
  ·have K:=nY (K₅.trans .toks) hmv x.2.2.2.2.2.1 y.1 y.2.1 y.2.2
   rw[HK _ _ _ (Bo (AY ..).symm),V8 (Bo (AY ..)),UP]
   exact⟨π₁,P₁.trans (.pure P₁.g K),.mkInt⟩
end
end
section
open Builtin Builtin.ObjectAttr
theorem AaW:fN 223 222 ["EMPTYSTRING"]=true:=by kernel_rfl!
theorem wx:∃(p:Nat->Pos)(n:Nat->Nat)(sc:BQ),MZ 223=.stmts [.Return (some (.Call (.Attribute (.Name "EMPTYSTRING" (p 0)) "join" (p 1)) [.GeneratorExp (.Call (.Attribute (.Name "EMPTYSTRING" (p 2)) "join" (p 3)) [.Tuple [.Name "fws" (p 4),.Name "part" (p 5)] (n 6) (p 7)] [] (p 8)) [⟨.Tuple [.Name "fws" (p 9),.Name "part" (p 10)] (n 11) (p 12),.Name "self" (p 13),[],0⟩] sc (p 15)] [] (p 16))) (p 17)]/\
 scG sc ["EMPTYSTRING"]=true/\((p 1).endLine==(p 16).line)=true/\((p 3).endLine==(p 8).line)=true:=⟨pF 223,nF 223,sF 223 14,by kernel_rfl!,by kernel_rfl!,by kernel_rfl!,by kernel_rfl!⟩
theorem AaX:((FT 223).bind λfi=>some (sEq fi.qual "_Accumulator.__str__"))=some true:=by kernel_rfl!
theorem AaY(v:AV)(n wr:Nat)(S:St):((FT 223).bind λfi=>(Cv fi [v] []).bind λbs=>IK (Au fi n wr) [] S bs)=some ⟨[("self",v)],S⟩:=by kernel_rfl!
section
variable{c:Cx}{d:Nat}{fr:FD}{lo Bv BJ:Lo}{H H' EZ H1 H2 H3:List AO}
theorem UQ(hk:env.scope.kind=.function)(hl:env.kindOf x=some .globalImplicit)(hg:env.globals=DO)(hb:env.builtins=C4)
  (G:Glob s.heap x (.str sep ts))(hd:(x==("__debug__" :Str))=false)(hline:(ap.endLine==p3.line)=true)(hns:Ea [arg])(q:Ae c.m A (eval arg env) (λv s'=>Ae c.m A (call (.builtin "str.join") [.str sep ts,v]) Q E s') E s):
  Ae c.m A (eval (.Call (.Attribute (.Name x p1) "join" ap) [arg] [] p3) env) Q E s:=by
 rw[RL,GD rfl]
 refine Ac (KR hk hl hg hb G hd (Ac (DN ?_)))
 have Px:Oe ([arg].length+([]:List EN).length) (J6 p3 (G4 [arg] env)) (Fi p3 (Fh [] env))=true:=by rw[hns env p3];rfl
 have Xu:J1 true (.Name x p1) env ap p3=R9 p3:=by unfold J1;rw[hline];rfl
 unfold Mb
 rw[Px]
 refine Ac (BE (Wx (J2 s sep ts) de dh (MB.ty .join) (by nofun) ?_))
 refine Ac (Ci Xu ?_)
 rw[hns env p3]
 refine IA (P:=λ_=>True) rfl (λh _=>⟨.machine,.inr (.inl rfl),.now⟩) ?_
 have em:([arg].map λe=>(false,eval e env))=([eval arg env]:List (Sem Ad)).map λt=>(false,t):=rfl
 rw[em]
 refine Dd rfl ?_
 refine IC (AJ q (λv s' h=>?_) λ_ _ x=>x)
 refine Ml ?_
 exact JY ⟨trivial,h⟩
theorem wy(a b:Str):Oy "" [a,b]=⟨(a.cps.toList++b.cps.toList).toArray⟩:=(WV _ _:Oy "" [a,b]=R5 "" [a,b]).trans (I2 _ _)
theorem n3:∀l:List Str,JD [] l=l.flatMap λx=>x.cps.toList
 |[]=>rfl
 |[x]=>(DX _).symm
 |x::y::r=>Ai (x.cps.toList ++ ·) (n3 (y::r))
theorem kN(l:List Str):Oy "" l=⟨(l.flatMap λx=>x.cps.toList).toArray⟩:=by
 rw[<-n3]
 exact(WV _ _:Oy "" l=R5 "" l).trans (I2 _ _)
theorem len_app(a b:Str):(⟨(a.cps.toList++b.cps.toList).toArray⟩ :Str).length=a.length+b.length:=by
 show(a.cps.toList++b.cps.toList).toArray.size=a.cps.size+b.cps.size
 rw[LF,BO,Dt,Dt]
theorem UR:∀pairs:List (Str×Str),(pairs.flatMap λp=>p.1.cps.toList++p.2.cps.toList).length=(pairs.map λp=>p.1.length+p.2.length).sum
 |[]=>rfl
 |p::l=>by
  rw[List.flatMap_cons,BO,UR l,EF,LM,BO,Dt,Dt]
  rfl
noncomputable abbrev qN(p:Str×Str):Str:=⟨(p.1.cps.toList++p.2.cps.toList).toArray⟩
theorem qO{pairs:List (Str×Str)}(hlen:lt.length=pairs.length)(h:∀(j:Nat) y,(strValues lt).toArray[j]?=some y->∃i:Nat,(Cn pairs.length)[j]?=some i/\∃p:Str×Str,pairs[i]?=some p/\∃t,y=EU (qN p) t):lt.map (·.1)=pairs.map qN:=by
 apply List.ext_getElem?
 intro j
 rw[F3,F3] at ⊢
 cases hj:lt[j]? with
 |none=>rw[H5 (hlen▸bS.mp hj)] at ⊢;rfl
 |some q=>
  exact(h j (.str q.1 q.2) (by show(lt.map _).toArray[j]?=_;rw[List.getElem?_toArray,F3,hj] at ⊢;rfl)).elim λi u=>u.2.elim λp v=>v.2.elim λt e=>by
   rw[<-Zi u.1,v.1]
   exact Ai some (by injection e)
theorem XH(Fs:EA c)(Cl:Be c)(hes:Glob c.B.heap "EMPTYSTRING" (.str "" tE)){l dl wr:Nat}{pairs:List (Str×Str)}(e:H[l]?=some (.acc dl (pairs.map M0)))(hsz:(pairs.map λp=>p.1.length+p.2.length).sum<=100000)(hsz2:pairs.length<=1000):
  DR c (d+1) H wr (.val (.ref 223)) [.loc l] [] (.str ⟨(pairs.flatMap λp=>p.1.cps.toList++p.2.cps.toList).toArray⟩) H:=by
 intro A π s E cf cargs Gr R hw G rf ra rk
 cases rf.val
 refine Bm λGG fin=>(UO AaW).elim λfi q=>q.elim λb q=>wx.elim λp z=>z.elim λn z=>z.elim λsc z=>fin ?_
 refine Py Fs q.1 q.2.1 q.2.2.cells (I4 q.1 (AaY _ _ _ _)) R hw G ra λo fd env s₁ π₁ _ _ _ _ hab P₁ F₁ L₁=>?_
 cases I3 q.1 q.2.1 z.1
 have S:=fO z.2.1
 refine Ih (RA (JB ?_))
 refine UQ F₁.kd (F₁.kindOf (q.2.2.gl "EMPTYSTRING" (.head _))) F₁.glob F₁.bi (Glob.up P₁.g hes) rfl z.2.2.1 (λ_ _=>rfl) ?_
 refine Zj (P:=218) (Fy:=λa b y=>∃t,y=EU (qN (a,b)) t) Cl R.deeper q.2.2 S F₁ P₁.g L₁ (by rw[fP q.1 AaX];decide) e (λC cv A' E' a b ta tb s₂ m₂ hA hm SN h1 h2 hgl=>?_) λa s₅ K₅ GX=>?_
 ·have kM:=AA (XE hm) hsz
  refine UQ S.kind (S.gl "EMPTYSTRING" (.head _)) F₁.glob rfl (hgl _ _ hes) rfl z.2.2.2 (λ_ _=>rfl) (Tuple_ ?_)
  have ns2:∀(pp:Pos)(a b:Expr)(env:Env),Ea [a,b]->J6 pp (G4 [a,b] env)=[(false,eval a env),(false,eval b env)]:=λpp a b env h=>h env pp
  rw[ns2 _ _ _ _ λ_ _=>rfl]
  refine IC (Jj S.kind S.fws SN h1 rfl (IC (Jj S.kind S.part SN h2 rfl (Ml (LY ?_ (by show 2<=BY;decide))))))
  exact join_tupleC ⟨_,Bp _ rfl,rfl,0,rfl⟩ (.cons _ _ (.cons _ _ .nil)) ⋯ (by simp;exact(pw [.l (.A .p .q) (.k 100000)] (.l (.A .p .q) (.k 16777088)) [] [_,_]) kM) λt' k=>⟨⟨t',by rw[wy]⟩,_,_,rfl,λb o e=>B6 _ e⟩
 ·refine GX.elim λfp x=>x.elim λyK x=>x.elim λg x=>x.elim λSt x=>x.2.2.2.2.2.2.elim λh₄ y=>?_
  refine SC.joinGen x.1.in4_2 x.2.2.1 x.2.1 x.2.2.2.2.1 x.2.2.2.1 (λi v u=>u.elim λi' u=>u.2.elim λp u=>u.2.elim λt hv=>⟨_,t,hv⟩) (λs' lt hmv hit=>?_) (by unfold BY;exact(pw [.l .p (.k 1000)] (.l .p (.k (2^24))) [] [_]) hsz2)
  have hl:=qO (by have h:=hit.1;rw[LF] at h;exact(AY ..).symm.trans h) hit.2
  have AaZ:((lt.map (·.1)).map (·.length)).sum=(pairs.map λp=>p.1.length+p.2.length).sum:=by
   rw[hl,F6]
   exact Ai List.sum (LD λp _=>len_app _ _)
  refine⟨joinOk_of (by rw[AaZ];exact(pw [.l .p (.k 100000)] (.l (.A .p (.R .q 0)) (.k 16777216)) [] [_,_]) hsz),λt' k=>?_⟩
  have K:=nY K₅ hmv x.2.2.2.2.2.1 y.1 y.2.1 y.2.2
  rw[hl,kN,List.flatMap_map]
  exact⟨π₁,P₁.trans (.pure P₁.g (K.trans .toks)),.mkStr⟩
end
end
section
open Builtin Builtin.ObjectAttr
structure US(c:Cx):Prop where
 mkL:PB c.K=true
 mkO:makesIn c.K 165=true
 inO:A7 c.K (.ref 165) "__init__" =some (some (.ref 106))
 tyO:EV c.K (.ref 106)=some (.type "function")
 wz:EV c.K (.ref 216)=some (.type "function")
 wA:EV c.K (.ref 223)=some (.type "function")
 es:∃t,Glob c.B.heap "EMPTYSTRING" (.str "" t)
section
variable{c:Cx}{d:Nat}{fr:FD}{lo Bv BJ:Lo}{H H' EZ H1 H2 H3:List AO}
theorem MU{l dl wr:Nat}(e:H[l]?=some (.acc dl xs))(hf:A7 c.K (.ref 249) name=some (some (.ref f)))(ht:EV c.K (.ref f)=some (.type "function"))
  (hc:DR c d H wr (.val (.ref f)) [.loc l] [] r H')(R:A5 d A)(hw:wr<=H.length)(G:Av c π H s)(k:∀cv s' π',PG c wr none π H s H' π' s'->As π' H'.length s'.heap r cv->Q (some cv) s'):
  Ae c.m A (callSpecial? (.ref (π.at' l)) name []) Q E s:=by
 have X:=c.DA G
 refine Bm λGG fin=>(HI G e).elim λvl y=>y.elim λkk y=>y.elim λsl y=>fin ?_
 refine Ac (Ac (y.2.2.2.here ((Dr X hf).here (BE (Ac ((bind_fn X _ ht).here (Ac ?_)))))))
 exact AJ (hc A π s E (.ref f) [.ref (π.at' l)] [] R hw G .FV (.cons (As.Y9 (G.lt e)) .nil) .nil) (λcv s' q=>q.elim λπ' q=>An (k cv s' π' q.1 q.2)) λ_ _ x=>x
theorem Zk{l dl wr:Nat}(Ao:US c)(Cl:Be c)(e:H[l]?=some (.acc dl xs))(hn: 0<=n/\n<2^60)(hc:DR c d H wr (.val (.ref 216)) [.loc l] [] (.int n) H)(R:A5 d A)(hw:wr<=H.length)(G:Av c π H s)
  (k:∀t s' π',PG c wr none π H s H π' s'->Q (.done (.ret (.int n t))) s'):Ae c.m A (Bk.«len» ⟨[.ref (π.at' l)],[]⟩) Q E s:=by
 refine Ac (An (Ac (MU e Cl.len Ao.wz hc R hw G λcv s' π' P rv=>rv.int.elim λt ht=>?_)))
 subst ht
 refine Ac (BE (An (Ac (L6 ?_))))
 rw[AD (DD.mpr hn.1)]
 rw[AD (Fe.mpr (V4 hn.2 ⋯))]
 exact Ac (wpAny_mkInt (An (k _ _ π' (P.DU .toks))))
theorem Zl(Fs:EA c)(Cl:Be c){l dl wr:Nat}(e:H[l]?=some (.acc dl xs)):Ok (Z9 H (.acc dl xs)) λn=>0<=n/\n<2^60->DR c (d+1) H wr (.val (.ref 216)) [.loc l] [] (.int n) H:=
 XD.bind λi hi=>XB.bind λn hn=>.some λh=>hi.elim λes hi=>hn.elim λpairs hn=>by
  have e':=e
  rw[hn.1] at e'
  rw[hn.2] at h ⊢
  exact XG Fs Cl e' hi.1 hi.2.1 (DB.mp (V0 (Int.le_add_of_nonneg_left hi.2.2) h.2))
theorem Cj.qP(Ao:US c)(Cl:Be c){l dl wr:Nat}(e:H[l]?=some (.acc dl xs))(hsz: 0<=n/\n<2^60)(hc:DR c (d+1) H wr (.val (.ref 216)) [.loc l] [] (.int n) H):Cj c (d+2) H wr "len" [.loc l] (.int n) H:=.one λA π s E ca R hw G ra=>by
 rw[ra.loc.2]
 exact call_function_entry kind_len plain_len entry_len (args_len1 _) (Zk Ao Cl e hsz hc R.in1 hw G λt s' π' P=>⟨_,rfl,π',P,.mkInt⟩)
def MC(c:Cx)(d:Nat)(H:List AO)(a:AV)(r:Aa):Prop:=
 ∀(A:AG)(π:Pl)(s:Aj)(E:EP)(ca:Ad),A5 d A->Av c π H s->As π H.length s.heap a ca->
  Ae c.m A (truthy ca) (λb s'=>∃π',PG c H.length none π H s H π' s'/\b=r) E s
theorem n4(n:Int):(n !=0)=decide (n≠0):=by
 by_cases q:n=0
 ·rw[q];rfl
 ·rw[AU q];exact bne_iff_ne.mpr q
theorem qQ(Ao:US c)(Cl:Be c){l dl:Nat}(e:H[l]?=some (.acc dl xs))(hsz: 0<=n/\n<2^60)(hc:DR c (d+1) H H.length (.val (.ref 216)) [.loc l] [] (.int n) H):MC c (d+2) H (.loc l) (decide (n≠0)):=by
 intro A π s E ca R G ra
 rw[ra.loc.2]
 have X:=c.DA G
 refine Bm λGG fin=>(HI G e).elim λvl y=>y.elim λkk y=>y.elim λsl y=>fin ?_
 have hB:AR c.m s.heap (Im (.ref (π.at' l)) "__bool__") none:=y.2.2.2.andThen (Dr X Cl.bool)
 have hL:AR c.m s.heap (Im (.ref (π.at' l)) "__len__") (some (.ref 216)):=y.2.2.2.andThen (Dr X Cl.len)
 unfold truthy
 refine Ac (Ac (hB.here (An ?_)))
 refine Ac (hL.here ?_)
 refine Ac (wpAny_runValue (LW entry_len ?_))
 rw[Kc plain_len _]
 refine AJ (Zk (Q:=λfin s'=>∃t π',fin=.done (.ret (.int n t))/\PG c H.length none π H s H π' s') Ao Cl e hsz hc R.in1 (AP _) G λt s' π' P=>⟨t,π',rfl,P⟩) (λfin s' h=>h.elim λt h=>h.elim λπ' h=>?_) λ_ _ x=>x
 rw[h.1]
 exact An ⟨π',h.2,n4 n⟩
theorem qR(Ao:US c)(Fs:EA c)(Cl:Be c){l dl wr:Nat}{pairs:List (Str×Str)}(e:H[l]?=some (.acc dl (pairs.map M0)))(hsz:(pairs.map λp=>p.1.length+p.2.length).sum<=100000)(hsz2:pairs.length<=1000):
  wa c (d+4) H wr "str" [.loc l] (.str ⟨(pairs.flatMap λp=>p.1.cps.toList++p.2.cps.toList).toArray⟩) H:=λA π s E cargs R hw G ra=>AH ra λv ra=>ra.elim λws ra=>by
 rw[ra.1,ra.2.2,ra.2.1.loc.2]
 refine Bm λGG fin=>(HI G e).elim λvl y=>y.elim λkk y=>y.elim λsl y=>(G.ex _ (G.mem dl y.2.2.1)).elim λo2 z=>Ao.es.elim λtE hes=>fin ?_
 have I:InstAt s.heap (π.at' l) _ 249 (some o2):=⟨y.1,rfl,rfl,z.1⟩
 refine kso_call (R.in1.in1.cl) (c.DA G) I Cl.str (beq_iff_eq.mpr Ao.wA) ?_
 exact AJ (XH Fs Cl hes e hsz hsz2 A.in1.in1 π s E (.ref 223) [.ref (π.at' l)] [] (R.in1.in1.le (Dw _)) hw G .FV (.cons (As.Y9 (G.lt e)) .nil) .nil) (λcv s' q=>q.elim λπ' q=>q.2.str.elim λt ht=>ht▸⟨π',q.1,.mkStr⟩) λ_ _ x=>x
theorem MC.of(h:Gq c d H a r):MC c d H a r:=λA π s E ca R G ra=>AJ (h A π s E ca R G ra) (λb s' h=>⟨π,.pure G h.1,h.2⟩) λ_ _ x=>x
theorem Jw.plainQ(he:Bt c d fr lo H e a H1)(ht:MC c d H1 a b)
  (hp:∀env whole,RN e env whole=(do let v <-whole;standAt e.pos;holding [v] (truthy v))):Jw c d fr lo H e b H1:=by
 intro A env π s E R F G L
 refine isTrue_plain (he.use R F G L λca s₁ π₁ P₁ F₁ L₁ r₁=>?_) (hp env _)
 exact AJ (ht A π₁ s₁ E ca R P₁.g r₁) (λb' s₂ h=>h.imp λπ₂ h=>⟨P₁.trans (h.1.Kl F₁.wr),h.2⟩) λ_ _ e=>e
theorem Bt.Aa0(he:Bt c d fr lo H e a H1)(ht:MC c d H1 a b):Bt c d fr lo H (.UnaryOp .Not e p) (.bool (!b)) H1:=by
 intro A env π s E R F G L
 rw[arm_eval_UnaryOp]
 refine Ac (he.use R F G L λca s₁ π₁ P₁ F₁ L₁ r₁=>Ac (DN (BE ?_)))
 refine BE ?_
 exact Ac (AJ (ht A π₁ s₁ E ca R P₁.g r₁) (λb' s₂ h=>An (h.imp λπ₂ h=>⟨P₁.trans (h.1.Kl F₁.wr),by rw[h.2];rfl⟩)) λ_ _ e=>e)
end
end
section
open Builtin Builtin.ObjectAttr
structure CG(c:Cx):Prop where
 fns:EA c
 cls:Be c
 sup:JJ c
 acc:US c
theorem M1:∀{x y:List Char},x.map Char.toNat=y.map Char.toNat->x=y
 |[],[],_=>rfl
 |[],_::_,h=>nomatch h
 |_::_,[],h=>nomatch h
 |a::x,b::y,h=>by
  have h:=Gk h
  rw[M1 h.2,Char.ext (UInt32.toNat_inj.mp h.1)]
theorem Hn(h:Gi a=Gi b):a=b:=by
 rw[dq,dq] at h
 exact A3.ext (M1 (Ai (λx:Str=>x.cps.toList) h))
section
variable{c:Cx}{d:Nat}{fr:FD}{lo Bv BJ:Lo}{H H' EZ H1 H2 H3:List AO}
theorem Zm(hl:s.heap.IsList b vs)(hv:Ag π n s.heap xs vs.toList)(hsz:xs.length<100000)(q:∀tk,Q (T2 xs) {s with toks:=tk}):Ae c.m A (truthy (.ref b)) Q E s:=by
 have hs:=hv.size
 refine wpAny_truthy_list hl ((pw [.t .p (.k 100000),.e .q .p] (.T (.n .q) (.j (2^63))) [] [_,_]) hsz hs) ?_
 have e:(!vs.isEmpty)=T2 xs:=by
  induction xs using B9 with
  |nil=>rw[VO hs];rfl
  |cons x xs=>rw[show vs.isEmpty=false from Ct λw=>nomatch w.symm.trans hs];rfl
 rw[e]
 exact q _
theorem Zn(BR:CG c):Ok (pd S a) (MC c (d+2) S.H a):=by
 induction a using AV.casesOn with
 |val v=>
  induction v using R6 with
  |bool b=>exact .some (.of Gq.bool)
  |none=>exact .some (.of Gq.none)
  |_=>exact .none
 |int i=>exact .some (n4 i▸.of Gq.int)
 |str x=>exact .guard λh=>.some (.of λA π s E ca R G ra=>ra.str.elim λt e=>by
   subst e
   refine P.truthy_str (by have h:=Bi h;exact(pw [.t .p (.k (2^20))] (.n (.L (.j (2^63)) (.n .p))) [] [_]) h) ⟨.toks,?_⟩
   have e:x.length=x.cps.toList.length:=(Dt ..).symm
   rw[e]
   rcases x.cps.toList with ⟨⟩<;>rfl)
 |lst xs=>exact .guard λh=>.some (.of λA π s E ca R G ra=>ra.lst.elim λb q=>q.elim λvs q=>by
   rw[q.1]
   exact Zm q.2.1 q.2.2.2 (Bi h) λtk=>⟨.toks,rfl⟩)
 |loc l=>
  refine Ok.self.bind λo hH=>?_
  induction o using AO.casesOn with
  |list xs=>exact .guard λh=>.some (.of λA π s E ca R G ra=>(G.objs l _ hH).elim λvs q=>q.elim λk q=>by
    rw[ra.loc.2]
    exact Zm ⟨_,q.1,rfl,_,rfl⟩ q.2 (Bi h) λtk=>⟨.toks,rfl⟩)
  |acc dl xs=>exact(Zl BR.fns BR.cls hH).bind λn hc=>.guard λh=>.some (qQ BR.acc BR.cls hH (Bi h) (hc (Bi h)))
  |_=>exact .none
 |_=>exact .none
theorem kO(BR:CG c):Ok (TZ H a) λn=>0<=n/\n<2^60->Cj c (d+2) H wr "len" [a] (.int n) H:=by
 induction a using AV.casesOn with
 |str x=>exact .some λh=>.qF h.2
 |tup xs=>exact .some λh=>.qG h.2
 |lst xs=>exact .some λh=>.Zh (Bs _ rfl) h.2
 |loc l=>
  refine Ok.self.bind λo hH=>?_
  induction o using AO.casesOn with
  |list xs=>exact .some λh=>.Zh (Bs _ (by show(H[l]?).bind CW=_;rw[hH];rfl)) h.2
  |acc dl xs=>exact(Zl BR.fns BR.cls hH).mono λn hc h=>.qP BR.acc BR.cls hH h (hc h)
  |_=>exact .none
 |_=>exact .none
theorem kP(BR:CG c):Ok (ur as S) (aQ c (d+2) wr S "len" as):=BD.bind λa e=>(kO BR).bind λn hc=>.some (e▸AX.need λh=>hc (Bi h))
theorem kQ(BR:CG c):Ok (ux (Gi fs) as S) (aQ c (d+2) wr S fs as):=by
 have nm:∀{g:A3},sEq (Gi fs) (Gi g)=true->fs=g:=λq=>Hn (BC q)
 refine .cond (λh=>nm h▸kP BR) λ_=>.cond (λh=>nm h▸kB) λ_=>.cond (λh=>nm h▸UK) λ_=>.cond (λh=>nm h▸UK) λ_=>
  .cond (λh=>nm h▸kD) λ_=>.cond (λh=>nm h▸aR) λ_=>.none
theorem kT(BR:CG c):Ok (uy as S) (qH c (d+4) wr S "str" as):=
 BD.bind λa e=>Ez.bind λl el=>SI.bind λp hp=>XC.bind λx hx=>.guard λh=>.some (hx.elim λpairs hx=>by
  subst e el
  have h1:=Bn (Ax h)
  have h2:=Bn (Am h)
  rw[hx.1] at hp h2
  rw[hx.2] at h1 ⊢
  exact AX.mk (qR BR.acc BR.fns BR.cls hp (UR pairs▸h1) (AY (f:=M0)▸h2)))
theorem kU(BR:CG c):Ok (uz (Gi fs) as S) (qH c (d+4) wr S fs as):=by
 have nm:∀{g:A3},sEq (Gi fs) (Gi g)=true->fs=g:=λq=>Hn (BC q)
 exact .cond (λh=>nm h▸aS) λ_=>.cond (λh=>nm h▸kT BR) λ_=>.none
end
end
section
open Builtin Builtin.ObjectAttr
section
variable{c:Cx}{d d':Nat}{fr:FD}{lo Bv BJ:Lo}{H H' EZ H1 H2 H3:List AO}
theorem DR.le(h:DR c d H wr f as ks r H')(hd:d<=d'):DR c d' H wr f as ks r H':=λA π s E cf ca ck R=>h A π s E cf ca ck (R.le hd)
theorem Bt.le(h:Bt c d fr lo H e v H')(hd:d<=d'):Bt c d' fr lo H e v H':=λA env π s E R=>h A env π s E (R.le hd)
theorem Jw.le(h:Jw c d fr lo H e v H')(hd:d<=d'):Jw c d' fr lo H e v H':=λA env π s E R=>h A env π s E (R.le hd)
theorem IU.le(h:IU c d fr lo H e v H')(hd:d<=d'):IU c d' fr lo H e v H':=λA env π s E R=>h A env π s E (R.le hd)
theorem Fb.le{st:Az}(h:Fb c d fr lo H st fl Bv H')(hd:d<=d'):Fb c d' fr lo H st fl Bv H':=λA env π s E R=>h A env π s E (R.le hd)
def Zo(c:Cx)(d:Nat)(r:Ev):Prop:=∀{f:A3}{as:List AV}{ks:List (Str×AV)}{wr:Nat}{S:St},Ok (nf r (Gi f) as ks S) (nC c (d+4) wr S (.val (.builtin f)) as ks)
def Zp(c:Cx)(d:Nat)(wr:Nat)(S:St)(k:Sy)(o:AV)(as:List AV)(x:Rt AV):Prop:=AX S x.S (DR c d S.H wr (.val (I0 k)) (o::as) [] x.v x.S.H)
theorem KX:Ok (HH wr S l o) λx=>wr<=l/\x=⟨.none,S.on (S.H.set l o)⟩:=Jk.bind λS' q=>.some ⟨q.1,by rw[q.2]⟩
theorem Zp.bl(h:AX S x.S (Cj c d S.H wr b.id (o::as) x.v x.S.H)):Zp c d wr S (.bi b) o as x:=AX.imp h Cj.NA
theorem lt5(h:n<=1000):n<100000:=CE h ⋯
theorem kW(Cl:Be c)(e:S.H[l]?=some ob):Ok (jA wr S l v ob) λx=>AX S x.S (Cj c d S.H wr "list.append" [.loc l,v] x.v x.S.H):=by
 induction ob using AO.casesOn with
 |list xs=>exact .guard λh=>KX.mono λx q=>q.2▸AX.mk (.append e (lt5 (Bn h)) q.1)
 |acc dl xs=>exact .guard λh=>KX.mono λx q=>q.2▸AX.mk (.aK Cl e (lt5 (Bn h)) q.1)
 |_=>exact .none
theorem fQ(Cl:Be c):Ok (nh wr b o as S) (Zp c d wr S (.bi b) o as):=by
 cases b with
 |append=>exact Ez.bind λl hl=>BD.bind λv hv=>Ok.self.bind λob e=>(kW Cl e).mono λx i=>hl▸hv▸Zp.bl i
 |extend=>exact Ez.bind λl hl=>BD.bind λv hv=>listAt.bind λxs e=>Bs.bind λys hy=>.guard λh=>KX.mono λx q=>hl▸hv▸q.2▸Zp.bl (AX.mk (.extend e hy (Bn h) q.1))
 |insert=>
  exact Ez.bind λl hl=>Ms.bind λp hp=>Bd.bind λi hi=>listAt.bind λxs e=>.guard λh=>KX.mono λx q=>by
        rw[hl,hp,hi,q.2]
        exact Zp.bl (AX.mk (.insert e (Bi h) q.1))
 |Hj=>
  refine BD.bind λv hv=>Cz.bind λx hx=>?_
  induction o using AV.casesOn with
  |lst xs=>exact UG.bind λys hy=>Y4.bind λi hi=>.guard λh=>.some (by rw[hv,hx];exact Zp.bl (AX.mk (.Hj hy hi (Bi h))))
  |_=>exact .none
 |join=>exact Cz.bind λx hx=>BD.bind λv hv=>Bs.bind λxs hl=>QP.bind λys hy=>.guard λh=>.some (by rw[hx,hv];exact Zp.bl (AX.mk (.join hl hy (Bi h))))
 |split=>exact Cz.bind λx hx=>BD.bind λv hv=>Cz.bind λy hy=>BD.bind λch hc=>.guard λh=>.some (by rw[hx,hv,hy];exact Zp.bl (AX.mk (.split hc (Bi h))))
 |Kh=>exact Cz.bind λx hx=>BD.bind λv hv=>Cz.bind λy hy=>Ok.self.bind λi hi=>.some (by rw[hx,hv,hy];exact Zp.bl (AX.mk (.Kh hi)))
 |isspace=>exact Cz.bind λx hx=>.guard λh=>.some (by rw[hx,Bj h];exact Zp.bl (AX.mk .isspace))
 |Ki=>exact Bd.bind λi hi=>.guard λh=>.some (by rw[hi,Bj h];exact Zp.bl (AX.mk .Ki))
theorem kX(BR:CG c):Ok (uB wr l as S) (Zp c (d+2) wr S .pop (.loc l) as):=SI.bind λp hp=>.guard λh=>by
 have hsh:=Ax (Am h)
 have hsz:=Bn (Am (Am h))
 have run:=λhw=>ku (d:=d) (wr:=wr) BR.fns BR.cls BR.sup hp hsh hsz hw
 rw[Bj (Ax h)]
 unfold qt qv at run
 cases hx:p.2.getLast? with
 |none=>rw[hx] at run;exact .some (AX.mk (run (.inl rfl)))
 |some v=>rw[hx] at run;exact Jk.bind λS' q=>.some (q.2▸AX.mk (run (.inr q.1)))
theorem fR(BR:CG c)(Sd:Bl c d r):Ok (IM r wr k o as S) (Zp c (d+4) wr S k o as):=by
 cases k with
 |fn a=>exact Ok.self.bind λfi hf=>(SU BR.fns Sd hf).mono λx i=>AX.imp i (·.le (BF _ 3))
 |pop=>exact Ez.bind λl hl=>(kX BR).mono λx i=>hl▸AX.imp i (·.le (BF _ 2))
 |parts=>
  exact Ez.bind λl hl=>SI.bind λp hp=>.guard λh=>.some (by
        rw[hl,Bj (Ax h)]
        exact AX.mk ((QS BR.fns BR.cls BR.sup hp).le (BF _ 3)))
 |bi b=>exact fQ BR.cls
theorem fS:Ok (m6 v) λk=>v=.BH k:=by rcases v with ⟨⟩<;>first | exact .none | exact .some rfl
theorem fT:Ok (m8 v) λt=>v=.Gw t.1 t.2.1 t.2.2:=by rcases v with ⟨⟩<;>first | exact .none | exact .some rfl
theorem UT(BR:CG c)(Sd:Bl c d r)(So:Zo c d r):Ok (A9 r wr f as ks S) (nC c (d+4) wr S f as ks):=by
 have le:∀{d1:Nat}{f:AV}{as:List AV}{ks:List (Str×AV)}{x:Rt AV},d1<=d+4->nC c d1 wr S f as ks x->nC c (d+4) wr S f as ks x:=λh i=>AX.imp i (·.le h)
 induction f using AV.casesOn with
 |val v=>
  induction v using R6 with
  |ref a=>
   refine .cond (λh=>.guard λhk=>?_) λ_=>.cond (λh=>.guard λhk=>?_) λ_=>.cond (λh=>Bj (Am h)▸(az BR.fns Sd).mono λx i=>le (BF _ 3) i) λ_=>Ok.self.bind λfi hf=>(SU BR.fns Sd hf).mono λx i=>le (BF _ 3) i
   ·rw[Cb h,Bj hk]
    exact(aO BR.fns BR.acc.mkO BR.acc.inO BR.acc.tyO Sd).mono λx i=>le (BF _ 2) i
   ·rw[Cb h,Bj hk]
    exact BD.bind λv hv=>.some (hv▸AX.mk ((kA BR.fns BR.cls BR.sup BR.acc.mkL).le (BF _ 2)))
  |builtin n=>exact .cond (λh=>Bj h▸(kQ BR).mono λx i=>le (BF _ 2) (AX.imp i Cj.NA)) λ_=>So
  |type n=>exact .guard λh=>Bj h▸(kU BR).mono λx i=>AX.imp i wa.NA
  |_=>exact .none
 |BH k=>exact(Un Sd).mono λx i=>le (BF _ 3) i
 |_=>exact .none
end
end
section
variable{c:Cx}{d:Nat}{fr:FD}{lo Bv BJ:Lo}{H H' EZ H1 H2 H3:List AO}
theorem fU(G:Av c π H s)(hw:wr<=H.length)(r:Ag π H.length s.heap xs vs):
  FU c wr π H s (.loc H.length) (H++[.list xs]) (.ref s.heap.objs.size) {s with heap:=s.heap.push {cls:=.type "list",data:=.seq vs.toArray k}}:=
 have K:Kp no s {s with heap:=s.heap.push {cls:=.type "list",data:=.seq vs.toArray k}}:=.BS _
 have g:=Bp _ rfl
 have ha:=Bx s.heap (AP _)
 ⟨_,PG.add G hw K ha ⟨vs.toArray,k,g,r.step (K.Eo G.tabs .no .no (Dw _) (λ_ h=>Ep h) (eh ha))⟩ ⟨_,g,CZ⟩,by rw[BO];exact CF _,Ai Bq D8.symm⟩
theorem Bt.kY(h:IU c d fr lo H es vs H1)(hst:Ea es)(hsz:vs.length<=BY):Bt c d fr lo H (.List es p) (.loc H1.length) (H1++[.list vs]):=by
 intro A env π s E R F G L
 have hh:=h A env π s E R F G L
 rw[<-hst env p] at hh
 refine List_ (AJ hh (λcvs s₁ h=>h.elim λπ₁ q=>Of ((fU q.1.g (AA F.wr q.1.le) q.2).imp λπ₂ z=>⟨q.1.trans z.1,z.2⟩) (by rw[q.2.length];exact hsz)) λ_ _ e=>e)
theorem Bt.wC(hl:Bt c d fr lo H l a H1)(hr:Bt c d fr lo H1 r b H2)(ho:CO c d H2 op a b t)(hm':Og op' r'=false)
  (hT:t=true->∃e,Bt c d fr lo H2 r' e H3/\CO c d H3 op' b e v)(hF:t=false->v=false/\H3=H2):Bt c d fr lo H (.Compare l [op,op'] [r,r'] p) (.bool v) H3:=by
 intro A env π s E R F G L
 refine Compare_chain (hl.use R F G L λca s₁ π₁ P₁ F₁ L₁ r₁=>?_) (by unfold lastMarks;exact hm')
 refine chain_link (hr.use R F₁ P₁.g L₁ λcb s₂ π₂ P₂ F₂ L₂ r₂=>?_)
 refine AJ (ho A π₂ s₂ E ca cb R P₂.g (r₁.pg P₂ P₁.g) r₂) (λcv s₃ h=>?_) λ_ _ e=>e
 rw[h.2]
 refine RE ?_
 have P₃:PG c fr.wr none π₂ H2 s₂ H2 π₂ s₃:=.pure P₂.g h.1
 induction t using Ei with
 |false=>
  rw[AD BI,(hF rfl).1,(hF rfl).2]
  exact⟨π₂,(P₁.trans P₂).trans P₃,rfl⟩
 |true=>
  rw[Bh rfl]
  exact(hT rfl).elim λe q=>chain_last (q.1.use R (P₃.fr F₂) P₃.g (L₂.pg P₃ P₂.g) λce s₄ π₄ P₄ F₄ L₄ r₄=>
   AJ (q.2 A π₄ s₄ E cb ce R P₄.g ((r₂.pg P₃ P₂.g).pg P₄ P₃.g) r₄) (λcv s₅ z=>⟨π₄,(((P₁.trans P₂).trans P₃).trans P₄).DU z.1,z.2⟩) λ_ _ e=>e)
end
theorem M2:∀l:List α,((Cn ((l.length+1)/2)).map (2 * ·)).filterMap (l[·]?)=Cu l
 |[]=>by simp[Cu]
 |[a]=>by simp[Cu,List.range_succ]
 |a::b::r=>by
  have ih:=M2 r
  have hlen:((a::b::r).length+1)/2=(r.length+1)/2+1:=by simp only[JQ];exact(pw [.e (.A (.m 2 .p) .r) (.A (.A (.A .s (.k 1)) (.k 1)) (.k 1)),.t .r (.k 2),.e (.A (.m 2 .q) .t) (.A .s (.k 1)),.t .t (.k 2)] (.e .p (.A .q (.k 1))) [] [_,_,_,_,_]) (Du _ _) (Dx _ ⋯) (Du _ _) (Dx _ ⋯)
  rw[hlen,bT,EF,LC]
  rw[show Cu (a::b::r)=a::Cu r from rfl,<-ih]
  congr 1
  first | rw[F6] | skip
  rw[Rf,Rf]
  first | done | (congr 1;done) | (congr 1;funext j;first | rfl | simp)
theorem wD(vs:AE Ad)(i:Int)(h: 0<=i):RX vs (some i) none (some 2)=(Cu (vs.toList.drop i.toNat)).toArray:=by
 delta RX sliceBounds sliceRange
 simp only[Ab.getD_some,show(2:Int)>0 by decide,if_true,show ¬ (i<0) by exact(pw [.L (.j 0) .p] (.n (.T .p (.j 0))) [_] []) h,if_false]
 congr 1
 rw[<-M2]
 have e0:(max 0 (min i (vs.size:Int)))=((min i.toNat vs.size:Nat):Int):=(pw [] (.E (.max (.j 0) (.min .p (.n .p))) (.n (.min (.d .p) .p))) [_] [_])
 rw[e0]
 have hl:(vs.toList.drop i.toNat).length=vs.size-i.toNat:=by simp
 have ec:(if ((min i.toNat vs.size:Nat):Int)<(vs.size:Int) then ((vs.size:Int)-((min i.toNat vs.size:Nat):Int)+2-1)/2 else 0).toNat=((vs.toList.drop i.toNat).length+1)/2:=by
  rw[hl];split<;>lia
 rw[ec,Rf,Rf]
 have hm:∀k∈Cn (((vs.toList.drop i.toNat).length+1)/2),((λx=>vs[x]?)∘λ(k:Nat)=>(((min i.toNat vs.size:Nat):Int)+2*(k:Int)).toNat) k=((λx=>(vs.toList.drop i.toNat)[x]?)∘(2 * ·)) k:=by
  intro k hk
  have hk:=Ff.mp hk
  rw[hl] at hk
  show vs[(((min i.toNat vs.size:Nat):Int)+2*(k:Int)).toNat]?=(vs.toList.drop i.toNat)[2*k]?
  rw[List.getElem?_drop,show(((min i.toNat vs.size:Nat):Int)+2*(k:Int)).toNat=i.toNat+2*k by exact(pw [.t .p .q,.e (.A (.m 2 .q) .s) (.A (.S .r (.d .p)) (.k 1)),.t .s (.k 2)] (.e (.d (.A (.n (.min (.d .p) .r)) (.l 2 (.n .p)))) (.A (.d .p) (.m 2 .p))) [_] [_,_,_,_]) hk (Du _ _) (Dx _ ⋯)] at ⊢
  simp
 generalize Cn (((vs.toList.drop i.toNat).length+1)/2)=R at hm
 induction R with
 |nil=>rfl
 |cons x R ih=>
  rw[LC,LC,hm x (CT ..),ih λk hk=>hm k (Ee _ hk)]
theorem Ag.Cu{π n h}:∀{xs:List AV}{vs:List Ad},Ag π n h xs vs->Ag π n h (Cu xs) (Cu vs)
 |[],vs,r=>by rw[r];exact .nil
 |[x],vs,r=>AH r λv r=>r.elim λws r=>by rw[r.1,r.2.2];exact .cons r.2.1 .nil
 |x::y::xs,vs,r=>AH r λv r=>r.elim λws r=>AH r.2.2 λw q=>q.elim λus q=>by rw[r.1,q.1];exact .cons r.2.1 (Ag.Cu q.2.2)
section
variable{c:Cx}{d:Nat}{fr:FD}{lo Bv BJ:Lo}{H H' EZ H1 H2 H3:List AO}
theorem DS.int:DS c d fr lo H (some (.Constant (.int i) k p)) (some i) H:=⟨i,rfl,GC _ rfl⟩
theorem Bt.qT(he:Bt c d fr lo H e a H1)(ha:Jx c H1 a xs)(h0: 0<=i)(hsz:xs.length<100000):
  Bt c d fr lo H (.Subscript e (.Slice (some (.Constant (.int i) k1 p1)) none (some (.Constant (.int 2) k2 p2)) p) q) (.lst (Cu (xs.drop i.toNat))) H1:=by
 intro A env π s E R F G L
 rw[eval_Subscript]
 refine Ac (he.use R F G L λca s₁ π₁ P₁ F₁ L₁ r₁=>?_)
 refine Ac (BE (wpAny_Slice (DS.int.use R F₁ P₁.g L₁ λs₂ π₂ pl P₂ F₂ L₂ hpl epl=>?_)))
 rw[WH]
 refine An (DS.int.use R F₂ P₂.g L₂ λs₃ π₃ pst P₃ F₃ L₃ hps eps=>Ac (DN ?_))
 refine Bm λGG fin=>(ha π₃ s₃ P₃.g ca ((r₁.pg P₂ P₁.g).pg P₃ P₂.g)).elim λb z=>z.elim λvs z=>fin ?_
 rw[z.1]
 have K:Kp no s₃ {s₃ with heap:=s₃.heap.push {cls:=.type "slice",data:=.fields #[CU pl,.none,CU pst]}}:=.BS _
 refine Ig ((z.2.1.push _).typeIs) LU.lookup (cK (z.2.1.push _) (WR.new ..) hpl .none hps (by simp) ?_ (size_le hsz z.2.2.size)) rfl
 refine⟨π₃,((P₁.trans P₂).trans P₃).DU (K.trans (.BS _)),?_⟩
 rw[wD vs i h0]
 exact As.newList (P₃.g.DU K) (((z.2.2.DU K P₃.g.tabs).drop _).Cu)
end
section
variable{c:Cx}{d:Nat}{fr:FD}{lo Bv BJ:Lo}{H H' EZ H1 H2 H3:List AO}
theorem Bt.qU(ha:Bt c d fr lo H a x H1)(hst:Ea [a])(hb:Bt c d fr lo H1 b (.int y) H2)(h0: 0<=y)(h1:y<1000):Bt c d fr lo H (.BinOp (.List [a] lp) .Mult b p) (.loc H2.length) (H2++[.list (ON [x] y.toNat)]):=by
 intro A env π s E R F G L
 refine wpAny_BinOp ((Bt.list (IU.cons ha .nil) hst (by show 1<=BY;decide)).use R F G L λcl s₁ π₁ P₁ F₁ L₁ r₁=>hb.use R F₁ P₁.g L₁ λcb s₂ π₂ P₂ F₂ L₂ r₂=>?_)
 exact nE h0 h1 (r₁.pg P₂ P₁.g) r₂ λv rv=>(fU P₂.g F₂.wr (Ag.rep rv y.toNat)).imp λπ₃ q=>⟨(P₁.trans P₂).trans q.1,q.2⟩
end
section
variable{c:Cx}{d:Nat}{fr:FD}{lo Bv BJ:Lo}{H H' EZ H1 H2 H3:List AO}
theorem UW:Ok (Qu e) λes=>∃p,e=.List es p:=by rcases e with ⟨⟩<;>first | exact .none | exact .some ⟨_,rfl⟩
theorem kZ:Ok (ae e) λt=>∃lp p,e=.BinOp (.List [t.1] lp) .Mult t.2 p:=by
 induction e using Hg with
 |BinOp a op b p=>
  cases op with
  |Mult=>exact UW.bind λes h=>BD.bind λx hx=>.some (h.imp λlp h=>⟨p,by rw[h,hx]⟩)
  |_=>exact .none
 |_=>exact .none
theorem Zq(h:n<=200):n<=BY:=AA h ⋯
theorem S9(Sd:Bl c d r):Ok (OU r fr lo S x e) (jF c d fr lo S e):=by
 refine .cond (λ_=>?_) λ_=>Sd.E fr lo S e
 cases hl:Qu e with
 |some es=>exact .guard λhn=>(Mv Sd).bind λx i=>.some ((UW _ hl).elim λp h=>h▸AX.imp i.1 λh=>.kY h (BL hn).1 (i.2▸Zq (BL hn).2))
 |none=>
  cases hm:ae e with
  |some t=>exact .guard λhn=>(Sd.E fr lo S t.1).bind λx i=>(Sd.E fr lo x.S t.2).bind λk j=>Bd.bind λy hy=>.guard λh=>.some ((kZ _ hm).elim λlp z=>z.elim λp z=>z▸AX.bind i j λi j=>.qU i (BL hn).1 (hy▸j) (Bi h).1 (Bi h).2)
  |none=>exact Sd.E fr lo S e
theorem Zr(Sd:Bl c d r):∀{ts es:List Expr}{S:St},Ok (d7 r fr lo S ts es) λx=>uN c d fr lo S es x/\x.v.length=es.length
 |[],es,S=>.guard λh=>.some (Bj h▸⟨.mk .nil,rfl⟩)
 |t::ts,[],S=>.none
 |t::ts,e::es,S=>(S9 Sd).bind λx i=>(Zr Sd).bind λy j=>.some ⟨AX.bind i j.1 .cons,Ai Gb j.2⟩
end
section
variable{c:Cx}{d:Nat}{fr:FD}{lo Bv BJ:Lo}{H H' EZ H1 H2 H3:List AO}
theorem qV(h:bw fr x y=true):x=y/\CX fr x=some .globalImplicit:=⟨BC (Ax h),(A0 (Am h)).elim λk q=>Jo q.2▸q.1⟩
theorem PE{S:St}(h:bw fr x y=true)(hb:W4 y=false)(hg:lk y GT=some v):Bt c d fr lo S.H (.Name x p) (.val v) S.H:=IX _ (by
 obtain ⟨rfl,k⟩:=qV h
 unfold nameA
 rw[hb,k]
 rw[hg];rfl)
theorem UX:Ok (T5 e) λp=>∃xp p',e=.Call (.Name p.1 xp) p.2 [] p':=by
 induction e using Hg with
 |Call f as ks p=>exact .guard λh=>O6.bind λx hx=>.some ⟨x.2,p,by rw[hx,Bj h]⟩
 |_=>exact .none
theorem UY(Sd:Bl c d r):Ok (FR r fr lo S e) λx=>SD x.v t=true->AX S x.S (Ph c d fr lo S.H e t x.v x.S.H)/\Gp e=true:=by
 unfold FR
 cases hc:(T5 e).bind λp=>Af (bw fr p.1 "zip") (some p.2) with
 |some as=>
  have hz:=Ok.bind (P':=λas=>∃x xp p,e=.Call (.Name x xp) as [] p/\bw fr x "zip" =true) UX (λp h=>.guard λg=>.some (h.elim λxp h=>h.elim λp' h=>⟨p.1,xp,p',h,g⟩)) as hc
  exact .guard λhn=>(Mv Sd).bind λx i=>.guard λhl=>(fb λ_=>aE).bind λss hm=>.some λht=>hz.elim λy z=>z.elim λxp z=>z.elim λp z=>by
   rw[z.1]
   have h2:=Bn (Ax hl)
   have h3:=Bn (Am hl)
   exact⟨AX.imp i.1 λi=>.zip ht (PE z.2 rfl rfl) i (BL hn).1 hm ((pw [.l (.k 2) .p,.l .p (.k 3)] (.o (.e .p (.k 2)) (.e .p (.k 3))) [] [_]) h2 h3),rfl⟩
 |none=>exact .guard λhn=>(Sd.E fr lo S e).bind λx i=>KV.bind λsrc hs=>.some λ_=>⟨AX.imp i λi=>.base i hs,hn⟩
def Aa1(c:Cx)(d:Nat)(fr:FD)(lo:Lo)(H:List AO)(elt:Expr)(gs:List RM)(sc:BQ)(v:AV)(H':List AO):Prop:=∃t it ifs,gs=[⟨t,it,ifs,0⟩]/\∀cp,jZ c d fr lo H elt t it ifs sc cp v H'
theorem UZ(Sd:Bl c d r):Ok (MQ r fr lo S elt gs sc) λx=>AX S x.S (Aa1 c d fr lo S.H elt gs sc x.v x.S.H):=
 BD.bind λg hg=>.guard λha=>by
  obtain ⟨t,it,ifs,a⟩:=g
  have e:=Bi ha
  subst e
  exact(UY Sd).bind λs i=>(Xj Sd).mono λx j o=>by
   have q:=j o
   have z:=i q.2.2.1
   exact⟨(z.1 q.1).1,t,it,ifs,hg,λcp=>q.2.1▸q.2.2.2 (z.1 q.1).2 z.2⟩
theorem Fb.k4(run:jZ c d fr lo H elt t it ifs sc cp v H1)(hp:Fz c d fr lo H1 x v Bv H2):Fb c d fr lo H (.Assign [.Name x xp] (.ListComp elt [⟨t,it,ifs,0⟩] sc cp) p) .next Bv H2:=by
 intro A env π s E R F G L
 have sw:∃b,RU (.ListComp elt [⟨t,it,ifs,0⟩] sc cp) (some (.Name x xp)) p.line env=R9 b:=⟨_,rfl⟩
 refine sw.elim λb hb=>?_
 induction b using Ei with
 |false=>exact wpAny_Assign_Name ((Bt.comp run).use R F G L λcv s₁ π₁ P₁ F₁ L₁ r₁=>hp.use R F₁ P₁.g L₁ r₁ λs₂ P₂ F₂ L₂ hl=>⟨π₁,P₁.any.trans P₂,L₂,rfl⟩) hb
 |true=>
  rw[exec_Assign_Name_used _ _ _ _ hb]
  refine Ac (DN (Ac ?_))
  refine Ac (AJ (run A env π s E _ (some (assign (.Name x xp) env)) (λ_ s'=>∃π',PG c fr.wr (some env.locals) π H s H2 π' s'/\Br c π' H2.length s'.heap env.locals Bv) R F G L λacc C s' π' P rv hm hC hM=>?_) (λ_ s' h=>An (An (h.imp λπ' h=>⟨h.1,h.2,rfl⟩))) λ_ _ x=>x)
  have hLC:env.locals≠C:=λq=>L.obj.elim λo z=>z.elim λes z=>z.elim λk z=>by rw[q,hC] at z;cases z.1
  refine wpAny_assign_Name (hp.use R (P.fr F) P.g (L.pg P G) rv λs₂ P₂ F₂ L₂ hl=>hm.elim λm hn=>?_)
  have wF:=(Ns.pK hn).elim λoC w=>hn.at' λo e=>P₂.kp.keep C o (λx=>x.elim (λq=>hLC (AQ q)) hM) (P.g.tabs.Mq e (AQ (w.1.symm.trans e)▸w.2)) e
  refine⟨m,wF,λh' hs=>?_⟩
  have O:=PG.vo G (P.any.trans P₂) hC hM wF hs
  exact⟨π',O.1,L₂.ns.imp λm2 q=>⟨q.1.sameBut hs hLC,λy v e=>(q.2 y v e).imp λcv r=>⟨r.1,r.2.step O.2⟩⟩,L₂.nl,L₂.new⟩
end
section
variable{c:Cx}{d:Nat}{fr:FD}{lo Bv BJ:Lo}{H H' EZ H1 H2 H3:List AO}
theorem PF(h:Gp e=true):Og op e=false:=by rcases e with ⟨⟩<;>first | rfl | exact ff h
theorem plainT_ok(h:plainT e=true)(env:Env)(whole:Sem Ad):RN e env whole=(do let v <-whole;standAt e.pos;holding [v] (truthy v)):=by
 rcases e with ⟨⟩<;>first | rfl | exact ff h
theorem NB(Sd:Bl c d r):Ok (Ua r fr lo x op b) λy=>Og op b=false/\AX x.S y.S (Bt c d fr lo x.S.H b y.v.1 y.S.H/\CO c d y.S.H op x.v y.v.1 y.v.2):=
 .guard λhn=>(Sd.E fr lo x.S b).bind λy i=>YJ.bind λt ht=>.some ⟨PF hn,AX.imp i λi=>⟨i,ht⟩⟩
theorem pA.le(hd:d<=d')(h:AX S x.S (Jw c d fr lo S.H e x.v x.S.H)):pA c d' fr lo S e x:=AX.imp h (·.le hd)
theorem fV(BR:CG c)(Sd:Bl c d r):Ok (stepT r fr lo S e) (pA c (d+2) fr lo S e):=by
 have plain:∀e,Ok (Qx r fr lo S e) (pA c (d+2) fr lo S e):=λe=>.guard λh=>(Sd.E fr lo S e).bind λx i=>(Zn BR).bind λb hb=>.some (AX.imp i λi=>.plainQ (i.le (BF _ 2)) hb (plainT_ok h))
 have le2:∀{S:St}{e:Expr}{x:Rt Aa},AX S x.S (Jw c d fr lo S.H e x.v x.S.H)->pA c (d+2) fr lo S e x:=λh=>pA.le (BF _ 2) h
 induction e using Hg with
 |UnaryOp op a p=>
  cases op with
  |Not=>exact(Sd.T fr lo S a).bind λx i=>.some (le2 (AX.imp i .not))
  |_=>exact .none
 |BoolOp op es p=>
  induction es using B9 with
  |nil=>cases op with
   |And=>exact .some (AX.mk .pL)
   |Or=>exact .some (AX.mk .uY)
  |cons a as=>
   refine(Sd.T fr lo S a).bind λx i=>?_
   cases op with
   |And=>exact .cond (λh=>(Sd.T fr lo x.S _).mono λy j=>le2 (AX.bind i j λi j=>.uZ rfl (h▸i) j)) λh=>.some (le2 (AX.imp i λi=>by rw[h] at i ⊢;exact .Aad i))
   |Or=>exact .cond (λh=>.some (le2 (AX.imp i λi=>by rw[h] at i ⊢;exact .YK i))) λh=>(Sd.T fr lo x.S _).mono λy j=>le2 (AX.bind i j λi j=>.uZ rfl (h▸i) j)
 |Compare a ops bs p=>exact BD.bind λop ho=>BD.bind λb hb=>(Sd.E fr lo S a).bind λx i=>(NB Sd).bind λy j=>.some (le2 (by rw[ho,hb];exact AX.bind i j.2 λi k=>.cmp i k.1 k.2 j.1))
 |_=>exact plain _
end
section
variable{c:Cx}{d:Nat}{fr:FD}{lo Bv BJ:Lo}{H H' EZ H1 H2 H3:List AO}
theorem AX.put(e:S2.ob=S1.ob)(i:AX S S1 P):AX S S2 P:=λo=>i (e▸o)
theorem Ho(h:Ok o P)(k:∀p,P p->Q ⟨.next,p.v,p.S⟩):Ok (Hl o) Q:=h.bind λp hp=>.some (k p hp)
theorem Ok.and{P Q:α->Prop}(h:Ok o P)(k:Ok o Q):Ok o λa=>P a/\Q a:=λa e=>⟨h a e,k a e⟩
theorem Ta(Sd:Bl c d r):Ok (jB r fr lo S e) λx=>AX S x.S (DS c d fr lo S.H e x.v x.S.H):=by
 induction e using BK with
 |none=>exact .some (AX.mk ⟨rfl,rfl⟩)
 |some e=>exact(Sd.E fr lo S e).bind λx i=>Bd.bind λk hk=>.some (AX.imp i λi=>⟨k,rfl,hk▸i⟩)
theorem fW:Ok (MP e) λt=>∃p,e=.ListComp t.1 t.2.1 t.2.2 p:=by rcases e with ⟨⟩<;>first | exact .none | exact .some ⟨_,rfl⟩
theorem k5:Ok (aa e) λt=>∃k p,e=.Tuple t k p:=by rcases e with ⟨⟩<;>first | exact .none | exact .some ⟨_,_,rfl⟩
theorem QV:Ok (Fu e) λt=>∃p,e=.Slice t.1 t.2.1 t.2.2 p:=by rcases e with ⟨⟩<;>first | exact .none | exact .some ⟨_,rfl⟩
theorem QW:∀{xs:List Str}{vs:List AV}{lo:Lo}{S:St},Ok (T6 fr lo S xs vs) λ_=>xs.length=vs.length
 |[],vs,lo,S=>.guard λh=>.some (Bj h▸rfl)
 |x::xs,[],lo,S=>.none
 |x::xs,v::vs,lo,S=>Ok.any.bind λp _=>QW.mono λ_ h=>Ai Gb h
theorem k6:Ok (putN fr lo S x v) λ_=>CX fr x≠some .globalExplicit:=.guard λ_=>Ok.self.bind λk hk=>by
 cases k with
 |globalExplicit=>exact .none
 |_=>exact λ_ _=>by rw[hk];nofun
abbrev wG(c:Cx)(d:Nat)(fr:FD)(lo:Lo)(S:St)(t e:Expr)(p:Pos):Rx->Prop:=yL c d fr lo S (.Assign [t] e p)
theorem k7(Sd:Bl c d r):Ok (OX r fr lo S x e) (wG c d fr lo S (.Name x xp) e p):=by
 unfold OX
 cases hc:MP e with
 |some t=>exact(UZ Sd).bind λv i=>Ho E8 λq j=>AX.put j.2 (AX.imp i λi=>(fW _ hc).elim λcp z=>i.elim λa i=>i.elim λit i=>i.elim λifs i=>by rw[z,i.1];exact .k4 (i.2 cp) j.1)
 |none=>exact .guard λhn=>(S9 Sd).bind λv i=>Ho E8 λq j=>AX.put j.2 (AX.imp i λi=>.jS i hn j.1)
theorem k8:Ok (jC v) (jR c d H v):=by
 induction v using AV.casesOn with
 |tup xs=>exact .some .tup
 |lst xs=>exact .some (.lst (Bs _ rfl))
 |_=>exact .none
theorem k9(Sd:Bl c d r):Ok (d8 r fr lo S ts e) (wG c d fr lo S (.Tuple ts k tp) e p):=by
 unfold d8
 cases hc:aa e with
 |some es=>
  exact .guard λhn=>Ok.bind (P:=λo=>∀{k k':Nat}{p p':Pos}{π:Pl}{n:Nat}{env:Env},Bu π n fr env->L4 [.Tuple ts k p] (.Tuple es k' p') env=pure o) (λo e k k' p p'=>eL hn o e) λo hsw=>(Zr Sd).bind λvs i=>(k5 _ hc).elim λk' z=>z.elim λep z=>by
   have et:AX S vs.S (Bt c d fr lo S.H (.Tuple es k' ep) (.tup vs.v) vs.S.H):=AX.imp i.1 λi'=>.tuple i' (BL hn).1 (i.2▸Zq (BL hn).2)
   rw[z]
   induction o using BK with
   |none=>exact Ho (i9.tuple jR.tup) λq j=>AX.put j.2 (AX.imp et λi=>.YN hsw i j.1)
   |some xs=>exact Ho (Ok.and eG QW) λq j=>AX.put j.1.2 (AX.imp et λi=>.YN hsw i ⟨by have h:=j.2;rw[b9,b9] at h;exact h,j.1.1⟩)
 |none=>exact(Sd.E fr lo S e).bind λv i=>Ok.bind (k8) λvs hv=>Ho (i9.tuple hv) λq j=>AX.put j.2 (AX.imp i λi=>.eJ i hc j.1)
theorem la(BR:CG c)(Sd:Bl c d r):Ok (uF r fr lo S o x e) (wG c d fr lo S (.Attribute o x xp) e p):=
 (S9 Sd).bind λv i=>(Sd.E fr lo v.S o).bind λov j=>(kf BR.cls).bind λS' q=>.some (AX.put q.2 (AX.bind i j λi j=>.Y1 i j q.1))
theorem lh(BR:CG c)(Sd:Bl c d r):Ok (uG r fr lo S o i e) (wG c d fr lo S (.Subscript o i xp) e p):=
 (Sd.E fr lo S e).bind λv iv=>(Sd.E fr lo v.S o).bind λov io=>Ez.bind λl hl=>by
  cases hs:Fu i with
  |some t=>
   exact .guard λhn=>(Ta Sd).bind λk ik=>SI.bind λq hq=>Bs.bind λvs hv=>.guard λhz=>Jk.bind λS' hw=>.some ((QV _ hs).elim λsp z=>by
    rw[z,CN (Ax hn),CN (Am hn),hw.2]
    exact AX.put rfl (AX.bind (AX.bind iv io λa b=>Fl a b) ik λa b=>.UA BR.cls a.1 (hl▸a.2) b hq hv (Bi hz) hw.1))
  |none=>
   exact(Sd.E fr lo ov.S i).bind λk ik=>Bd.bind λj hj=>listAt.bind λxs hx=>.guard λhz=>Jk.bind λS' hw=>.some (by
    rw[hw.2]
    exact AX.put rfl (AX.bind (AX.bind iv io λa b=>Fl a b) ik λa b=>.kg a.1 (hl▸a.2) (hj▸b) hx (Bi hz) hw.1))
theorem lj(BR:CG c)(Sd:Bl c d r):Ok (uH r fr lo S t e) (wG c d fr lo S t e p):=by
 induction t using Hg with
 |Name x xp=>exact k7 Sd
 |Tuple ts k tp=>exact k9 Sd
 |Attribute o x xp=>exact la BR Sd
 |Subscript o i xp=>exact lh BR Sd
 |_=>exact .none
theorem fX(h:Bz (CX fr x) isLocal=true):fr.scope.names.lookup x=some .local:=(A0 h).elim λk q=>O4 (DL q.2▸q.1)
theorem ll(Sd:Bl c d r):Ok (uI r fr lo S t op e) (yL c d fr lo S (.AugAssign t op e p)):=by
 cases op with
 |Add=>
  exact O6.bind λx hx=>.guard λhk=>Ok.self.bind λv hv=>Bd.bind λa ha=>(Sd.E fr lo S e).bind λy i=>Bd.bind λb hb=>Ho E8 λq j=>by
       rw[hx]
       exact AX.put j.2 (AX.imp i λi=>.aug (fX hk) ((D9 ..).symm.trans (ha▸hv)) (hb▸i) j.1)
 |_=>exact .none
theorem lq{x:Rx}(h:x.fl.C8=false)(q:x.fl=.next\/x.fl.GB=false):x.fl.GB=false:=q.elim (λw=>by rw[w] at h;rcases h with ⟨⟩) id
theorem fY(BR:CG c)(Sd:Bl c d r){st:Az}:Ok (ny r fr lo S st) (yL c d fr lo S st):=by
 induction st using Az.casesOn with
 |Pass=>exact .some (AX.mk .pass)
 |Break=>exact .some (AX.mk .brk)
 |Continue=>exact .some (AX.mk .cont)
 |Return o p=>induction o using BK with
  |none=>exact .some (AX.mk .Aag)
  |some e=>exact(Sd.E fr lo S e).bind λx i=>.some (AX.imp i .ret)
 |Expr e p=>exact .guard λhn=>(Sd.E fr lo S e).bind λx i=>.some (AX.imp i (.expr · hn))
 |If t a b p=>exact(Sd.T fr lo S t).bind λx i=>.cond (λh=>(MR Sd).mono λy j=>AX.bind i j λi j=>.ite (h▸i) j) λh=>(MR Sd).mono λy j=>AX.bind i j λi j=>.ite (h▸i) j
 |While t b oe p=>
  exact .guard λho=>Ok.bind Ok.self λx hx=>.some (by
   rw[Bj ho]
   exact λo=>have o':=eU▸o;⟨QG Sd x hx o',.pT Sd hx o'⟩)
 |For t it b oe p=>
  exact(UY Sd).bind λs i=>.guard λhz=>Ok.bind Ok.self λx hx=>.cond
   (λhn=>(MR Sd).mono λy j o=>have q:=(i hz).1 ((Nz Sd x hx).1 (j o).1);⟨q.1,.vk Sd q.2 (i hz).2 hx (j o).1 (.inl ⟨QC hn,(j o).2⟩)⟩)
   λhn=>.some λo=>have o':=eU▸o;have q:=(i hz).1 ((Nz Sd x hx).1 o');⟨q.1,.vk Sd q.2 (i hz).2 hx o' (.inr ⟨lq hn (Nz Sd x hx).2,rfl⟩)⟩
 |Assign ts e p=>exact BD.bind λt ht=>ht▸lj BR Sd
 |AugAssign t op e p=>exact ll Sd
 |FunctionDef n ps b ds rt tps sc ts bd p=>
  refine .guard λh=>Ok.bind Ok.self λfc hfc=>Ho (Ok.and (E8 (c:=c) (d:=d)) k6) λq j=>?_
  have h1:=Am h
  have h2:=Am h1
  have h3:=Am h2
  rw[<-BC (Ax h1),Bj (Ax h2),CN (Ax h3),Bj (Ax (Am h3)),CN (Am (Am h3))]
  exact AX.put j.1.2 (AX.mk (.Aav (Ax h) hfc j.1.1 j.2))
 |_=>exact .none
end
theorem ls{acc σ:List Int}{x:Int}(hl:acc.length=σ.length)(hk:∀k:Int,(acc.any λy=>decide (y=k))=σ.any (· ==k)):
  (cond (acc.any λy=>decide (y=x)) acc (x::acc)).length=(LS σ x).length/\∀k:Int,((cond (acc.any λy=>decide (y=x)) acc (x::acc)).any λy=>decide (y=k))=(LS σ x).any (· ==k):=by
 rw[hk x]
 unfold LS
 cases e:σ.any (· ==x) with
 |true=>exact⟨hl,hk⟩
 |false=>
  refine⟨by rw[AD BI,BO];exact Ai (· +1) hl,λk=>?_⟩
  rw[AD BI,List.any_append,<-hk k]
  show(decide (x=k)||_)=(_||((x==k)||false))
  rw[VV,Aa.or_comm]
  rfl
theorem fZ:∀{xs:List AV}{acc:List Int},Ok (Nc xs acc) λres=>∃is:List Int,xs=is.map .int/\∀σ:List Int,acc.length=σ.length->(∀k:Int,(acc.any λy=>decide (y=k))=σ.any (· ==k))->res.length=(is.foldl LS σ).length
 |[],acc=>.some ⟨[],rfl,λ_ hl _=>hl⟩
 |x::xs,acc=>Bd.bind λi hi=>fZ.mono λres h=>h.imp' (i :: ·) λis h=>⟨by rw[hi,h.1];rfl,λσ hl hk=>have q:=ls hl hk;h.2 _ q.1 q.2⟩
theorem Ag.Zs{π:Pl}{n:Nat}{h:Ay}:∀{is:List Int}{vs:List Ad},Ag π n h (is.map .int) vs->IntsAre vs is
 |[],vs,r=>by rw[r];exact .nil
 |i::is,vs,r=>AH r λv r=>r.elim λws r=>r.2.1.int.elim λt e=>by rw[r.1,e];exact .cons i t (Ag.Zs r.2.2)
theorem range_getD(is:List Int):(Cn is.length).map (λi=>is.getD i 0)=is:=by
 apply Rh
 ·simp
 ·intro i h1 h2
  simp at h1
  simp[HG,h1]
section
variable{c:Cx}{d:Nat}{fr:FD}{lo Bv BJ:Lo}{H H' EZ H1 H2 H3:List AO}
theorem aW{x:Str}{as:List Expr}{ks:List EN}:Ok (Hi fr x as ks) λe=>∃y yp p,as=[.Call (.Name y yp) [e] [] p]/\ks=[]/\bw fr x "len" =true/\bw fr y "set" =true:=
 .guard λhk=>BD.bind λa ha=>UX.bind λq hq=>.guard λhg=>BD.mono λe he=>hq.elim λyp hq=>hq.elim λp hq=>⟨q.1,yp,p,by rw[ha,hq,he],Bj hk,Ax hg,Am hg⟩
theorem lu(e:Expr):Ea [e]\/∃a p,e=.Starred a p:=by
 rcases e with ⟨⟩<;>first | exact .inr ⟨_,_,rfl⟩ | exact .inl (BL (n:=1) rfl).1
theorem aX{a:Expr}{p:Pos}{v:AV}(h:Bt c d fr lo H (.Starred a p) v H1){α:Type}{t:Sem α}{A:AG}{env:Env}{π:Pl}{s s₀:Aj}{E:EP}{Q:α->Aj->Prop}(R:A5 d A)(F:Bu π H.length fr env)(G:Av c π H s)(L:Br c π H.length s.heap env.locals lo):
  Ae c.m A t Q E s₀:=λΓ p hΓ=>(h A env π s (λ_ _=>Cd) R F G L Γ p hΓ).elim
theorem Bt.Hi{x y:Str}{xp p yp p':Pos}{e:Expr}{v:AV}{xs:List AV}{n:Nat}(hx:bw fr x "len" =true)(hy:bw fr y "set" =true)(he:Bt c d fr lo H e v H1)(hv:Jx c H1 v xs)(hn:∃is:List Int,xs=is.map .int/\n=(is.foldl LS []).length)(hsz:xs.length<1000):
  Bt c d fr lo H (.Call (.Name x xp) [.Call (.Name y yp) [e] [] p'] [] p) (.int n) H1:=by
 intro A env π s E R F G L
 have hst:Ea [.Call (.Name y yp) [e] [] p']:=λ_ _=>rfl
 refine Ac ((PE (S:=⟨H,true⟩) hx rfl rfl).use R F G L λcf s₁ π₁ P₁ F₁ L₁ r₁=>?_)
 rcases r₁.val with ⟨⟩
 rw[hst env p]
 refine IA rfl (λh x=>x) ?_
 have em:([.Call (.Name y yp) [e] [] p'].map λe=>(false,eval e env))=([.Call (.Name y yp) [e] [] p'].map λe=>eval e env).map λt=>(false,t):=rfl
 rw[em]
 refine Dd rfl ((lu e).elim (λhns=>?_) λq=>q.elim λa q=>q.elim λap q=>aX (q▸he) R F₁ P₁.g L₁)
 refine IC (QJ (PE hy rfl rfl) (.cons he .nil) hns .ty R F₁ P₁.g L₁ λcf cvs s₂ π₂ P₂ r₂ rv=>?_)
 rcases r₂.val with ⟨⟩
 refine Bm λGG fin=>AH rv λcv rv=>rv.elim λws rv=>(hv π₂ s₂ P₂.g cv rv.2.1).elim λb q=>q.elim λvs q=>hn.elim λis hi=>fin ?_
 rw[rv.1,rv.2.2,q.1]
 have hr:=q.2.2
 rw[hi.1] at hr hsz
 rw[AY] at hsz
 have hs:=hr.size.trans (AY ..)
 refine call_set_list R.handled q.2.1 hr.Zs (by unfold scanBound;exact(pw [.t .p (.k 1000),.e .q .p] (.t (.A .q (.k 1)) (.k 4096)) [] [_,_]) hsz hs) λh' tk hS hkp=>?_
 have K:Kp no s₂ {s₂ with heap:=h',toks:=tk}:=.of_keeps λy o e=>hkp y o (Ex e) e
 refine Ml (JY ⟨⟨.machine,.inr (.inl rfl),.now⟩,?_⟩)
 obtain ⟨o,es,ep,t,ho,hex,hd,hel,kC,hb,Aa2,hlen⟩:=hS
 have e1:n=es.size:=by
  rw[hlen,hi.2]
  unfold firstMet
  rw[hs,range_getD]
 exact call_len_set ho hex hd Aa2 (by unfold scanBound at hb;exact(pw [.t .p (.k 4096)] (.T (.n .p) (.j (2^63))) [] [_]) hb) ⟨π₂,(P₁.trans P₂).DU (K.trans .toks),e1▸.mkInt⟩
theorem XJ{x:Rt AV}:Ok (KO x) λy=>y.S=x.S/\∃xs n,y.v=.int (n:Nat)/\Jx c x.S.H x.v xs/\(∃is:List Int,xs=is.map .int/\n=(is.foldl LS []).length)/\xs.length<1000:=
 Bs.bind λxs hl=>fZ.bind λis h=>.guard λhz=>.some ⟨rfl,xs,is.length,rfl,hl,h.imp λis h=>⟨h.1,h.2 [] rfl λ_=>rfl⟩,Bi hz⟩
end
section
open Builtin Builtin.ObjectAttr
theorem aY:Ok (Cv fi as ks) λ_=>as.length<=fi.params.args.length:=
 .cond (λ_=>.guard λh=>.some (Bo (Cb (Am (Am h))).symm)) λ_=>.guard λh _ _=>(VS.mp (Am h)).elim (λq=>Bo (Cb q)) λq=>Cb q▸BF _ _
theorem arities:(D6++D7).all (λp=>Bz (FT p.2) λfi=>Bf fi.params.args.length 9)=true:=⋯
theorem f3(h:(m,a)∈D6++D7)(hf:FT a=some fi):fi.params.args.length<=9:=(A0 (BV.mp arities _ h)).elim λfi' q=>AQ (q.1.symm.trans hf)▸Bn q.2
theorem wH:Oi "function" "__get__" =some (some (.builtin "function.__get__")):=⋯
theorem wI:Oi "function" "__set__" =some none:=⋯
theorem wJ:Oi "function" "__delete__" =some none:=⋯
theorem aZ:(D6++D7).all (λp => !copiedNames.contains p.1)=true:=⋯
theorem findObj_fn{K:AI}(hh:OC K C=true)(ha:A7 K (.ref C) name=some (some (.ref f)))(ht:EV K (.ref f)=some (.type "function"))(hc:copiedNames.contains name=false)(hl:lookIn name od=some none):
  findObj K C (some od) name=some (.bind (.builtin "function.__get__") (.ref f)):=by
 have hn:OB K (.ref f) "__get__" =some (some (.builtin "function.__get__")):=by unfold OB;rw[ht,Gy];exact wH
 have htk:takesIn K (.ref f)=some false:=by
  delta takesIn OB
  rw[ht]
  show(match Oi "function" "__set__" with | some (some _)=>some true | some none=>(Oi "function" "__delete__").map Ab.isSome | none=>none)=_
  rw[wI,wJ];rfl
 obtain ⟨cd,hc',hd⟩ :∃cd,Iy K C=some cd/\cd.hasDict=true:=by
  unfold OC at hh
  cases q:Iy K C with
  |none=>rw[q] at hh;cases hh
  |some cd=>rw[q] at hh;exact⟨cd,rfl,hh⟩
 unfold findObj
 have ho:WS cd (some od) name=some none:=by unfold WS;rw[Bh hd];exact hl
 rw[hc',Gy,ha,Gy]
 show(OB K (.ref f) "__get__").bind _=_
 rw[hn]
 show(takesIn K (.ref f)).bind _=_
 rw[htk]
 show(WS cd (some od) name).bind _=_
 rw[ho]
 show(if (copiedNames.contains name&&_)=true then none else _)=_
 rw[hc]
 rfl
section
variable{c:Cx}{d:Nat}{fr:FD}{lo Bv BJ:Lo}{H H' EZ H1 H2 H3:List AO}
theorem lx{K:AI}{x f:Ah}{ox:Obj}{od:Ab Obj}{name:Str}{expr:Aa}(X:K.In s.heap)(I:InstAt s.heap x ox 249 od)
  (hga:A7 K (.ref 249) "__getattribute__" =some (some (.builtin "list.__getattribute__")))(hk:A7 K (.ref 249) "__getattr__" =some none)(hc:Iy K 249=some cd)(hm:cd.mro=[.ref 249,.type "list",.type "object"])
  (hf:findObj K 249 od name=some (.bind (.builtin "function.__get__") (.ref f)))(ht:EV K (.ref f)=some (.type "function"))(h:Q (.ref s.heap.objs.size) {s with heap:=s.heap.push (OA (.ref f) (.ref x)),toks:=s.toks+1}):Ae c.m A (getAttr (.ref x) name expr) Q E s:=by
 obtain ⟨j2,g,dd,t,os⟩:=s
 have L0:=I.type (M:=AW c.prog c.w)
 have L1:=Dr (M:=AW c.prog c.w) X hga
 have L2:=Dr (M:=AW c.prog c.w) X hk
 have L3:=looks_find (M:=AW c.prog c.w) X I hf
 refine Ac (RO (BE (Ac (L0.at (Ac (L1.at ?_))))))
 delta getAttrByItsOwn hookBefore callGetattribute boundAndCalled
 refine Ac (L2.at ?_)
 refine Ac (GZ (BE ?_))
 have e1:(expr&&onTheHeap (R7 "list.__getattribute__"))=false:=by rcases expr with ⟨⟩<;>rfl
 rw[e1,AD BI]
 refine Ac (Ci (R1.bind _) ?_)
 have sub:AR c.m j2 (Ik (.ref x) (.type "list")) true:=L0.andThen (Iz X (by unfold IB;rw[hc,Gy,AD (by rw[hm];decide),hm];rfl))
 refine DE (Rz R1.plain QL (@Mi c.m _ _ ⟨j2,g,dd,t+1,os⟩ "list.__getattribute__" "list" "__getattribute__" (.ref x) [.str name t] [] _ Uu QM sub (cY _ _) ?_))
 refine Ac (Ci rfl ?_)
 refine Ac (Ci rfl ?_)
 refine Ac (L0.at (Ac (L3.at ?_)))
 refine Ac (BE (DE (fn_get X ht ?_)))
 refine An ?_
 show Ae _ _ (handedOut _) _ _ _
 rw[handedOut_of rfl];exact An h
def Qk(c:Cx)(H:List AO)(o:AV)(m:Str)(a:Ah):Prop:=(m,a)∈D6++D7/\∀{A:AG}{π:Pl}{s:Aj}{E:EP}{cv:Ad}{Q:EP},Av c π H s->As π H.length s.heap o cv->
  (∀s' b,Kp no s s'->s.heap.get? b=none->s'.heap.get? b=some (OA (.ref a) cv)->Q (.ref b) s')->Ae c.m A (getAttr cv m true) Q E s
theorem wK(hp:p∈D6++D7):copiedNames.contains p.1=false:=HN (BV.mp aZ p hp)
theorem wL{Q:EP}(q:∀s' b,Kp no s s'->s.heap.get? b=none->s'.heap.get? b=some (OA (.ref a) cv)->Q (.ref b) s'):Q (.ref s.heap.objs.size) {s with heap:=s.heap.push (OA (.ref a) cv),toks:=s.toks+1}:=
 q _ _ (.of_keeps λ_ _ e=>B6 _ e) (Bx _ (AP _)) (Bp _ rfl)
theorem Qk.inst(Cl:Be c){l dl:Nat}(hH:H[l]?=some (.inst 165 dl))(hsh:Cw H dl m=true)(hm:(m,a)∈D6):Qk c H (.loc l) m a:=by
 refine⟨N0 _ hm,λ{A π s E cv Q} G rv q=>?_⟩
 have f:=Cl.v.ms _ hm
 have nc:=wK (N0 D7 hm)
 refine Bm λGG fin=>(Jn G hsh).elim λod z=>(G.objs l _ hH).elim λsl y=>fin ?_
 rw[rv.loc.2] at q ⊢
 have I:InstAt s.heap (π.at' l) ⟨.ref 165,some (π.at' dl),.plain,sl⟩ 165 (some od):=⟨y.1,rfl,rfl,z.1⟩
 have X:=c.DA G
 refine get_bind X I Cl.v.ga (findObj_fn Cl.v.dict f.1 f.2 nc z.2) Cl.v.hk (DE (fn_get X f.2 ?_))
 show Ae _ _ (handedOut _) _ _ _
 rw[handedOut_of rfl];exact An (wL q)
theorem Qk.acc(Cl:Be c){l dl:Nat}{a:Ah}(hH:H[l]?=some (.acc dl xs))(hsh:Cw H dl m=true)(hm:(m,a)∈D7):Qk c H (.loc l) m a:=by
 refine⟨LB _ hm,λ{A π s E cv Q} G rv q=>?_⟩
 have f:=Cl.a.ms _ (N0 _ hm)
 have nc:=wK (LB D6 hm)
 refine Bm λGG fin=>(Jn G hsh).elim λod z=>(G.objs l _ hH).elim λvs y=>y.elim λkk y=>y.elim λsl y=>Cl.a.mro.elim λcd w=>fin ?_
 rw[rv.loc.2] at q ⊢
 have I:InstAt s.heap (π.at' l) ⟨.ref 249,some (π.at' dl),.seq vs kk,sl⟩ 249 (some od):=⟨y.1,rfl,rfl,z.1⟩
 exact lx (c.DA G) I Cl.a.ga Cl.a.hk w.1 w.2 (findObj_fn Cl.a.dict f.1 f.2 nc z.2) f.2 (wL q)
theorem ly(Cl:Be c):Ok (OS S v m) λk=>∀a,k=.fn a->Qk c S.H v m a:=by
 induction v using AV.casesOn with
 |int i=>exact I1 (l:=mI) (λm k=>∀a,k=.fn a->Qk c S.H (.int i) m a) ⟨nofun,trivial⟩
 |str x=>exact I1 (l:=mS) (λm k=>∀a,k=.fn a->Qk c S.H (.str x) m a) ⟨nofun,nofun,nofun,nofun,trivial⟩
 |lst xs=>exact I1 (l:=mL) (λm k=>∀a,k=.fn a->Qk c S.H (.lst xs) m a) ⟨nofun,trivial⟩
 |loc l=>
  refine Ok.self.bind λo hH=>?_
  induction o using AO.casesOn with
  |inst C dl=>
   refine .guard λh=>Ok.self.bind λa ha=>.some λa' e=>?_
   obtain rfl:C=165:=Cb (Ax h)
   exact Sy.fn.inj e▸.inst Cl hH (Am h) (SP ((D9 ..).symm.trans ha))
  |acc dl xs=>
   refine .guard λh=>Ok.mono (I1 (λm k=>∀a,k=.fn a->(m,a)∈D7) ⟨λa e=>Sy.fn.inj e▸.head _,λa e=>Sy.fn.inj e▸.tail _ (.head _),λa e=>Sy.fn.inj e▸.tail _ (.tail _ (.head _)),λa e=>Sy.fn.inj e▸.tail _ (.tail _ (.tail _ (.head _))),nofun,nofun,nofun,trivial⟩) λk q a e=>.acc Cl hH h (q a e)
  |list xs=>exact I1 (l:=mO) (λm k=>∀a,k=.fn a->Qk c S.H (.loc l) m a) ⟨nofun,nofun,nofun,trivial⟩
  |_=>exact .none
 |_=>exact .none
theorem lz(ht:Ek s.heap a vs)(hz:vs.size<=BY)(h:∀s',Kp no s s'->Q vs.toList s'):StarOf c.m A E (.ref a) Q s:=by
 obtain ⟨o,ho,hc,n,hd⟩:=ht
 have yY:s.TypeIs (.ref a) "tuple" :=⟨o,ho,hc⟩
 have z:Ae c.m A (collect (.ref a)) Q E s:=wpAny_collect_seq a (.inr rfl) ho hc hd (λh' hk=>h _ (.of_keeps hk)) hz
 exact Ac (J0 yY PySem.F.slot_tuple_iter.lookup (An ⟨rfl,z⟩))
theorem Bt.wM(Fs:EA c)(ho:Bt c d fr lo H o ov H1)(hb:baseOk o=true)(hg:Qk c H1 ov m a)(he:Bt c d fr lo H1 e (.tup vs) H2)
  (hf:FT a=some fi)(hlen:(ov::vs).length<=9)(run:CoP c d fr.wr H2 a (ov::vs) [] v H3):Bt c (d+1) fr lo H (.Call (.Attribute o m ap) [.Starred e sp] [] p) v H3:=by
 intro A env π s E R F G L
 have R0:=R.le (Dw _)
 rw[RL,GD hb]
 refine Ac (ho.use R0 F G L λco s₁ π₁ P₁ F₁ L₁ r₁=>Ac (DN ?_))
 delta Mb calleeOf
 have Px:Oe ([Expr.Starred e sp].length+([]:List EN).length) (J6 p (G4 [.Starred e sp] env)) (Fi p (Fh [] env))=false:=rfl
 rw[Px]
 refine Ac (BE ?_)
 rw[AD BI]
 refine Ac (hg.2 P₁.g r₁ λs₂ b K qW qm=>An ?_)
 have Xu:J1 false o env ap p=R9 p:=rfl
 refine Ac (Ci Xu ?_)
 have kx:=P₁.DU K
 have bM:=P₁.g.fresh qW
 refine ks_call (P:=λh=>h.get? b=some (OA (.ref a) co)/\c.K.In h) rfl (λh q=>⟨.boundFrame,.inr (.inr rfl),(D4 q.1).andThen ((Fs.fn a fi hf).elim λof z=>z.elim λfd z=>(D4 (q.2 _ _ z.1)).andThen ?_)⟩) (ks_lone ?_)
 ·rw[z.2.1];exact .now
 refine he.use R0 F₁ kx.g (L₁.DU P₁.g K) λcv s₃ π₃ P₃ F₃ L₃ r₃=>r₃.tup.elim λtb z=>z.elim λtvs z=>?_
 rw[z.1]
 have hz:tvs.size<=BY:=AA (Bo z.2.2.2.size) (AA (Wi hlen) ⋯)
 refine lz z.2.1 hz λs₄ K₄=>?_
 have b3:=P₃.kp.keep b _ (λx=>bM (x.resolve_left nofun)) (kx.g.tabs.D5 qm nofun) qm
 have b4:=K₄.keep b _ id (P₃.g.tabs.D5 b3 nofun) b3
 have P₄:=P₃.DU K₄
 exact⟨⟨b4,c.DA P₄.g⟩,DE (method_call b4 (codeAny_mono (run A π₃ s₄ E (co::tvs.toList) [] R F₃.wr P₄.g (.cons ((r₁.DU K P₁.g.tabs).pg P₄ kx.g) (z.2.2.2.DU K₄ P₃.g.tabs)) .nil) (QE λv s' q=>q.imp λπ₅ q=>⟨(kx.trans P₄).trans q.1,q.2⟩)))⟩
end
end
section
variable{c:Cx}{d:Nat}{fr:FD}{lo Bv BJ:Lo}{H H' EZ H1 H2 H3:List AO}
theorem XK(h:Fu i=none)(o x:Ad):Oh i false o x=operate [o,x] (Me o x):=by
 rcases i with ⟨⟩<;>first | rfl | rcases h with ⟨⟩
theorem Eg.qY(BR:CG c):Eg c (.val (.ref 165)):=λH π s cf G r=>by
 rcases r.val with ⟨⟩
 have M:=makes_of (M:=AW c.prog c.w) (c.DA G) BR.acc.mkO
 exact M.obj.elim λoc z=>z.elim λod z=>z.elim λcd z=>z.elim λsl z=>⟨.machine,.inr (.inl rfl),(D4 z.1).andThen (M.call.andThen .now)⟩
theorem Eg.qZ(BR:CG c):Eg c (.val (.ref 249)):=λH π s cf G r=>by
 rcases r.val with ⟨⟩
 have M:=QT (M:=AW c.prog c.w) (c.DA G) BR.acc.mkL
 exact M.obj.elim λoc z=>z.elim λod z=>z.elim λcd z=>z.elim λsl z=>⟨.machine,.inr (.inl rfl),(D4 z.1).andThen (M.call.andThen .now)⟩
theorem Ok.all{o:Ab α}(h:P):Ok o λ_=>P:=λ_ _=>h
theorem XM(BR:CG c):Ok (A9 r wr f as ks S) λ_=>Eg c f:=by
 induction f using AV.casesOn with
 |val v=>
  induction v using R6 with
  |ref a=>exact .cond (λh=>.all (Cb h▸.qY BR)) λ_=>.cond (λh=>.all (Cb h▸.qZ BR)) λ_=>.cond (λ_=>.guard λ_=>Ok.self.bind λfi hf=>.all (.fn BR.fns hf)) λ_=>Ok.self.bind λfi hf=>.all (.fn BR.fns hf)
  |builtin n=>exact .all .bi
  |type n=>exact .all .ty
  |_=>exact .none
 |BH k=>exact .all .BH
 |_=>exact .none
theorem XN:Ok (Nv as) λe=>∃sp,as=[.Starred e sp]:=BD.bind λa ha=>by
 rcases a with ⟨⟩<;>first | exact .none | exact .some ⟨_,ha⟩
theorem XO(BR:CG c):Ok (IM r wr k o as S) λ_=>Eg c (.val (I0 k)):=by
 cases k with
 |fn a=>exact Ok.self.bind λfi hf=>.all (.fn BR.fns hf)
 |pop=>exact .all ((GH vR).elim λfi q=>q.elim λb q=>.fn BR.fns q.1)
 |parts=>exact .all ((GH qn).elim λfi q=>q.elim λb q=>.fn BR.fns q.1)
 |bi b=>exact .all .bi
theorem bz(h:AX S x.S (Bt c d fr lo S.H e x.v x.S.H)):jF c (d+4) fr lo S e x:=AX.imp h (·.le (BF _ 4))
theorem lA(Sd:Bl c d r):Ok (pz r fr lo S a ops bs) (jF c d fr lo S (.Compare a ops bs p)):=by
 unfold pz
 cases h1:one ops with
 |some op=>exact BD.bind λb hb=>(Sd.E fr lo S a).bind λx i=>(NB Sd).bind λy j=>.some (by rw[BD _ h1,hb];exact AX.bind i j.2 λi k=>.cmp i k.1 k.2 j.1)
 |none=>
  exact Ms.bind λo ho=>Ms.bind λb hb=>.guard λhn=>(Sd.E fr lo S a).bind λx i=>(NB Sd).bind λy j=>by
   rw[ho,hb]
   exact .cond (λht=>(NB Sd).bind λz k=>.some (AX.bind (AX.bind i j.2 Fl) k.2 λp q=>.wC p.1 p.2.1 p.2.2 (PF hn) (λ_=>⟨z.v.1,q.1,q.2⟩) λh=>nomatch h.symm.trans ht))
    λhf=>.some (AX.bind i j.2 λi k=>.wC i k.1 k.2 (PF hn) (λh=>nomatch h.symm.trans hf) λ_=>⟨rfl,rfl⟩)
theorem f6(Sd:Bl c d r):Ok (nj r fr lo S op es) (jF c d fr lo S (.BoolOp op es p)):=Ms.bind λq hq=>(Sd.E fr lo S q.1).bind λx i=>Qy.bind λb hb=>by
 rw[hq]
 cases op with
 |And=>exact .cond (λh=>(Sd.E fr lo x.S q.2).mono λy j=>AX.bind i j λi j=>.YL rfl (hb▸i) (λ_=>j) λw=>AL h w) λh=>.some (AX.imp i λi=>.YL rfl (hb▸i) (λw=>nomatch w.symm.trans h) λ_=>⟨Ai AV.bool h.symm,rfl⟩)
 |Or=>exact .cond (λh=>.some (AX.imp i λi=>.YL rfl (hb▸i) (λw=>nomatch w.symm.trans h) λ_=>⟨Ai AV.bool h.symm,rfl⟩)) λh=>(Sd.E fr lo x.S q.2).mono λy j=>AX.bind i j λi j=>.YL rfl (hb▸i) (λ_=>j) λw=>AL h w
theorem Zt:Ok (pe e) λi=>∃k p,e=.Constant (.int i) k p:=by
 induction e using Hg with
 |Constant v k p=>cases v with
  |int i=>exact .some ⟨k,p,rfl⟩
  |_=>exact .none
 |_=>exact .none
theorem f9(h:DS c d fr lo H k i H')(e:Dz i=true):k=none/\H'=H:=by
 induction k using BK with
 |none=>exact⟨rfl,h.2⟩
 |some x=>exact AH h λj h=>by rw[h.1] at e;rcases e with ⟨⟩
theorem a6(BR:CG c):Ok (Xb S v l u) λy=>AX S y.S (Bt c d fr lo H e v H1->DS c d fr lo H1 lower l H2->DS c d fr lo H2 upper u S.H->Bt c d fr lo H (.Subscript e (.Slice lower upper none p) q) y.v y.S.H):=by
 induction v using AV.casesOn with
 |str x=>exact .some (AX.need λh he hl hu=>.pN he hl hu (Bi h))
 |tup xs=>
  induction l using BK with
  |none=>exact .none
  |some i=>
   exact .guard λh=>.some (AX.mk λhe hl hu=>by
         have hi:=Bi (Am h)
         have z:=f9 hu (Ax h)
         rw[z.1,z.2]
         exact .pO he hl hi.1 hi.2.1 hi.2.2)
 |lst xs=>exact .guard λh=>.some (AX.mk λhe hl hu=>.eF he hl hu (Bs _ rfl) (Bi h))
 |loc lc=>
  refine Ok.bind (P:=λxs=>Jx c S.H (.loc lc) xs\/∃dl,S.H[lc]?=some (.acc dl xs)) (Ok.self.bind λo ho=>?_) λxs hx=>.guard λh=>.some (AX.mk λhe hl hu=>hx.elim (λhv=>.eF he hl hu hv (Bi h)) λhv=>hv.elim λdl hv=>.fv BR.cls he hl hu hv (Bi h))
  induction o using AO.casesOn with
  |list xs=>exact .some (.inl (Bs _ (by show(S.H[lc]?).bind CW=_;rw[ho];rfl)))
  |acc dl xs=>exact .some (.inr ⟨dl,ho⟩)
  |_=>exact .none
 |_=>exact .none
theorem lB(BR:CG c)(Sd:Bl c d r):Ok (ai r fr lo S o i) (jF c d fr lo S (.Subscript o i p)):=(Sd.E fr lo S o).bind λx ix=>by
 cases hs:Fu i with
 |none=>exact(Sd.E fr lo x.S i).bind λk ik=>(jP (j6 BR.cls)).bind λv hv=>.some (AX.bind ix ik λa b=>.sub a b hv (XK hs))
 |some t=>
  refine(QV _ hs).elim λsp z=>?_
  rw[z]
  obtain ⟨t1,t2,t3⟩:=t
  induction t3 using BK with
  |none=>exact(Ta Sd).bind λl il=>(Ta Sd).bind λu iu=>(a6 BR).mono λy k=>AX.bind (AX.bind (AX.bind ix il Fl) iu Fl) k λp f=>f p.1.1 p.1.2 p.2
  |some st=>exact Ok.self.bind λl hl=>Zt.bind λi hi=>Zt.bind λk hk=>(Bs).bind λxs hx=>.guard λh=>.some (by
    have hh:=Bi (Ax h)
    rw[hl,CN (Am h)]
    exact hi.elim λk1 hi=>hi.elim λp1 hi=>hk.elim λk2 hk=>hk.elim λp2 hk=>by
     rw[hi,hk,hh.1]
     exact AX.bind ix (AX.need λh=>Bi h) λa b=>.qT a hx hh.2 b)
theorem JG.le(ek:JG c d fr lo H ks kv H1):JG c (d+4) fr lo H ks kv H1:=⟨ek.1,λA env π pos s E R=>ek.2 A env π pos s E (R.le (BF d 4))⟩
theorem gc(BR:CG c)(Sd:Bl c d r)(So:Zo c d r):Ok (Ub r fr lo S x as ks) (jF c (d+4) fr lo S (.Call (.Name x xp) as ks p)):=by
 unfold Ub
 cases hl:Hi fr x as ks with
 |some e=>
  exact(Sd.E fr lo S e).bind λy i=>XJ.mono λz q=>(aW _ hl).elim λn w=>w.elim λyp w=>w.elim λp' w=>q.2.elim λxs q2=>q2.elim λk q2=>by
   have e1:z=⟨.int k,y.S⟩:=by rw[<-q2.1,<-q.1]
   rw[w.1,w.2.1,e1]
   exact bz (AX.imp i λi=>.Hi w.2.2.1 w.2.2.2 i q2.2.1 q2.2.2.1 q2.2.2.2)
 |none=>
  exact .guard λhn=>(IX).bind λf hf=>(Mv Sd).bind λvs i=>(jU Sd).bind λkv j=>(Ok.and (UT BR Sd So) (XM BR)).mono λz q=>
   AX.bind (AX.bind i.1 j Fl) q.1 λa b=>.Ub hf (a.1.le (BF d 4)) a.2.le (BL hn).1 q.2 b
theorem gd(h:nk k=some a):k=.fn a:=by
 cases k with
 |fn b=>exact Ai Sy.fn (AQ h)
 |_=>rcases h with ⟨⟩
theorem a7(BR:CG c)(Sd:Bl c d r)(hb:baseOk o=true)(hl:(ap.endLine==p.line)=true):Ok (SH r fr lo S o m as) (jF c (d+4) fr lo S (.Call (.Attribute o m ap) as [] p)):=
 (Sd.E fr lo S o).bind λx ix=>Ok.bind Ok.self λk hk=>by
  cases hs:Nv as with
  |some e=>
   exact(Sd.E fr lo x.S e).bind λy iy=>Fv.bind λvs hv=>Ok.bind Ok.self λa ha=>Ok.bind Ok.self λfi hf z hz=>by
    have gb:=ly BR.cls _ hk a (gd ha)
    have hlen:=(FA hz).elim λbs q=>AA (aY _ q.1) (f3 gb.1 hf)
    refine(XN _ hs).elim λsp w=>?_
    rw[w]
    exact AX.bind (AX.bind ix iy Fl) (Pe BR.fns Sd hf z hz) λp q=>(Bt.wM BR.fns p.1 hb gb (hv▸p.2) hf hlen q).le (BF _ 3)
  |none=>
   exact .guard λhn=>(Mv Sd).bind λvs i=>(Ok.and (fR BR Sd) (XO BR)).mono λz q=>
    AX.bind (AX.bind ix i.1 Fl) q.1 λa b=>.vV (a.1.le (BF d 4)) hb hl (UE BR.cls _ hk) (a.2.le (BF d 4)) (BL hn).1 q.2 (BL hn).2 b
theorem gf(BR:CG c)(Sd:Bl c d r)(So:Zo c d r):Ok (nt r fr lo S e) (jF c (d+4) fr lo S e):=by
 induction e using Hg with
 |Name x p=>exact IX.bind λv h=>.some (AX.mk h)
 |Constant v k p=>exact GC.bind λv h=>.some (AX.mk h)
 |BinOp a op b p=>exact(Sd.E fr lo S a).bind λx i=>(Sd.E fr lo x.S b).bind λy j=>jN.mono λz k=>bz (AX.bind (AX.bind i j Fl) k λp q=>by rw[q.1];exact .bin p.1 p.2 q.2)
 |UnaryOp op a p=>
  cases op with
  |USub=>exact(Sd.E fr lo S a).bind λx i=>Bd.bind λk hk=>.some (bz (AX.imp i λi=>.neg (hk▸i)))
  |Not=>exact(Sd.E fr lo S a).bind λx i=>(Zn BR).bind λb hb=>.some (AX.imp i λi=>(Bt.Aa0 (i.le (BF _ 2)) hb).le (BF _ 2))
  |_=>exact .none
 |Compare a ops bs p=>exact(lA Sd).mono λx i=>bz i
 |BoolOp op es p=>exact(f6 Sd).mono λx i=>bz i
 |IfExp t a b p=>exact(Sd.T fr lo S t).bind λx i=>.cond (λh=>(Sd.E fr lo x.S a).mono λy j=>bz (AX.bind i j λi j=>.ite (h▸i) j)) λh=>(Sd.E fr lo x.S b).mono λy j=>bz (AX.bind i j λi j=>.ite (h▸i) j)
 |List es p=>exact .guard λhn=>(Mv Sd).bind λx i=>.some (bz (AX.imp i.1 λj=>.list j (BL hn).1 (i.2▸Zq (BL hn).2)))
 |Tuple es k p=>exact .guard λhn=>(Mv Sd).bind λx i=>.some (bz (AX.imp i.1 λj=>.tuple j (BL hn).1 (i.2▸Zq (BL hn).2)))
 |Lambda ps body sc p=>exact .guard λhd=>(Bt.qc hd).bind λfc h=>.some (AX.mk h)
 |ListComp elt gs sc p=>exact(UZ Sd).mono λx i=>bz (AX.imp i λi=>i.elim λt i=>i.elim λit i=>i.elim λifs i=>by rw[i.1];exact .comp (i.2 p))
 |Attribute o x p=>exact .guard λhb=>(Sd.E fr lo S o).bind λy i=>(fq BR.cls).bind λa ha=>.some (bz (AX.imp i λi=>.attr i hb ha))
 |Subscript o i p=>exact(lB BR Sd).mono λx i=>bz i
 |Call f as ks p=>
  induction f using Hg with
  |Name x xp=>exact gc BR Sd So
  |Attribute o m ap=>exact .guard λh=>by rw[Bj (Ax h)];exact a7 BR Sd (Ax (Am h)) (Am (Am h))
  |_=>exact .none
 |_=>exact .none
end
abbrev KI:=AV×(Int×Int)
def gg(p q:KI):Prop:=BP p.2 q.2=true
theorem Zu:∀{acc:List KI},Ok (af x k acc) λW9=>acc.Pairwise gg->W9.Perm ((x,k)::acc)/\W9.Pairwise gg
 |[]=>.some λ_=>⟨.refl _,List.pairwise_singleton _ _⟩
 |p::t=>.cond (λq=>.some λhp=>⟨.refl _,FK.mpr ⟨λz hz=>(Bc.mp hz).elim (λe=>by rw[e];exact q) λhz=>IF q ((FK.mp hp).1 z hz),hp⟩⟩)
   λ_=>.cond (λq=>Zu.bind λt' i=>.some λhp=>have w:=i (FK.mp hp).2;⟨(Rj.cons _ w.1).trans (Rj.swap _ _ _),FK.mpr ⟨λz hz=>(Bc.mp (w.1.mem_iff.mp hz)).elim (λe=>by rw[e];exact q) ((FK.mp hp).1 z),w.2⟩⟩) λ_=>.none
theorem U0:∀{ps acc:List KI},Ok (OR ps acc) λr=>acc.Pairwise gg->r.Perm (ps++acc)/\r.Pairwise gg
 |[],acc=>.some λh=>⟨.refl _,h⟩
 |p::ps,acc=>Zu.bind λW9 i=>U0.mono λr j h=>have w:=i h;have z:=j w.2;⟨z.1.trans ((Rj.append_left _ w.1).trans List.perm_middle),z.2⟩
section
variable{prog:Dq}{w:DG}{A:AG}{E:EP}{s:Aj}
set_option backward.match.sparseCases true in
theorem Ql{n:Nat}(hh:A.handled=none)(hr:PySem.IsRange s.heap r a b 1 t u v)(hsmall:RY a b 1=true)(hn:E4 a b 1=n)(hlen:n<=2^24)
  (hQ:∀h' tk vs,(∀b o,s.heap.get? b=some o->h'.get? b=some o)->ItemsOf (λi v=>∃t,v=.int (a+i*1) t) vs n->Q vs.toList {s with heap:=h',toks:=tk}):Ae (AW prog w) A (collect (.ref r)) Q E s:=by
 refine Ac (wpAny_runValue (LW PySem.F.entry_proto_collect ?_))
 rw[Kc PySem.F.plain_proto_collect _]
 refine Ac (Ew ?_)
 refine An ⟨Gc c8 _,LW PySem.F.entry_list_iadd ?_⟩
 rw[Kc c8 _]
 have hS:(s.heap.push {cls:=.type "list",data:=.seq ([]:List Ad).toArray}).get? s.heap.objs.size=some {cls:=.type "list",data:=.seq #[] 0}:=Bp _ rfl
 have eY:∀h' tk acc c',(∀b o,b≠s.heap.objs.size->(s.heap.push {cls:=.type "list",data:=.seq ([]:List Ad).toArray}).get? b=some o->h'.get? b=some o)->h'.get? s.heap.objs.size=some {cls:=.type "list",dict:=none,data:=.seq acc c',slots := #[]}->
   ItemsOf (λi v=>∃t,v=.int (a+i*1) t) acc n->Ae (AW prog w) A (match Bq s.heap.objs.size with
   |Bq a=>do
    match (<-load a).data with
     |Sb xs _=>pure xs.toList
     |_=>RP "internal:collect"
   |_=>RP "internal:collect") Q E {s with heap:=h',toks:=tk}:=λh' tk acc c' hk jc hacc=>by
  refine Ac (Oj jc ?_)
  exact An (hQ h' tk acc (λb o e=>hk b o (EI (Ex e)) (B6 _ e)) hacc)
 refine AJ (wpAny_extend_range (R:=λr s'=>∃h' tk acc c',r=.ok (.ret (.ref s.heap.objs.size))/\s'={s with heap:=h',toks:=tk}/\
   (∀b o,b≠s.heap.objs.size->(s.heap.push {cls:=.type "list",data:=.seq ([]:List Ad).toArray}).get? b=some o->h'.get? b=some o)/\h'.get? s.heap.objs.size=some {cls:=.type "list",dict:=none,data:=.seq acc c',slots := #[]}/\ItemsOf (λi v=>∃t,v=.int (a+i*1) t) acc n)
  hh (B6 _ hr) hsmall hn hlen s.heap.objs.size _ 0 hS λh' tk W9 c' hk jc hacc=>⟨h',tk,W9,c',rfl,rfl,hk,jc,hacc⟩) (λfin s' h=>?_) (λe s' h=>?_)
 ·cases fin with
  |done f=>
   obtain ⟨h',tk,acc,c',e,rfl,h1,h2,h3⟩:=h
   rcases e with ⟨⟩
   exact eY h' tk acc c' h1 h2 h3
  |again c'=>exact⟨h.1,codeAny_mono h.2 λr HM hr=>by obtain ⟨h',tk,acc,c',rfl,rfl,h1,h2,h3⟩:=hr;exact eY h' tk acc c' h1 h2 h3⟩
 ·obtain ⟨_,_,_,_,e,_⟩:=h;rcases e with ⟨⟩
theorem a8(hx:Ek s.heap x xs)(hy:Ek s.heap y ys)(ex:xs.toList=[.int a t,.int b u])(ey:ys.toList=[.int a' t',.int b' u'])
  (h:Q (BP (a,b) (a',b')) s):Ae (AW prog w) A (keyLt' (tuples' true) (.ref x) (.ref y)) Q E s:=by
 obtain ⟨ox,hox,_,n,dx⟩:=hx
 obtain ⟨oy,hoy,_,m,dy⟩:=hy
 refine kat_lt hox dx hoy dy ?_
 have sx:xs.size=2:=by rw[<-Dt,ex];rfl
 have sy:ys.size=2:=by rw[<-Dt,ey];rfl
 rw[sx,sy,ex,ey]
 refine kat_cons (wpAny_eqBool_int ?_)
 cases q:(a==a') with
 |true=>
  have q':a=a':=by simpa using q
  refine kat_yes (kat_cons (wpAny_eqBool_int ?_))
  cases z:(b==b') with
  |true=>
   have z':b=b':=by simpa using z
   refine kat_yes (kat_nil ?_)
   rw[q',z',Mp] at h
   exact h
  |false=>
   refine kat_no (kat_one _ _ ?_)
   have:BP (a,b) (a',b')=decide (b<b'):=by unfold BP;simp[q']
   rw[this] at h
   exact Rv h
 |false=>
  have q':¬ a=a':=by simpa using q
  refine kat_no ?_
  have:BP (a,b) (a',b')=decide (a<a'):=by unfold BP;simp[q']
  rw[this] at h
  exact oneLt_int h
end
theorem getD_at{α:Type}{l:List α}(h:i<l.length)(d:α):l.getD i d=l[i]:=by rw[HG,HU h] at ⊢;rfl
theorem Ag.picks{h:Ay}(r:Ag π n h xs vs):∀{l:List Nat},(∀i∈l,i<xs.length)->Ag π n h (l.map λi=>xs.getD i AV.none) (l.map λi=>vs.getD i D2)
 |[],_=>.nil
 |i::l,h=>.cons ((r.get (HU (h i (CT ..)))).elim λv q=>by
   show As π n _ (xs.getD i AV.none) (vs.getD i D2)
   rw[getD_at (h i (CT ..)),HG,q.1] at ⊢;exact q.2) (Ag.picks r λj hj=>h j (Ee _ hj))
theorem Ag.n5:∀{xs:List AV}{vs:List Ad},xs.length=vs.length->(∀(i:Nat)(x:AV)(v:Ad),xs[i]?=some x->vs[i]?=some v->As π n h x v)->Ag π n h xs vs
 |[],[],_,_=>.nil
 |[],_::_,e,_=>nomatch e
 |_::_,[],e,_=>nomatch e
 |x::xs,v::vs,e,k=>.cons (k 0 x v rfl rfl) (Ag.n5 (He e) λi y w h1 h2=>k (i+1) y w h1 h2)
theorem U1(hn:(b-a).toNat=n):(W8 a b).length=n:=by unfold W8;rw[AY,GV,hn]
theorem gh(hi:ItemsOf (λi v=>∃t,v=.int (a+i*1) t) vs n)(hn:(b-a).toNat=n):Ag π m h (W8 a b) vs.toList:=
 Ag.n5 ((U1 hn).trans (by rw[Dt,hi.1])) λi x v h1 h2=>(hi.2 i v (by rw[<-Q1] at ⊢;exact h2)).elim λt e=>by
  unfold W8 at h1
  rw[F3] at h1
  have IZ:i<(b-a).toNat:=by rw[hn,<-hi.1,<-Dt];exact(NZ.mp h2).1
  rw[b7 IZ] at h1
  rcases h1 with ⟨⟩
  rw[e,Fd]
  exact .mkInt
theorem q0{ps:List KI}(h:i<ps.length):((ps.map (·.1)).getD i AV.none,(ps.map (·.2)).getD i (0,0))=ps[i]:=by
 rw[getD_at (by rw[AY];exact h),getD_at (by rw[AY];exact h),LI,LI]
theorem a9{qs ps:List KI}(hperm:ps.Perm qs)(hs:ps.Pairwise gg)(P:Pm qs.length p)(ha:TS (λi=>(qs.map (·.2)).getD i (0,0)) p qs.length):
  ps.map (·.1)=p.toList.map λi=>(qs.map (·.1)).getD i AV.none:=by
 have hL:(p.toList.map λi=>((qs.map (·.1)).getD i AV.none,(qs.map (·.2)).getD i (0,0))).Perm qs:=by
  refine((Q0.mp P.perm).map _).trans (.of_eq (Rh ?_ λi h1 h2=>?_))
  ·rw[AY,Rc,GV]
  ·rw[LI]
   simp only[Rc,Rd]
   exact q0 h2
 have hP:(p.toList.map λi=>((qs.map (·.1)).getD i AV.none,(qs.map (·.2)).getD i (0,0))).Pairwise gg:=by
  rw[List.pairwise_iff_getElem]
  intro i j hi hj hij
  rw[AY,Dt] at hi hj
  have hq:=ha i j hij (by rw[<-P.size];exact hj)
  unfold Lt at hq
  simp only[LI,AE.getElem_toList]
  simp only[AE.getD,hi,hj,dif_pos] at hq
  exact hq
 rw[Rj.eq_of_pairwise (λx y _ _ h1 h2=>nomatch (IF h1 h2).symm.trans Mp) hs hP (hperm.trans hL.symm),F6];rfl
theorem q5{qs ps:List KI}(hperm:ps.Perm qs)(hs:ps.Pairwise gg):Inj qs.length λi=>(qs.map (·.2)).getD i (0,0):=by
 have h1:(ps.map (·.2)).Nodup:=List.pairwise_map.mpr (hs.imp λ{x y} h e=>by unfold gg at h;rw[e,Mp] at h;rcases h with ⟨⟩)
 have h2:=(hperm.map (·.2)).nodup_iff.mp h1
 have hl:(qs.map (·.2)).length=qs.length:=AY ..
 exact λi j hi hj e=>(List.getElem_inj h2).mp ((getD_at (hl.symm▸hi) _).symm.trans (e.trans (getD_at (hl.symm▸hj) _)))
section
variable{c:Cx}{d:Nat}
def gj(c:Cx)(d:Nat)(k:Sq)(n:Nat)(S:St)(xs:List AV)(y:Rt (List KI)):Prop:=y.v.map (·.1)=xs/\AX S y.S
 (∀{q:Ad}{A:AG},A5 (d+1) A->∀{π₁:Pl}{H₁:List AO}{s₁:Aj}{E:EP}{kS:Ah}{body:Ad->EX->Sem (En EX)},H₁.length=n+2->π₁.at' (n+1)=kS->
  (∀x (s:Aj)(Q:En EX->Aj->Prop),Ae c.m A (call q [x]) (λkv s'=>∃vs e,s'.heap.get? kS=some (DZ "list" vs e)/\vs.size<64/\Q (.yield ⟨⟩) {s' with heap:=s'.heap.update kS (C6 (·.push kv))}) (λ_ _=>Cd) s->Ae c.m A (body x ⟨⟩) Q E s)->
  ∀{kz0:List (Int×Int)}{vs:List Ad}{π:Pl}{s:Aj},PG c (n+1) none π₁ H₁ s₁ S.H π s->S.H[n+1]?=some (.list (kz0.map JF))->kz0.length+xs.length<64->As π S.H.length s.heap (.BH k) q->Ag π S.H.length s.heap xs vs->
   Ae c.m A (forIn vs EX.unit body) (λ_ s'=>∃π',PG c (n+1) none π₁ H₁ s₁ y.S.H π' s'/\y.S.H[n+1]?=some (.list ((kz0++y.v.map (·.2)).map JF))) E s)
theorem U2(Sd:Bl c d r):∀{xs:List AV}{S:St},Ok (dP r k n S xs) (gj c d k n S xs)
 |[],S=>.some ⟨rfl,AX.mk λ{q A} R {π₁ H₁ s₁ E kS body} hH hat hb {kz0 vs π s} P hS hsz rq rx=>by
   rw[rx,LL]
   exact An ⟨π,P,by rw[List.map_nil,DX];exact hS⟩⟩
 |x::xs,S=>(Un Sd).bind λkv i=>Fv.bind λt ht=>O2.bind λp hp=>listAt.bind λks n8=>(U2 Sd).bind λy j=>.some ⟨Ai (x :: ·) j.1,AX.bind (S':=kv.S) i j.2 λcx ih {q A} R {π₁ H₁ s₁ E kS body} hH hat hb {kz0 vs π s} P hS hsz rq rx=>
   AH rx λv rx=>rx.elim λws rx=>by
  rw[rx.1,FO]
  have hl:=P.le
  refine Ac (hb v s _ (AJ (cx A π s (λ_ _=>Cd) q [v] [] R ((pw [.e .p (.A .q (.k 2)),.l .p .r] (.l (.A .q (.k 2)) .r) [] [_,_,_]) hH hl) P.g rq (.cons rx.2.1 .nil) .nil) (λcv s' w=>w.elim λπ' w=>?_) λ_ _ x=>x))
  have e1:=AO.list.inj (AQ (hS.symm.trans ((w.1.old (n+1) ((pw [] (.t (.A .p (.k 1)) (.A .p (.k 2))) [] [_]))).symm.trans n8)))
  have PA:=P.trans (w.1.Kl ((pw [] (.l (.A .p (.k 1)) (.A .p (.k 2))) [] [_])))
  have Aa4:=(PA.agree (n+1) ((pw [.e .p (.A .q (.k 2))] (.t (.A .q (.k 1)) .p) [] [_,_]) hH)).trans hat
  refine(w.1.g.objs (n+1) _ n8).elim λvc z=>z.elim λke z=>?_
  have hsk:=z.2.size.trans (e1▸AY ..)
  rw[JQ] at hsz
  rw[<-Aa4]
  refine⟨vc,ke,z.1,(pw [.t (.A .p (.A .q (.k 1))) (.k 64),.e .r .p] (.t .r (.k 64)) [] [_,_,_]) hsz hsk,?_⟩
  have rv:As π' kv.S.H.length s'.heap (JF p) cv:=by have:=w.2;rw[ht,hp] at this;exact this
  have P3:=CY (o:=.list (ks++[JF p])) (f:=C6 λx=>x.push cv) w.1.g (w.1.g.lt n8) (AP _) z.1 CZ CZ rfl s'.toks (λh' S e'=>⟨vc.push cv,_,e',(z.2.step S).snoc (rv.step S)⟩)
  have hlen:(setAt kv.S (n+1) (.list (ks++[JF p]))).H.length=kv.S.H.length:=F4
  refine AJ (ih R hH hat hb (kz0:=kz0++[p]) (PA.trans P3.1) ?_ (by rw[BO,List.length_singleton];exact(pw [.t (.A .p (.A .q (.k 1))) (.k 64)] (.t (.A (.A .p (.k 1)) .q) (.k 64)) [] [_,_]) hsz) (hlen▸(rq.pg w.1 P.g).step P3.2) (hlen▸(rx.2.2.pg w.1 P.g).step P3.2)) (λ_ HM w2=>w2.imp λπ₂ w2=>⟨w2.1,by rw[w2.2,FL];rfl⟩) λ_ _ x=>x
  show(kv.S.H.set (n+1) _)[n+1]?=_
  rw[bU (w.1.g.lt n8),<-e1,LK] at ⊢;rfl⟩
end
section
variable{c:Cx}{d:Nat}
noncomputable abbrev yZ(qs:List KI)(i:Nat):Int×Int:=(qs.map (·.2)).getD i (0,0)
theorem gk(hkr:Ag π n h ((qs.map (·.2)).map JF) keys)(hi:i<qs.length):∃a t u,keys.getD i D2=.ref a/\Ek h a #[.int (yZ qs i).1 t,.int (yZ qs i).2 u]:=by
 have hl:=AY (as:=qs) (·.2)▸hi
 refine(hkr.get (by rw[F3,HU hl] at ⊢;exact Ai (λk=>some (JF k)) (getD_at hl _).symm)).elim λv q=>q.2.tup.elim λa w=>w.elim λxs w=>w.2.2.2.ints2.elim λt z=>z.elim λu z=>⟨a,t,u,?_,z▸w.2.1⟩
 rw[HG,q.1] at ⊢;exact w.1
theorem wO:∀(l:List Ad),(∀v∈l,∃a o xs m f t,v=.ref a/\h.get? a=some o/\o.cls=.type "tuple" /\o.data=.seq xs m/\xs[0]?=some (.int f t))->∃fs:List Ad,KatTups h l fs/\fs.length=l.length/\∀v∈fs,∃f t,v=.int f t
 |[],_=>⟨[],.nil,rfl,λv hv=>nomatch hv⟩
 |v::l,k=>(wO l λv hv=>k v (Ee _ hv)).elim λfs q=>(k v (CT ..)).elim λa z=>z.elim λo z=>z.elim λxs z=>z.elim λm z=>z.elim λf z=>z.elim λt z=>
   ⟨.int f t::fs,by rw[z.1];exact .cons z.2.1 z.2.2.1 z.2.2.2.1 z.2.2.2.2 q.1,Ai Gb q.2.1,λw hw=>(Bc.mp hw).elim (λe=>⟨f,t,e⟩) (q.2.2 w)⟩
theorem lC{qs ps:List KI}
  (h2: 2<=qs.length)(h60:qs.length<60)(hperm:ps.Perm qs)(hs:ps.Pairwise gg)(G1:Av c π₁ H₁ s₁)(P:PG c (N+1) none π₁ H₁ s₁ H π s)(hH:H₁.length=N+2)(hD:π₁.at' N=D)(hkS:π₁.at' (N+1)=kS)
  (hDo:s₁.heap.get? D=some (DZ "list" #[] e1))(hK:H[N+1]?=some (.list ((qs.map (·.2)).map JF)))(rx:Ag π H.length s.heap (qs.map (·.1)) vl)
  (q:∀s' π' H' out e,PG c N none π₁ H₁ s₁ H' π' s'->s'.heap.get? D=some (DZ "list" out e)->Ag π' H'.length s'.heap (ps.map (·.1)) out.toList->Q (.done (.ret .none)) s')
  (hko:s.heap.get? kS=some (DZ "list" keys ke))(hkr:Ag π H.length s.heap ((qs.map (·.2)).map JF) keys.toList):Ae c.m A (ksk_end D false vl.toArray e1 (.ref kS) keys) Q E s:=by
 have hl:=P.le
 have lD:=rx.length.trans (AY ..)
 have n8:=hkr.size.trans ((AY ..).trans (AY ..))
 have hkl:keys.toList.length=vl.length:=by rw[Dt,n8,lD]
 have wF:¬ vl.toArray.size<2:=by rw[LF,lD];exact EJ.mpr h2
 have hDs:s.heap.get? D=some (DZ "list" #[] e1):=by
  have:=P.nA G1 (o:=DZ "list" #[] e1) (CF _) ((pw [.e .p (.A .q (.k 2))] (.t .q .p) [] [_,_]) hH)
  rw[hD] at this
  exact this hDo
 have hDat:=(P.agree N ((pw [.e .p (.A .q (.k 2))] (.t .q .p) [] [_,_]) hH)).trans hD
 have hKat:=(P.agree (N+1) ((pw [.e .p (.A .q (.k 2))] (.t (.A .q (.k 1)) .p) [] [_,_]) hH)).trans hkS
 unfold ksk_end
 dsimp only
 rw[AD BI,AD wF,AD wF,AD BI]
 refine Bm λGG fin=>(wO keys.toList λv hv=>(List.getElem_of_mem hv).elim λi w=>w.elim λhi e=>(gk hkr (by rw[Dt,n8] at hi;exact hi)).elim λa z=>z.elim λt z=>z.elim λu z=>z.2.elim λo y=>y.2.2.elim λm hd=>⟨a,o,_,m,_,t,by rw[<-e,<-z.1];exact(getD_at hi _).symm,y.1,y.2.1,hd,rfl⟩).elim λfs f=>fin ?_
 rw[show keys=Wd keys.toList from(VR).symm]
 refine Ac (kat_kind (T:=.type "int") f.1 (by rw[f.2.1,hkl,lD];exact(pw [.l (.k 2) .p] (.t (.k 0) .p) [] [_]) h2) (λv hv=>(f.2.2 v hv).elim λi z=>z.elim λt z=>z▸AR.now) ⋯ ?_)
 rw[show(Fk "int" !=Fk "tuple")=true by decide]
 refine Ac (AJ (kat_run (G:=λp s'=>s'=s/\Pm qs.length p/\TS (yZ qs) p qs.length) (Q:=λqM s'=>s'=s/\∃p:AE Nat,Pm qs.length p/\TS (yZ qs) p qs.length/\arrOf qM=p.map (kas_item ((Wd keys.toList).zip vl.toArray))/\failedOf qM=none)
  hkl ((pw [.l (.k 2) .p,.e .q .p] (.l (.k 2) .q) [] [_,_]) h2 lD) ((pw [.t .p (.k 60),.e .q .p] (.t .q (.k 64)) [] [_,_]) h60 lD) (λp' qM s' a1 a2 a3 a4=>⟨a4.1,p',a4.2.1,a4.2.2,a2,a3⟩) ?_) (λr s' h=>?_) λ_ _ x=>x)
 ·rw[lD]
  refine o6 (λi j C hi hj hC=>?_) (q5 hperm hs) ((pw [.l (.k 2) .p] (.l (.k 1) .p) [] [_]) h2) λp' P' a'=>⟨rfl,P',a'⟩
  refine(gk hkr hi).elim λa z=>z.elim λt z=>z.elim λu z=>(gk hkr hj).elim λb y=>y.elim λt' y=>y.elim λu' y=>?_
  unfold kas_ask
  rw[z.1,y.1]
  exact a8 z.2 y.2 rfl rfl hC
 refine Bm λGG fin=>h.2.elim λp w=>fin ?_
 obtain ⟨⟨⟩,qM⟩:=r
 obtain rfl:=h.1
 have har:=w.2.2.1
 dsimp only
 unfold ksk_tail
 refine Ac (Ry hko rfl ?_ (by rw[Ij];exact(pw [.t .p (.k 60),.e .q .p] (.l .q (.k 16777216)) [] [_,_]) h60 n8) (Co _))
 refine Ac (L6 ?_)
 have P3:=CY (o:=.list []) (f:=C6 λ_=>(#[]:AE Ad)) P.g (P.g.lt hK) (AP _) (hKat.symm▸hko) CZ CZ rfl s'.toks (λh' S e'=>⟨#[],_,e',.nil⟩)
 rw[hKat] at P3
 have lF:(s'.heap.update kS (C6 λ_=>(#[]:AE Ad))).get? D=some (DZ "list" #[] e1):=by
  have:=P3.1.nA P.g (o:=DZ "list" #[] e1) (CF _) (by exact(pw [.e .p (.A .q (.k 2)),.l .p .r] (.t .q .r) [] [_,_,_]) hH hl)
  rw[hDat] at this
  exact this hDs
 refine Ac (seqEpoch_at lF rfl ?_)
 rw[kat_snds (ks:=keys.toList) (vs:=vl) hkl har]
 have hpl:p.toList.length=qs.length:=by rw[Dt,w.1.size]
 refine Ac (Ry lF rfl ?_ (Co _) (by rw[AD BI,LF,AY,hpl,Ij];exact(pw [.t .p (.k 60)] (.l .p (.k (16777216+1))) [] [_]) h60))
 rw[w.2.2.2]
 rw[bne_self_eq_false]
 have hlen3:(H.set (N+1) (.list [])).length=H.length:=F4
 have Aa5:Ag π H.length s'.heap (ps.map (·.1)) (p.toList.map λi=>vl.getD i D2):=by
  rw[a9 hperm hs w.1 w.2.1]
  refine rx.picks λi hi=>?_
  have:=(Q0.mp w.1.perm).mem_iff.mp hi
  rw[AY]
  simpa using this
 have n9:=Aa5.step P3.2
 have P4:=CY (wr:=N) (l:=N) (o:=.list (ps.map (·.1))) (ob:=DZ "list" #[] e1) (f:=C6 λ_=>Wd (p.toList.map λi=>vl.getD i D2)) P3.1.g (by rw[hlen3];exact(pw [.e .p (.A .q (.k 2)),.l .p .r] (.t .q .r) [] [_,_,_]) hH hl) (AP _) (hDat.symm▸lF) CZ CZ rfl s'.toks
  (λh' S e'=>⟨_,_,e',(hlen3.symm▸n9).step S⟩)
 rw[hDat] at P4
 exact An (q _ π _ _ _ (((P.Kl (Dw _)).trans (P3.1.Kl (Dw _))).trans P4.1) (get?_update_seq lF _) (by rw[F4];exact(hlen3.symm▸n9).step P4.2))
end
section
variable{c:Cx}{d:Nat}
theorem q6(H:List AO)(a b:AO):(H++[a,b]).length=H.length+2:=(Y8 H a b).2.2
theorem gm{S:St}{ps:List KI}
  (R:A5 (d+1) A)(ob:y.S.ob=true)(K:gj c d k S.H.length (S.on (S.H++[AO.list [],AO.list []])) xs y)(h2: 2<=y.v.length)(h60:y.v.length<60)(hperm:ps.Perm y.v)(hs:ps.Pairwise gg)(G5:Av c π5 (S.H++[AO.list [],AO.list []]) s5)
  (hD5:π5.at' S.H.length=D)(hkS5:π5.at' (S.H.length+1)=kS)(hDo:s5.heap.get? D=some (DZ "list" #[] e1))(rq:As π5 (S.H++[AO.list [],AO.list []]).length s5.heap (.BH k) (.ref qa))(rx:∀{π':Pl}{n:Nat}{h:Ay},Ag π' n h xs vl)
  (q:∀s' π' H' out e,PG c S.H.length none π5 (S.H++[AO.list [],AO.list []]) s5 H' π' s'->s'.heap.get? D=some (DZ "list" out e)->Ag π' H'.length s'.heap (ps.map (·.1)) out.toList->Q (.done (.ret .none)) s'):
  Ae c.m A (ksk_rest D (.ref qa) false vl.toArray e1 (.ref kS)) Q E s5:=by
 have hH5:=q6 S.H (.list []) (.list [])
 have hxl:xs.length=y.v.length:=by rw[<-K.1,AY]
 refine Ac (Gd ?_)
 first
  |rw[List.forIn_toArray]
  |(rw[<-AE.forIn_toList];simp only[Rc])
  |rw[<-AE.forIn_toList]
 refine Ac (AJ ((K.2 ob).2 R hH5 hkS5 (λx s Q h=>?_) (kz0:=[]) (PG.refl G5) ((Y8 S.H (.list []) (.list [])).2.1) (by rw[Ri,hxl];exact(pw [.t .p (.k 60)] (.t (.A (.k 0) .p) (.k 64)) [] [_]) h60) rq rx) (λ_ s' h=>?_) λ_ _ x=>x)
 ·refine Ac (GZ (AJ h (λkv s' h=>h.elim λvs h=>h.elim λe h=>?_) λ_ _ f=>f.elim))
  exact Ac (Ry h.1 rfl (An h.2.2) (by rw[Ij];lia) (by rw[AE.size_push,Ij];lia))
 ·refine Bm λGG fin=>h.elim λπ' w=>(w.1.g.objs (S.H.length+1) _ w.2).elim λvc z=>z.elim λke z=>fin ?_
  have Aa7:=(w.1.agree _ (by rw[hH5];exact CF _)).trans hkS5
  have hko:=Aa7▸z.1
  refine Ac (listItems_at hko rfl ?_)
  exact lC h2 h60 hperm hs G5 w.1 hH5 hD5 hkS5 hDo w.2 (K.1▸rx) q hko z.2
theorem gp{S:St}{ps:List KI}
  (R:A5 (d+1) A)(ob:y.S.ob=true)(K:gj c d k S.H.length (S.on (S.H++[AO.list [],AO.list []])) xs y)(h2: 2<=y.v.length)(h60:y.v.length<60)(hperm:ps.Perm y.v)(hs:ps.Pairwise gg)(G2:Av c π2 (S.H++[AO.list xs]) s2)
  (hat2:π2.at' S.H.length=D)(hoD:s2.heap.get? D=some (DZ "list" vl.toArray 0))(rq:As π2 (S.H++[AO.list xs]).length s2.heap (.BH k) (.ref qa))(rx:∀{π':Pl}{n:Nat}{h:Ay},Ag π' n h xs vl)
  (q:∀s' π' H' out e,PG c S.H.length none π2 (S.H++[AO.list xs]) s2 H' π' s'->s'.heap.get? D=some (DZ "list" out e)->Ag π' H'.length s'.heap (ps.map (·.1)) out.toList->Q (.done (.ret .none)) s'):
  Ae c.m A (ksk_tree D (.ref qa) false) Q E s2:=by
 have lD:vl.length<60:=by rw[(rx (π':=π2) (n:=0) (h:=s2.heap)).length,<-K.1,AY];exact h60
 refine Ac (listItems_at hoD rfl ?_)
 refine Ac (Ry hoD rfl ?_ (by rw[LF,Ij];exact(pw [.t .p (.k 60)] (.l .p (.k 16777216)) [] [_]) lD) (Co _))
 have hl1:∀o:AO,(S.H++[o]).length=S.H.length+1:=λo=>BO
 have P3:=CY (o:=.list []) (f:=C6 λ_=>(#[]:AE Ad)) G2 (hl1 _▸CF _) (AP _) (hat2.symm▸hoD) CZ CZ rfl s2.toks (λh' S e'=>⟨#[],_,e',.nil⟩)
 have tP:∃e1,(s2.heap.update D (C6 λ_=>(#[]:AE Ad))).get? D=some (DZ "list" #[] e1):=⟨_,get?_update_seq hoD λ_ => #[]⟩
 rw[hat2,show(S.H++[AO.list xs]).set S.H.length (.list [])=S.H++[.list []] by simp] at P3
 revert P3 tP
 generalize s2.heap.update D (C6 λ_=>(#[]:AE Ad))=h3
 intro P3 tP
 refine tP.elim λe1 tP=>Ac (seqEpoch_at tP rfl (Ac (LY (Ac (Of (BE ?_) (Co _))) (by rw[Rc,Ij];exact(pw [.t .p (.k 60)] (.l .p (.k 16777216)) [] [_]) lD))))
 have P4:=P3.1.DU (Kp.BS {cls:=.type "tuple",data:=.seq vl.toArray.toList.toArray})
 have g5:((h3.push {cls:=.type "tuple",data:=.seq vl.toArray.toList.toArray}).push {cls:=.type "list",data:=.seq ([]:List Ad).toArray}).get? (h3.push {cls:=.type "tuple",data:=.seq vl.toArray.toList.toArray}).objs.size=some {cls:=.type "list",data:=.seq ([]:List Ad).toArray}:=Bp _ rfl
 have P5:=PG.add (wr:=S.H.length) (o:=.list []) P4.g (hl1 _▸Dw _) (Kp.BS {cls:=.type "list",data:=.seq ([]:List Ad).toArray}) (Bx _ (AP _)) ⟨#[],_,g5,.nil⟩ ⟨_,g5,CZ⟩
 have PA:=P4.trans P5
 rw[FL] at P5 PA
 have atN:(ext π2 (S.H++[AO.list []]).length (h3.push {cls:=.type "tuple",data:=.seq vl.toArray.toList.toArray}).objs.size).at' S.H.length=D:=(Ep (hl1 _▸CF _)).trans hat2
 exact gm R ob K h2 h60 hperm hs P5.g atN (by rw[<-hl1 (.list [])];exact D8) (B6 _ (B6 _ tP)) (rq.pg PA G2) rx λs' π' H' out e P h r=>q s' π' H' out e (PA.trans P) h r
theorem q7(h0: 0<=a)(hab:a+2<=b)(h60:b<60):E4 a b 1=(b-a).toNat/\RY a b 1=true:=by
 have hrs:E4 a b 1=(b-a).toNat:=by
  unfold E4
  rw[Bh ⋯,Bh (by exact(pw [.L (.A .p (.j 2)) .q] (.T .p .q) [_,_] []) hab),Int.ediv_one]
  exact(pw [.L (.A .p (.j 2)) .q] (.E (.A (.S (.S .q .p) (.j 1)) (.j 1)) (.n (.d (.S .q .p)))) [_,_] []) hab
 have wQ:∀x:Int,x.natAbs<100->cW x=true:=λx hx=>by
  unfold cW
  simp only[HQ,Gl]
  exact(pw [.t (.b .p) (.k 100)] (.a (.L (.g (.j (2^63))) .p) (.T .p (.j (2^63)))) [_] []) hx
 refine⟨hrs,?_⟩
 unfold RY
 rw[hrs,wQ a ((pw [.L (.j 0) .p,.L (.A .p (.j 2)) .q,.T .q (.j 60)] (.t (.b .p) (.k 100)) [_,_] []) h0 hab h60),wQ b ((pw [.L (.j 0) .p,.L (.A .p (.j 2)) .q,.T .q (.j 60)] (.t (.b .q) (.k 100)) [_,_] []) h0 hab h60),wQ 1 ⋯,wQ ((b-a).toNat) ((pw [.L (.j 0) .p,.T .q (.j 60)] (.t (.b (.n (.d (.S .q .p)))) (.k 100)) [_,_] []) h0 h60)] at ⊢
 simp only[Aa.and_self,Aa.true_and,Aa.or_eq_true]
 right
 exact wQ _ ((pw [.L (.j 0) .p,.L (.A .p (.j 2)) .q,.T .q (.j 60)] (.t (.b (.A .q (.S (.j 1) (.j 1)))) (.k 100)) [_,_] []) h0 hab h60)
theorem Zv:∀{xs:List AV}{vs:List Ad},(∀x∈xs,∃i,x=.int i)->Ag π n h xs vs->Ag π' n' h' xs vs
 |[],vs,_,r=>r
 |x::xs,vs,k,r=>AH r λv r=>r.elim λws r=>(k x (CT ..)).elim λi e=>by
   rw[r.1]
   exact .cons (by have:=r.2.1;rw[e] at this ⊢;exact this) (Zv (λy hy=>k y (Ee _ hy)) r.2.2)
theorem og(Sd:Bl c d r):Zo c d r:=λ{f as ks wr S}=>BD.bind λkw hkw=>fS.bind λk hk=>BD.bind λa0 ha=>fT.bind λt ht=>.guard λhg=>(U2 Sd).bind λy K=>U0.bind λps hp=>.some λho=>⟨(K.2 ho).1,by
  obtain rfl:=Hn (BC (Ax (Ax hg)))
  obtain ⟨kn,kv⟩:=kw
  obtain rfl:kn="key" :=BC (Am (Ax hg))
  obtain rfl:kv=.BH k:=hk
  obtain ⟨a,b,st⟩:=t
  obtain ⟨rfl,h0,hab,h60⟩ :st=1/\0<=a/\a+2<=b/\b<60:=Bi (Am hg)
  subst hkw ha ht
  have hperm:ps.Perm y.v:=by have:=(hp .nil).1;rwa[DX] at this
  have wR:=(hp .nil).2
  have hn:y.v.length=(b-a).toNat:=by rw[<-U1 rfl,<-K.1,AY]
  intro A π s E cf cargs Gr R hw G rf ra rk
  rcases rf.val with ⟨⟩
  refine Bm λGG fin=>AH ra λcv ra=>ra.elim λws ra=>AH rk λq rk=>rk.elim λus rk=>ra.2.1.Gw.elim λrr hr=>hr.2.1.elim λtx wU=>wU.elim λty wU=>wU.elim λtz wU=>rk.2.1.BH.elim λqa hq=>fin ?_
  rw[ra.1,rk.1,ra.2.2,rk.2.2,hr.1,hq.1]
  have hrq:=rk.2.1
  rw[hq.1] at hrq
  refine call_function_entry_kw kind_sorted plain_sorted entry_sorted (ksk_s1 _ _) ?_
  refine Ac (An ?_)
  have sm:=q7 h0 hab h60
  refine Ac (Ql R.handled wU sm.2 sm.1 ((pw [.L (.j 0) .p,.T .q (.j 60)] (.l (.d (.S .q .p)) (.k (2^24))) [_,_] []) h0 h60) λh1 tk1 vs hk1 hit=>?_)
  have P1:PG c S.H.length none π S.H s S.H π {s with heap:=h1,toks:=tk1}:=.pure G (.of_keeps hk1)
  have rx:∀{π':Pl}{n:Nat}{h:Ay},Ag π' n h (W8 a b) vs.toList:=gh hit rfl
  have hvs:vs.toList.length<=BY:=by rw[Dt,hit.1,Ij];exact(pw [.L (.j 0) .p,.T .q (.j 60)] (.l (.d (.S .q .p)) (.k 16777216)) [_,_] []) h0 h60
  refine Ac (Of ?_ hvs)
  have g2:(h1.push {cls:=.type "list",data:=.seq vs.toList.toArray}).get? h1.objs.size=some {cls:=.type "list",data:=.seq vs.toList.toArray}:=Bp _ rfl
  have P2:=PG.add (o:=.list (W8 a b)) P1.g (AP _) (Kp.BS {cls:=.type "list",data:=.seq vs.toList.toArray}) (Bx _ (AP _)) ⟨_,_,g2,rx⟩ ⟨_,g2,CZ⟩
  have hDn:=P1.gone (Bx h1 (AP _))
  show Ae _ _ (holding [Bq h1.objs.size] (call (.builtin "list.sort") [.ref h1.objs.size] [(Gi "key",.ref qa)])>>=λ_=>ret (.ref h1.objs.size)) _ _ {s with heap:=h1.push {cls:=.type "list",data:=.seq vs.toList.toArray},toks:=tk1}
  refine Ac (BE (wpAny_call_entry_kw slot_list_sort ⟨_,g2,rfl⟩ entry_list_sort ?_ (ksk_l1 _ _)))
  rw[ksk_t1]
  refine gp (A5.le (A5.in1 (A5.in1 R)) (Dw _)) ho K ((pw [.L (.A .p (.j 2)) .q,.e .p (.d (.S .q .p))] (.l (.k 2) .p) [_,_] [_]) hab hn) ((pw [.L (.j 0) .p,.T .q (.j 60),.e .p (.d (.S .q .p))] (.t .p (.k 60)) [_,_] [_]) h0 h60 hn) hperm wR P2.g D8 g2 (hrq.pg (P1.trans P2) G) rx λHM yJ EZ out e PP Aa8 Aa9=>⟨.none,rfl,An ⟨.ref h1.objs.size,rfl,π,PG.forget G ((P1.trans P2).trans PP),h1.objs.size,out,rfl,⟨_,Aa8,rfl,rfl,e,rfl⟩,G.fresh hDn,?_⟩⟩
  refine Zv (λx hx=>?_) Aa9
  have:=(hperm.map (·.1)).mem_iff.mp hx
  rw[K.1] at this
  exact(CD.mp this).imp' (λi:Nat=>a+i) λi z=>z.2.symm⟩
end
section
variable{c:Cx}
theorem PH(BR:CG c):∀n,Bl c (4*n) (ev n)
 |0=>⟨λ_ _ _ _=>.none,λ_ _ _ _=>.none,λ_ _ _ _=>.none⟩
 |n+1=>
  have Sd:=PH BR n
  ⟨λ_ _ _ _=>gf BR Sd (og Sd),λ_ _ _ _=>(fV BR Sd).mono λ_ i=>AX.imp i (·.le (BF _ 2)),λ_ _ _ _=>(fY BR Sd).mono λ_ i=>AX.imp i (·.le (BF _ 4))⟩
theorem XQ(BR:CG c)(h:aj n xs=some x)(ho:x.S.ob=true):DR c (4*n+4) [] 0 (.val (.ref 294)) [.lst (xs.map .int)] [] x.v x.S.H:=(UT BR (PH BR n) (og (PH BR n)) x h ho).2
end
def ba(a:Ah):Aa:=TB.any (Aw a)
theorem lG(h:a∈TB):ba a=true:=JP.mpr ⟨a,h,Ib a⟩
noncomputable def B7:AI->AI
 |[]=>[]
 |p::r=>cond (ba p.1) (B7 r) (p::B7 r)
theorem Hp:∀{K:AI},(B7 K).lookup a=some o->a∉TB
 |p::r,h=>by
  revert h
  show C2 a (cond (ba p.1) (B7 r) (p::B7 r))=_->_
  cases q:ba p.1 with
  |true=>exact Hp
  |false=>
   show C2 a ((p.1,p.2)::B7 r)=_->_
   rw[Dk]
   cases e:a==p.1 with
   |true=>exact λ_ hm=>by rw[eq_of_beq e] at hm;rw[lG hm] at q;cases q
   |false=>exact Hp
theorem MD:∀{K:AI},(B7 K).lookup a=some o->K.lookup a=some o
 |p::r,h=>by
  have hn:=Hp h
  revert h
  show C2 a (cond (ba p.1) (B7 r) (p::B7 r))=_->C2 a ((p.1,p.2)::r)=_
  rw[Dk]
  cases q:ba p.1 with
  |true=>
   intro h
   have ne:(a==p.1)=false:=Gx.mpr λe=>hn (by
    obtain ⟨b,hb,e2⟩:=JP.mp q
    rw[eq_of_beq e,Cb e2];exact hb)
   rw[ne]
   exact MD h
  |false=>
   show C2 a ((p.1,p.2)::B7 r)=_->_
   rw[Dk]
   induction a==p.1 using Ei with
   |true=>exact id
   |false=>exact MD
noncomputable def gq(o:Obj):Ab (AE RV):=match o.data with | .dict es _=>some es | _=>none
noncomputable def Jp(o:Obj):Ab (AE Ad):=match o.data with | .fields vs=>some vs | _=>none
noncomputable def PI(o:Obj):Aa:=match o.data with | .plain=>true | _=>false
noncomputable def refOf(v:Ad):Ab Ah:=match v with | .ref a=>some a | _=>none
noncomputable def ME(v:Ad):Ab (Str×Tok):=match v with | .str x t=>some (x,t) | _=>none
noncomputable def XR(v:Ad):Ab (Int×Tok):=match v with | .int x t=>some (x,t) | _=>none
theorem gu:Ok (gq o) λes=>∃k,o.data=.dict es k:=by unfold gq;rcases o.data with ⟨⟩<;>first | exact .none | exact .some ⟨_,rfl⟩
theorem Hq:Ok (Jp o) λvs=>o.data=.fields vs:=by unfold Jp;rcases o.data with ⟨⟩<;>first | exact .none | exact .some rfl
theorem U3(h:PI o=true):o.data=.plain:=by revert h;unfold PI;rcases o.data with ⟨⟩<;>first | exact λh=>ff h | exact λ_=>rfl
theorem U4:Ok (refOf v) λa=>v=.ref a:=by rcases v with ⟨⟩<;>first | exact .none | exact .some rfl
theorem GJ:Ok (ME v) λx=>v=.str x.1 x.2:=by rcases v with ⟨⟩<;>first | exact .none | exact .some rfl
theorem QX:Ok (XR v) λx=>v=.int x.1 x.2:=by rcases v with ⟨⟩<;>first | exact .none | exact .some rfl
theorem KY{P:α->Prop}(k:Ok o P)(h:Bz o p=true):∃a,P a/\p a=true:=(A0 h).imp λa q=>⟨k a q.1,q.2⟩
def bb(K:AI)(a:Ah):Ab (AE RV):=(K.lookup a).bind gq
def KZ(es:AE RV):Aa:=es.toList.all λe => !Dz (ME e.key)
theorem U5{o:Ab α}(h:(!Dz o)=true):∃a,o=some a:=by
 induction o using BK with
 |none=>exact ff h
 |some a=>exact⟨a,rfl⟩
theorem U6{K:AI}(X:K.In h)(e:bb K a=some es)(hs:KZ es=true):h.Ns a (ES es):=
 (FA e).elim λo q=>(gu _ q.2).elim λk hd=>⟨o,es,k,X _ _ q.1,hd,λx hx=>(U5 (BV.mp hs x (AE.mem_toList_iff.mpr hx))).elim λt ht=>⟨t.1,t.2,GJ _ ht⟩,λ_=>rfl⟩
def Aba(o:Obj):Aa:=o.cls==.type "module" &&(o.dict==some C4&&PI o)
def gv(K:AI):Aa:=Bz (bb K DO) λeg=>Bz (bb K C4) λeb=>KZ eg&&(KZ eb&&Bz ((ES eg "__builtins__").bind refOf) λbm => !Nat.beq bm C4&&Bz (K.lookup bm) Aba)
def PJ(K:AI)(x:Str)(p:Ad->Aa):Aa:=Bz (bb K DO) λeg=>Bz (bb K C4) λeb=>Bz (orO (ES eg x) (ES eb x)) p
theorem NC{K:AI}(X:K.In h)(hn:gv K=true)(hg:PJ K x p=true):∃v,p v=true/\Glob h x v:=
 (A0 hn).elim λeg g=>(A0 g.2).elim λeb b=>(A0 hg).elim λeg' g'=>(A0 g'.2).elim λeb' b'=>(A0 b'.2).elim λv w=>⟨v,w.2,ES eg,ES eb,U6 X g.1 (Ax b.2),U6 X b.1 (Ax (Am b.2)),by
  have h:=w.1
  rw[<-AQ (g.1.symm.trans g'.1),<-AQ (b.1.symm.trans b'.1)] at h
  cases q:ES eg x with
  |none=>rw[q] at h;exact .inr ⟨rfl,h⟩
  |some u=>rw[q] at h;exact .inl h⟩
def gtB(K:AI):Aa:=GT.all λp=>PJ K p.1 (p.2 == ·)
def Zw(t:Ah×Ah×Str)(o:Obj):Aa:=o.cls==.type "code" &&Bz (Jp o) λvs=>(vs[11]? :Ab Ad)==some (.ref t.2.1)&&(vs.getD 11 .none==.ref t.2.1&&(!Dz (ME (vs.getD 18 .none))&&(!Dz (XR (vs.getD 7 .none))&&(!Dz (Yx (vs.getD 9 .none)) && !Dz (XR (vs.getD 10 .none))))))
def oh(o:Obj):Aa:=o.cls==.none&&(Dz o.dict&&(o.slots.isEmpty&&Bz (Jp o) λvs=>vs.isEmpty))
def wV(K:AI)(t:Ah×Ah×Str):Aa := !Nat.beq t.1 t.2.1&&(Bz (K.lookup t.1) (Zw t)&&Bz (K.lookup t.2.1) oh)
theorem XS(ho:h.get? t.1=some o)(hne:Aw t.1 t.2.1=false)(hb:Zw t o=true):CodeHd h t.1 t.2.1:=
 (KY Hq (Am hb)).elim λvs q=>
  have q1:=Am q.2;have q2:=Am q1;have q3:=Am q2;have q4:=Am q3
  (U5 (Ax q2)).elim λf hf=>(U5 (Ax q3)).elim λfl hfl=>(U5 (Ax q4)).elim λb qm=>(U5 (Am q4)).elim λtx htx=>
   ⟨o,vs,f.1,f.2,fl.1,fl.2,b,tx.1,tx.2,ho,Ds (Ax hb),q.1,Ds (Ax q.2),Ds (Ax q1),GJ _ hf,QX _ hfl,OY _ qm,QX _ htx,λe=>by rw[e,Ib] at hne;rcases hne with ⟨⟩⟩
theorem gw(hb:oh o=true):o=D3 #[]:=(KY Hq (Am (Am (Am hb)))).elim λvs q=>by
 obtain ⟨cls,dd,data,sl⟩:=o
 obtain rfl:cls=.none:=Ds (Ax hb)
 obtain rfl:dd=none:=CN (Ax (Am hb))
 obtain rfl:sl = #[]:=AE.isEmpty_iff.mp (Ax (Am (Am hb)))
 obtain rfl:data=.fields vs:=q.1
 obtain rfl:vs = #[]:=AE.isEmpty_iff.mp q.2
 rfl
theorem tab_of{K:AI}(X:K.In h)(hb:wV K t=true):IG h t:=
 (A0 (Ax (Am hb))).elim λo q=>(A0 (Am (Am hb))).elim λo' q'=>⟨XS (X _ _ q.1) (HN (Ax hb)) q.2,#[],gw q'.2▸X _ _ q'.1,trivial,λpos c' e=>nomatch e⟩
def wW(K:AI):Aa:=Bz (bb K Oo) λes=>KZ es&&Dz (ES es "sys.recursionlimit")
theorem q8{K:AI}(X:K.In h)(hb:wW K=true):h.NoLimit:=(A0 hb).elim λes q=>⟨_,U6 X q.1 (Ax q.2),CN (Am q.2)⟩
def q9(K:AI):Aa:=gv K&&(gtB K&&(TL.all (wV K)&&wW K))
def wX(prog:Dq)(w:DG)(B:Aj)(K:AI)(X:K.In B.heap)(hb:q9 K=true):Cx where
 prog:=prog
 w:=w
 B:=B
 K:=B7 K
 yI:=λa o e=>X a o (MD e)
 knt:=λa o e=>Hp e
 tabs:=λt ht=>tab_of X (BV.mp (Ax (Am (Am hb))) t ht)
 nolimit:=q8 X (Am (Am (Am hb)))
 names:=(A0 (Ax hb)).elim λeg g=>(A0 g.2).elim λeb b=>(A0 (Am (Am b.2))).elim λbm m=>(A0 (Am m.2)).elim λo q=>
  ⟨ES eg,ES eb,bm,o,U6 X g.1 (Ax b.2),U6 X b.1 (Ax (Am b.2)),(FA m.1).elim λv z=>z.1.trans (Ai some (U4 _ z.2)),(λe=>by have:=HN (Ax m.2);rw[e,Ib] at this;rcases this with ⟨⟩),X _ _ q.1,Ds (Ax q.2),Ds (Ax (Am q.2)),U3 (Am (Am q.2))⟩
 gt:=λx v hv=>(NC X (Ax hb) (BV.mp (Ax (Am hb)) (x,v) (SP ((D9 ..).symm.trans hv)))).elim λv' q=>by rw[show v=v' from Ds q.1];exact q.2
def gx:List Ah:=FTl.map (·.1)
theorem Zx:∀{l:List (Nat×Ab α)},yH a l=some v->a∈l.map (·.1)
 |(b,w)::r,h=>by
  revert h
  show(match Aw a b with | true=>w | false=>yH a r)=some v->_
  cases e:Aw a b with
  |true=>exact λ_=>by rw[Cb e];exact .head _
  |false=>exact λh=>.tail _ (Zx h)
theorem gy(h:FT a=some fi):a∈gx:=Zx h
noncomputable def gz(o:Obj):Ab Iq:=match o.data with | .func fd=>some fd | _=>none
theorem gA:Ok (gz o) λfd=>o.data=.func fd:=by unfold gz;rcases o.data with ⟨⟩<;>first | exact .none | exact .some rfl
def fdOf(K:AI)(a:Ah):Ab Iq:=(K.lookup a).bind gz
theorem lH{K:AI}:Ok (fdOf K a) λfd=>∃o,K.lookup a=some o/\o.data=.func fd:=Ok.self.bind λo ho=>gA.mono λfd h=>⟨o,ho,h⟩
abbrev wY:=Ge×EM×BQ×Ah×Ah×Str
def U7(K:AI)(a:Ah):Ab wY:=(fdOf K a).bind λfd=>some (fd.params,fd.body,fd.scope,fd.globals,fd.builtins,fd.qualname)
def U8(a:Ah):Ab wY:=(FT a).bind λfi=>some (fi.params,fi.body,fi.scope,DO,C4,fi.qual)
def codeB(K:AI)(cd:Ad)(q:Str):Aa:=Bz (refOf cd) λc=>Bz (K.lookup c) λo=>o.cls==.type "code" &&Bz (Jp o) λvs=>Bz ((vs[1]? :Ab Ad).bind ME) λx=>sEq x.1 q
theorem gD{K:AI}(X:K.In h)(hb:codeB K cd q=true):BZ h cd q:=
 (KY U4 hb).elim λa w=>(A0 w.2).elim λo z=>(KY Hq (Am z.2)).elim λvs y=>(A0 y.2).elim λx u=>(FA u.1).elim λv t=>by
  rw[w.1]
  exact .mk (X _ _ z.1) (Ds (Ax z.2)) y.1 (t.1.trans (Ai some ((GJ _ t.2).trans (Ai (EU · x.2) (BC u.2)))))
noncomputable def wZ{α:Type}(o:Ab α)(p:α->Aa):Aa:=match o with | none=>true | some a=>p a
def w0(cl:List (Str×Ah))(cls:Ab Ah):Aa:=match cl with
 |[]=>Dz cls
 |p::r=>nil r&&(sEq p.1 "__class__" &&Aw p.2 173)
theorem lI(h:w0 cl cls=true):(∀x,(x==("__class__" :Str))=false->cl.lookup x=none)/\(cls.isSome=true->cl.lookup ("__class__" :Str)=some 173):=by
 induction cl using B9 with
 |nil=>exact⟨λ_ _=>rfl,λq=>by rw[CN h] at q;rcases q with ⟨⟩⟩
 |cons p r=>
  have h:(nil r&&(sEq p.1 "__class__" &&Aw p.2 173))=true:=h
  obtain rfl:=Bj (Ax h)
  have h:=Am h
  obtain ⟨n,y⟩:=p
  have h1:n="__class__" :=BC (Ax h)
  have h2:y=173:=Cb (Am h)
  subst h1 h2
  exact⟨λx hx=>by rw[Dk,hx];rfl,λ_=>rfl⟩
def pl(fi:FI):Aa:=nil fi.dflt&&nil fi.kwd
def fnB(K:AI)(a:Ah):Aa:=Bz (FT a) λfi=>Bz (fdOf K a) λfd=>codeB K fd.code fd.qualname&&(wZ fi.code (λa'=>fd.code==.ref a')&&(nil fi.cells&&(w0 fd.closure fi.cls&&(Sx fi.scope&&cond (pl fi) (Nu fd.defaults) true))))
def peekA(K:AI)(S:Setting)(a:Ah)(pos:List Ad)(kw:List (Str×Ad)):Ab (List (Str×Ad)):=(fdOf K a).bind λfd=>peek K S (bindArgs fd ⟨pos,kw⟩)
noncomputable def l5{α:Type}(a b c d e:α):List (Str×α):=[("a",a),("x",b),("lo",c),("hi",d),("key",e)]
def k1{α:Type}(k:α):List (Str×α):=[("key",k)]
noncomputable def l2{α:Type}(n:Str)(a b:α):List (Str×α):=[("self",a),(n,b)]
def B4(K:AI)(a:Ah)(t:Tok):Prop:=∀(S:Setting)(v1 v2 v3 v4 k:Ad),
 (peekA K S a [v1,v2] []=some (l5 v1 v2 (.int 0 t) .none .none)/\peekA K S a [v1,v2] (k1 k)=some (l5 v1 v2 (.int 0 t) .none k))/\
 (peekA K S a [v1,v2,v3,v4] []=some (l5 v1 v2 v3 v4 .none)/\peekA K S a [v1,v2,v3,v4] (k1 k)=some (l5 v1 v2 v3 v4 k))
def B2(K:AI)(a:Ah)(n:Str)(D:Ad):Prop:=∀(S:Setting)(v1 v2:Ad),peekA K S a [v1] []=some (l2 n v1 D)/\peekA K S a [v1,v2] []=some (l2 n v1 v2)
def JK(a:Ah)(as:List AV)(ks:List (Str×AV)):Ab Lo:=(FT a).bind λfi=>Cv fi as ks
def gE(a:Ah):Aa:=Bz (FT a) λfi=>Aw fi.dflt.length 2&&(Aw fi.params.args.length 4&&Bz (one fi.params.kwonlyargs) λp=>sEq p.arg "key")
def lJ(a:Ah):Aa:=Bz (FT a) λfi=>Aw fi.dflt.length 1&&(Aw fi.params.args.length 2&&nil fi.params.kwonlyargs)
theorem PK(hd:fi.dflt.length=n+1)(hp:fi.params.args.length=m):Ok (Cv fi as ks) λ_=>ph fi.params.kwonlyargs ks=true/\(as.length=m\/as.length+(n+1)=m):=
 .cond (λh=>by rw[Bj (Ax h)] at hd;rcases hd with ⟨⟩) λ_=>.guard λq _ _=>⟨Ax q,hd▸hp▸(VS.mp (Am q)).imp Cb Cb⟩
section
variable{c:Cx}
theorem GK(hd:fdOf c.K a=some fd)
  (k:∀(π:Pl)(n:Nat)(s:Aj)(cargs Gr:List Ad),Ag π n s.heap as cargs->Ag π n s.heap (ks.map (·.2)) Gr->∃cbs,(∀S,peekA c.K S a cargs ((ks.map (·.1)).zip Gr)=some cbs)/\cbs.map (·.1)=bs.map (·.1)/\Ag π n s.heap (bs.map (·.2)) (cbs.map (·.2))):O9 c fi fd as ks bs:=
 λπ n s cargs Gr X ra rk=>(k π n s cargs Gr ra rk).imp λcbs q=>⟨kp_binds X λS=>by have:=q.1 S;unfold peekA at this;rw[hd] at this;exact this,q.2⟩
def A4(a:Ah):Prop:=∀x y z w k:AV,(JK a [x,y] []=some (l5 x y (.int 0) .none .none)/\JK a [x,y] (k1 k)=some (l5 x y (.int 0) .none k))/\
 (JK a [x,y,z,w] []=some (l5 x y z w .none)/\JK a [x,y,z,w] (k1 k)=some (l5 x y z w k))
def A2(a:Ah)(n:Str)(D:AV):Prop:=∀x y:AV,JK a [x] []=some (l2 n x D)/\JK a [x,y] []=some (l2 n x y)
theorem Zy(h:ph ps ks=true):(ps=[]->ks=[])/\(∀p,ps=[p]->ks=[]\/∃k,ks=[(p.arg,k)]):=by
 induction ps using B9 with
 |nil=>exact⟨λ_=>Bj h,λ_ q=>nomatch q⟩
 |cons p r=>
  refine⟨λq=>(nomatch q),λp' e=>?_⟩
  obtain rfl:=(Gk e).1
  induction ks using B9 with
  |nil=>exact .inl rfl
  |cons k t=>exact .inr ⟨k.2,by rw[Bj (Ax (Am h)),<-BC (Am (Am h))]⟩
theorem oi{as:List AV}(h:as.length=2):∃x y,as=[x,y]:=fj h
theorem rd{as:List AV}(h:as.length=4):∃x y z w,as=[x,y,z,w]:=match as,h with
 |[x,y,z,w],_=>⟨x,y,z,w,rfl⟩
theorem w1{as:List AV}(h:as.length=1):∃x,as=[x]:=match as,h with
 |[x],_=>⟨x,rfl⟩
theorem Ag.e2(r:Ag π n h [x,y] vs):∃v w,vs=[v,w]/\As π n h x v/\As π n h y w:=AH r λv r=>r.elim λws r=>AH r.2.2 λw q=>q.elim λus q=>⟨v,w,by rw[r.1,q.1,show us=[] from q.2.2],r.2.1,q.2.1⟩
theorem Ag.e4(r:Ag π n h [x,y,z,w] vs):∃a b c d,vs=[a,b,c,d]/\Ag π n h [x,y,z,w] [a,b,c,d]:=AH r λa r1=>r1.elim λws r1=>AH r1.2.2 λb r2=>r2.elim λus r2=>r2.2.2.e2.elim λc q=>q.elim λd q=>⟨a,b,c,d,by rw[r1.1,r2.1,q.1],.cons r1.2.1 (.cons r2.2.1 (.cons q.2.1 (.cons q.2.2 .nil)))⟩
theorem Ag.e1(r:Ag π n h [x] vs):∃v,vs=[v]/\As π n h x v:=AH r λv r=>r.elim λws r=>⟨v,by rw[r.1,show ws=[] from r.2.2],r.2.1⟩
theorem Tb(hf:FT a=some fi)(hd:fdOf c.K a=some fd)(hs:gE a=true)(ha:A4 a)(hb:B4 c.K a t)(h:Cv fi as ks=some bs):O9 c fi fd as ks bs:=by
 have hA:JK a as ks=some bs:=by unfold JK;rw[hf];exact h
 refine Bm λGG fin=>(A0 hs).elim λfi' q=>(KY BD (Am (Am q.2))).elim λp hp=>fin ?_
 clear fin GG
 have e:=AQ (q.1.symm.trans hf)
 rw[e] at q hp
 have ln:=PK (Cb (Ax q.2)) (Cb (Ax (Am q.2))) bs h
 have hk:=(Zy ln.1).2 p hp.1
 rw[BC hp.2] at hk
 clear e h
 have nn:∀{π:Pl}{n:Nat}{hp:Ay},As π n hp .none .none:=.FV
 refine ln.2.elim (λhl=>(rd hl).elim λx h=>h.elim λy h=>h.elim λz h=>h.elim λw h=>hk.elim (λhk=>?_) λhk=>hk.elim λk hk=>?_) λhl=>(oi (cH hl)).elim λx h=>h.elim λy h=>hk.elim (λhk=>?_) λhk=>hk.elim λk hk=>?_
 ·subst h hk
  obtain rfl:=AQ ((ha x y z w x).2.1.symm.trans hA)
  exact GK hd λπ n s cargs Gr ra rk=>ra.e4.elim λa1 u=>u.elim λa2 u=>u.elim λa3 u=>u.elim λa4 u=>⟨l5 a1 a2 a3 a4 .none,λS=>by rw[u.1,show Gr=[] from rk];exact(hb S a1 a2 a3 a4 a1).2.1,rfl,u.2.append (.cons nn .nil)⟩
 ·subst h hk
  obtain rfl:=AQ ((ha x y z w k).2.2.symm.trans hA)
  exact GK hd λπ n s cargs Gr ra rk=>ra.e4.elim λa1 u=>u.elim λa2 u=>u.elim λa3 u=>u.elim λa4 u=>(Ag.e1 rk).elim λk' r=>⟨l5 a1 a2 a3 a4 k',λS=>by rw[u.1,r.1];exact(hb S a1 a2 a3 a4 k').2.2,rfl,u.2.append (.cons r.2 .nil)⟩
 ·subst h hk
  obtain rfl:=AQ ((ha x y x y x).1.1.symm.trans hA)
  exact GK hd λπ n s cargs Gr ra rk=>ra.e2.elim λa1 u=>u.elim λa2 u=>⟨l5 a1 a2 (.int 0 t) .none .none,λS=>by rw[u.1,show Gr=[] from rk];exact(hb S a1 a2 a1 a1 a1).1.1,rfl,.cons u.2.1 (.cons u.2.2 (.cons .mkInt (.cons nn (.cons nn .nil))))⟩
 ·subst h hk
  obtain rfl:=AQ ((ha x y x y k).1.2.symm.trans hA)
  exact GK hd λπ n s cargs Gr ra rk=>ra.e2.elim λa1 u=>u.elim λa2 u=>(Ag.e1 rk).elim λk' r=>⟨l5 a1 a2 (.int 0 t) .none k',λS=>by rw[u.1,r.1];exact(hb S a1 a2 a1 a1 k').1.2,rfl,.cons u.2.1 (.cons u.2.2 (.cons .mkInt (.cons nn (.cons r.2 .nil))))⟩
theorem XT(hD:∀π n h,As π n h D DV)(hf:FT a=some fi)(hd:fdOf c.K a=some fd)(hs:lJ a=true)(ha:A2 a nm D)(hb:B2 c.K a nm DV)(h:Cv fi as ks=some bs):O9 c fi fd as ks bs:=by
 have hA:JK a as ks=some bs:=by unfold JK;rw[hf];exact h
 refine Bm λGG fin=>(A0 hs).elim λfi' q=>fin ?_
 clear fin GG
 have e:=AQ (q.1.symm.trans hf)
 rw[e] at q
 have ln:=PK (Cb (Ax q.2)) (Cb (Ax (Am q.2))) bs h
 obtain rfl:=(Zy ln.1).1 (Bj (Am (Am q.2)))
 clear e h
 refine ln.2.elim (λhl=>(oi hl).elim λx h=>h.elim λy h=>?_) λhl=>(w1 (cH hl)).elim λx h=>?_
 ·subst h
  obtain rfl:=AQ ((ha x y).2.symm.trans hA)
  exact GK hd λπ n s cargs Gr ra rk=>ra.e2.elim λa1 u=>u.elim λa2 u=>⟨l2 nm a1 a2,λS=>by rw[u.1,show Gr=[] from rk];exact(hb S a1 a2).2,rfl,.cons u.2.1 (.cons u.2.2 .nil)⟩
 ·subst h
  obtain rfl:=AQ ((ha x x).1.symm.trans hA)
  exact GK hd λπ n s cargs Gr ra rk=>ra.e1.elim λa1 u=>⟨l2 nm a1 DV,λS=>by rw[u.1,show Gr=[] from rk];exact(hb S a1 a1).1,rfl,.cons u.2 (.cons (hD _ _ _) .nil)⟩
end
theorem w3:A4 30:=λx y z w k=>⟨⟨by kernel_rfl!,by kernel_rfl!⟩,by kernel_rfl!,by kernel_rfl!⟩
theorem w6:A4 39:=λx y z w k=>⟨⟨by kernel_rfl!,by kernel_rfl!⟩,by kernel_rfl!,by kernel_rfl!⟩
theorem w7:A4 48:=λx y z w k=>⟨⟨by kernel_rfl!,by kernel_rfl!⟩,by kernel_rfl!,by kernel_rfl!⟩
theorem w8:A4 57:=λx y z w k=>⟨⟨by kernel_rfl!,by kernel_rfl!⟩,by kernel_rfl!,by kernel_rfl!⟩
theorem rg:A2 186 "initial_size" (.int 0):=λx y=>⟨by kernel_rfl!,by kernel_rfl!⟩
theorem rh:A2 201 "i" (.int 0):=λx y=>⟨by kernel_rfl!,by kernel_rfl!⟩
theorem rj:A2 231 "startval" (.none):=λx y=>⟨by kernel_rfl!,by kernel_rfl!⟩
theorem Abd:(gE 30&&(gE 39&&(gE 48&&(gE 57&&(lJ 186&&(lJ 201&&lJ 231))))))=true:=by kernel_rfl!
theorem Abe:gx.all (λa=>wZ (FT a) λfi=>pl fi||[30,39,48,57,186,201,231].any (Aw a))=true:=by kernel_rfl!
structure ND(K:AI):Prop where
 b30:∃t,B4 K 30 t
 b39:∃t,B4 K 39 t
 b48:∃t,B4 K 48 t
 b57:∃t,B4 K 57 t
 qo:∃t,B2 K 186 "initial_size" (.int 0 t)
 Abh:∃t,B2 K 201 "i" (.int 0 t)
 Abi:B2 K 231 "startval" .none
theorem lK(hb:ND c.K)(hf:FT a=some fi)(hd:fdOf c.K a=some fd)(hn:pl fi=false)(h:Cv fi as ks=some bs):O9 c fi fd as ks bs:=by
 have dz:=BV.mp Abe a (gy hf)
 rw[hf] at dz
 have dz:(pl fi||[30,39,48,57,186,201,231].any (Aw a))=true:=dz
 rw[hn,Aa.false_or] at dz
 have s:=Abd
 refine(JP.mp dz).elim λb q=>?_
 obtain rfl:=Cb q.2
 have m:=q.1
 rcases Bc.mp m with rfl | m
 ·exact Tb hf hd (Ax s) w3 hb.b30.choose_spec h
 rcases Bc.mp m with rfl | m
 ·exact Tb hf hd (Ax (Am s)) w6 hb.b39.choose_spec h
 rcases Bc.mp m with rfl | m
 ·exact Tb hf hd (Ax (Am (Am s))) w7 hb.b48.choose_spec h
 rcases Bc.mp m with rfl | m
 ·exact Tb hf hd (Ax (Am (Am (Am s)))) w8 hb.b57.choose_spec h
 rcases Bc.mp m with rfl | m
 ·exact XT (λ_ _ _=>.mkInt) hf hd (Ax (Am (Am (Am (Am s))))) rg hb.qo.choose_spec h
 rcases Bc.mp m with rfl | m
 ·exact XT (λ_ _ _=>.mkInt) hf hd (Ax (Am (Am (Am (Am (Am s)))))) rh hb.Abh.choose_spec h
 rcases Bc.mp m with rfl | m
 ·exact XT (λ_ _ _=>.FV) hf hd (Am (Am (Am (Am (Am (Am s)))))) rj hb.Abi h
 ·rcases m with ⟨⟩
theorem rm{c:Cx}(hT:gx.map (U7 c.K)=gx.map U8)(hB:gx.all (fnB c.K)=true)(hb:ND c.K):EA c:=⟨λa fi hf=>by
 have hm:=gy hf
 refine(A0 (BV.mp hB a hm)).elim λfi' q=>(A0 q.2).elim λfd w=>(lH _ w.1).elim λo z=>⟨o,fd,z.1,z.2,?_⟩
 have e:=AQ (q.1.symm.trans hf)
 have w2:=w.2
 rw[e] at w2
 have e:U7 c.K a=U8 a:=LH.mp hT a hm
 unfold U7 U8 at e
 rw[hf,w.1] at e
 have e:=Hf (AQ e)
 have e2:=Hf e.2
 have e3:=Hf e2.2
 have e4:=Hf e3.2
 have e5:=Hf e4.2
 have h2:=Am w2
 have h3:=Am h2
 have h4:=Am h3
 have h5:=Am h4
 have cl:=lI (Ax h4)
 refine⟨e.1,e2.1,e3.1,e4.1,e5.1,e5.2,gD c.yI (Ax w2),λa' h=>?_,Bj (Ax h3),cl.1,cl.2,Ax h5,λh=>?_,λh as ks bs yO=>lK hb hf w.1 h yO⟩
 ·have:=Ax h2
  rw[h] at this
  exact Ds this
 ·have:=Am h5
  rw[show pl fi=true from h] at this
  exact O3 this⟩
def w9(K:AI):Aa:=Xl K 165 "object.__getattribute__" KE D6 [.ref 165,.type "object"]&&(Xl K 249 "list.__getattribute__" KG (D7++OP) [.ref 249,.type "list",.type "object"]&&noSeq K 249)
noncomputable def oj(K:AI):Aa:=A7 K (.ref 249) "__getitem__" ==some (some (.builtin "list.__getitem__"))&&(A7 K (.ref 249) "__setitem__" ==some (some (.builtin "list.__setitem__"))&&(A7 K (.ref 249) "append" ==some (some (.builtin "list.append"))&&
 (A7 K (.ref 249) "__bool__" ==some none&&(A7 K (.ref 249) "__iter__" ==some (some (.builtin "list.__iter__"))&&(A7 K (.ref 249) "__len__" ==some (some (.ref 216))&&A7 K (.ref 249) "__str__" ==some (some (.ref 223)))))))
noncomputable def gF(o:Obj):Ab Ad:=match o.data with | .cell v=>v | _=>none
theorem gG:Ok (gF o) λv=>o.data=.cell (some v):=by
 unfold gF
 cases o.data with
 |cell v=>exact λx e=>Ai Data.cell e
 |_=>exact .none
noncomputable def rp(o:Obj):Ab ClassData:=match o.data with | .cls c=>some c | _=>none
theorem lL:Ok (rp o) λv=>o.data=.cls v:=by unfold rp;cases o.data<;>first | exact .none | exact .some rfl
def lM(prog:Dq)(K:AI)(a:Ah):Aa:=Bz (K.lookup a) λo=>Bz (Jp o) λvs=>Bz ((vs[2]? :Ab Ad).bind ME) λx=>(prog.main.file:Str)==x.1
def xc(K:AI)(prog:Dq):Aa:=nsIn K Oo "thirdparty.any" ==some none&&(!(prog.main.scope.names.lookup ("super" :Str)).isSome&&(Bz (K.lookup 173) (λo=>Bz (gF o) (· ==.ref 249))&&
 (Bz (K.lookup 249) (λo=>o.cls==.type "type" &&Bz (rp o) λcd=>cd.qualname=="_Accumulator")&&[185,208,245].all (lM prog K))))
def xd(K:AI):Aa:=PB K&&(makesIn K 165&&(A7 K (.ref 165) "__init__" ==some (some (.ref 106))&&(EV K (.ref 106)==some (.type "function")&&(EV K (.ref 216)==some (.type "function")&&EV K (.ref 223)==some (.type "function")))))
def xe(x:Str)(v:Ad):Aa:=Bz (ME v) λy=>sEq y.1 x
theorem ru{K:AI}(X:K.In B.heap)(hb:q9 K=true)(hT:gx.map (U7 (B7 K))=gx.map U8)(hB:gx.all (fnB (B7 K))=true)(hp:ND (B7 K))
  (h1:w9 (B7 K)=true)(h2:oj (B7 K)=true)(h3:xc (B7 K) prog=true)(h4:xd (B7 K)=true)(h5:PJ K "super" (· ==.type "super")=true)(h6:PJ K "EMPTYSTRING" (xe "")=true):CG (wX prog w B K X hb):=by
 have hn:=Ax hb
 refine⟨rm hT hB hp,?_,?_,?_⟩
 ·have b2:=Am h2;have b3:=Am b2;have b4:=Am b3;have b5:=Am b4;have b6:=Am b5
  exact⟨QK (Ax h1),QK (Ax (Am h1)),Ds (Ax h2),Ds (Ax b2),Ds (Ax b3),Ds (Ax b4),Ds (Ax b5),Ds (Ax b6),Ds (Am b6),Am (Am h1)⟩
 ·have a2:=Am h3;have a3:=Am a2;have a4:=Am a3
  refine⟨Ds (Ax h3),HN (Ax a2),(NC X hn h5).elim λv q=>Ds q.1▸q.2,(A0 (Ax a3)).imp λo q=>⟨q.1,(KY gG q.2).elim λv z=>by rw[z.1,Ds z.2]⟩,
   (A0 (Ax a4)).elim λo q=>(KY lL (Am q.2)).elim λcd z=>⟨o,cd,q.1,z.1,Ds (Ax q.2),Ds z.2⟩,
   λa ha=>(A0 (BV.mp (Am a4) a ha)).elim λo q=>(KY Hq q.2).elim λvs z=>(A0 z.2).elim λx u=>(FA u.1).elim λv t=>⟨o,vs,x.1,x.2,q.1,z.1,t.1.trans (Ai some (GJ _ t.2)),u.2⟩⟩
 ·have a2:=Am h4;have a3:=Am a2;have a4:=Am a3;have a5:=Am a4
  refine⟨Ax h4,Ax a2,Ds (Ax a3),Ds (Ax a4),Ds (Ax a5),Ds (Am a5),(NC X hn h6).elim λv q=>(KY GJ q.1).elim λy z=>⟨y.2,?_⟩⟩
  rw[<-BC z.2,<-z.1]
  exact q.2
noncomputable def rr:OpenRow:=WL.row
noncomputable def qq:Dq:=view cX [0,7,8,10,11,12,14,15,16,17,19,20,21,22,23,24,25]
noncomputable def lse:List Str:=["insort_right","bisect_right","insort_left","bisect_left","_Accumulator"]
noncomputable def PL(h:Ay):List Ah->AI
 |[]=>[]
 |a::r=>match h.get? a with | some o=>(a,o)::PL h r | none=>PL h r
theorem PM(h:Ay):∀l,AI.In (PL h l) h
 |[]=>λa o e=>nomatch e
 |b::r=>λa o=>by
  show C2 a (match h.get? b with | some o=>(b,o)::PL h r | none=>PL h r)=_->_
  cases hb:h.get? b with
  |none=>exact PM h r a o
  |some ob=>
   show C2 a ((b,ob)::PL h r)=_->_
   rw[Dk]
   cases q:a==b with
   |true=>exact λe=>by rw[eq_of_beq q,hb];exact e
   |false=>exact PM h r a o
noncomputable def need:List Ah:=[0,2,3,4,59,66,211,218,291,164,165,248,249,173,22,23,31,32,40,41,49,50,178,194,224,29,30,38,39,47,48,56,57,63,64,70,71,77,78,84,85,91,92,105,106,112,113,126,127,133,134,161,162,185,186,192,193,200,201,208,209,215,216,222,223,230,231,237,238,245,246,259,260,264,265,271,272,278,279,283,284,288,289,293,294]
def M5(h:Ay):AI:=PL h need
def Abj(K:AI):Aa:=PJ K "law" (· ==.ref 294)
def ckA(K:AI)(prog:Dq):Aa:=w9 K&&(oj K&&(xc K prog&&(xd K&&gx.all (fnB K))))
def ckB(K:AI):Aa:=q9 K&&(PJ K "super" (· ==.type "super")&&(PJ K "EMPTYSTRING" (xe "")&&Abj K))
def Zz(K:AI)(S:Setting)(v1 v2 v3 v4 k:Ad):List (Ab (List (Str×Ad))):=
 ([30,39,48,57].flatMap λa=>[peekA K S a [v1,v2] [],peekA K S a [v1,v2] (k1 k),peekA K S a [v1,v2,v3,v4] [],peekA K S a [v1,v2,v3,v4] (k1 k)])++[186,201,231].flatMap λa=>[peekA K S a [v1] [],peekA K S a [v1,v2] []]
def Tc(v1 v2 v3 v4 k:Ad):List (Ab (List (Str×Ad))):=
 (([196,209,223,236]:List Tok).flatMap λt=>[some (l5 v1 v2 (.int 0 t) .none .none),some (l5 v1 v2 (.int 0 t) .none k),some (l5 v1 v2 v3 v4 .none),some (l5 v1 v2 v3 v4 k)])++
  [some (l2 "initial_size" v1 (.int 0 445)),some (l2 "initial_size" v1 v2),some (l2 "i" v1 (.int 0 464)),some (l2 "i" v1 v2),some (l2 "startval" v1 .none),some (l2 "startval" v1 v2)]
abbrev Ft:Type:=List (Ab (Ge×EM×BQ×Ah×Ah×Str))
abbrev Pk:Type:=Setting->Ad->Ad->Ad->Ad->Ad->List (Ab (List (Str×Ad)))
def yA(s:Aj):Aa×Ft×Pk:=(ckA (B7 (M5 s.heap)) rr.prog,gx.map (U7 (B7 (M5 s.heap))),Zz (B7 (M5 s.heap)))
def zA(_:DG):Aa×Ft×Pk:=(true,gx.map U8,λ_=>Tc)
def yB(s:Aj):Aa:=ckB (M5 s.heap)
noncomputable def zB(_:DG):Aa:=true
def xt(s:Aj):Aa:=xlAt qq [] s&&recOk (RowW.records rr.toRowW) s
theorem Abk:WL.wellSaid=true:=⋯
theorem ok1:(chainsOk qq&&opensWell rr.prog&&(frees rr.toRowW&&rr.within.isEmpty))=true:=⋯
theorem bare:rr.prog.bare:=⟨by kernel_rfl,by kernel_rfl,by kernel_rfl,by kernel_rfl,by kernel_rfl,by kernel_rfl⟩
theorem xf:LeftO rr.prog qq lse xt (λs=>(yA s,yB s)) (λw=>(zA w,zB w)) 3388:=λw=>⋯
section
open PySem.W.X
theorem atI{α:Type}{l l':List α}(h:l=l')(i:Nat):l[i]?=l'[i]?:=h▸rfl
theorem gH{K:AI}(h:Zz K=λ_=>Tc):ND K:=by
 have e:∀S v1 v2 v3 v4 k,Zz K S v1 v2 v3 v4 k=Tc v1 v2 v3 v4 k:=λS v1 v2 v3 v4 k=>by rw[h]
 have g:∀S v1 v2 v3 v4 k (i:Nat),(Zz K S v1 v2 v3 v4 k)[i]?=(Tc v1 v2 v3 v4 k)[i]?:=λS v1 v2 v3 v4 k i=>atI (e S v1 v2 v3 v4 k) i
 exact⟨⟨196,λS v1 v2 v3 v4 k=>⟨⟨AQ (g S v1 v2 v3 v4 k 0),AQ (g S v1 v2 v3 v4 k 1)⟩,AQ (g S v1 v2 v3 v4 k 2),AQ (g S v1 v2 v3 v4 k 3)⟩⟩,
  ⟨209,λS v1 v2 v3 v4 k=>⟨⟨AQ (g S v1 v2 v3 v4 k 4),AQ (g S v1 v2 v3 v4 k 5)⟩,AQ (g S v1 v2 v3 v4 k 6),AQ (g S v1 v2 v3 v4 k 7)⟩⟩,
  ⟨223,λS v1 v2 v3 v4 k=>⟨⟨AQ (g S v1 v2 v3 v4 k 8),AQ (g S v1 v2 v3 v4 k 9)⟩,AQ (g S v1 v2 v3 v4 k 10),AQ (g S v1 v2 v3 v4 k 11)⟩⟩,
  ⟨236,λS v1 v2 v3 v4 k=>⟨⟨AQ (g S v1 v2 v3 v4 k 12),AQ (g S v1 v2 v3 v4 k 13)⟩,AQ (g S v1 v2 v3 v4 k 14),AQ (g S v1 v2 v3 v4 k 15)⟩⟩,
  ⟨445,λS v1 v2=>⟨AQ (g S v1 v2 v1 v1 v1 16),AQ (g S v1 v2 v1 v1 v1 17)⟩⟩,⟨464,λS v1 v2=>⟨AQ (g S v1 v2 v1 v1 v1 18),AQ (g S v1 v2 v1 v1 v1 19)⟩⟩,λS v1 v2=>⟨AQ (g S v1 v2 v1 v1 v1 20),AQ (g S v1 v2 v1 v1 v1 21)⟩⟩
theorem xg(hM:∀b,¬ π.M b)(T:TabsOk s.heap)(P:PG c wr none π [] s H' π' s'):OldK s.heap s'.heap:=by
 refine⟨λb o e=>(DI (b∈TB)).elim (λhb=>?_) λhb=>.inl (P.kp.keep b o (λx=>x.elim nofun (hM b)) hb e),P.there⟩
 obtain ⟨t,ht,rfl⟩:=TV _ hb
 obtain ⟨⟨oc,vs,_,_,_,_,_,_,_,q1,q2,q3,q4,_⟩,ps,hp,_⟩:=T t ht
 rw[e] at hp
 cases hp
 obtain ⟨more,hm⟩:=P.kp.tabs _ hb ps e
 exact .inr (.inl ⟨⟨t.1,oc,vs,q1,q2,q3,q4⟩,rfl,ps,more,rfl,hm⟩)
end
section
open PySem.W.X
theorem ry(L:Laid R w s₀ s₁ [ofPy (.list xs)] [.ref l] as)(h:s₁.heap.IsList l QI):Yv s₁.heap l QI:=by
 refine L.laid.elim λord e=>?_
 have e:=e.2
 cases q:layW R (classAt s₀.heap) w.params ord (ofPy (.list xs)) s₀ with
 |none=>rw[layAllW,q] at e;cases e
 |some a=>
  rw[layAllW,q] at e
  have e:some ([a.1],a.2)=some ([Bq l],s₁):=e
  have e:=Hf (AQ e)
  refine(layW_list (xs:=ofPys xs) q).elim λp z=>?_
  have z:=z.2
  have e1:=(Gk e.1).1
  rw[z] at e1 e
  have g:s₁.heap.get? l=some {cls:=.type "list",data:=.seq p.1.toArray}:=by
   rw[<-CV e1,<-e.2]
   exact Bp _ rfl
  refine h.elim λo y=>?_
  obtain rfl:=AQ (y.1.symm.trans g)
  exact⟨_,y.1,y.2.1,rfl,y.2.2⟩
theorem xh(hi:IntsAre QI xs):Ag π n h (xs.map .int) QI:=by
 induction hi with
 |nil=>exact .nil
 |cons i t _ ih=>exact .cons .mkInt ih
abbrev yf(s:Aj):=(yA s,yB s)
abbrev ya(w:DG):=(zA w,zB w)
theorem dfS:(defOf qq rr.name).isSome=true:=⋯
def dp:=(defOf qq rr.name).get dfS
set_option tactic.hygienic true in
theorem gJ(plain:∀xs:List Int,xs.length<=63->∃S,aj 118 xs=some ⟨.bool true,S⟩/\S.ob=true):WL.Holds:=by
 refine holds_law Abk λxi=>?_
 refine holds_openX (q:=qq) (loose:=lse) (Xt:=xt) (XP:=XL qq []) (Yf:=yf) (Ya:=ya) (d:=dp.1) (kwd:=dp.2) (N:=3388) xf (λs e=>xl_of s (Lw.mp e).1) XL.keeps (Ab.some_get dfS).symm ⋯ ⋯ (λs e=>recFacts_of (Lw.mp e).2) (by rfl) xi ok1 bare ?hw ?hc
 case hw=>w_witness2
 case hc=>
  intro w s₀ s₁ mg mb G y fa o pm cd doc dV kV ho hd yV hD hmg hg args vals as L Abl Abm hrd hwl hlo
  clear hd hD
  refine Ground.open G ?_
  intro T B D TE TW
  wrow_args Abl Abm hrd hwl hlo
  rename_i xs _ _ _ _ _ _ _ l QI _ hL _ _ _ hI _ hc1 _
  have X:AI.In (M5 s₀.heap) s₁.heap:=(PM s₀.heap need).keeps L.keeps
  have hy:=Hf y
  have hyA:=Hf hy.1
  have hyB:=Hf hyA.2
  have ka:ckA (B7 (M5 s₀.heap)) rr.prog=true:=hyA.1
  have kb:ckB (M5 s₀.heap)=true:=hy.2
  have a2:=Am ka;have a3:=Am a2;have a4:=Am a3;have b2:=Am kb;have b3:=Am b2
  have BR:=ru (prog:=rr.prog) (w:=w) X (Ax kb) hyB.1 (Am a4) (gH hyB.2) (Ax ka) (Ax a2) (Ax a3) (Ax a4) (Ax b2) (Ax b3)
  have hfa:fa=294:=(NC X (Ax (Ax kb)) (Am b3)).elim λv z=>AH z.2 λy0 g=>g.elim λmb' g=>by
   have hm:mg ("law" :Str)=some (.ref fa):=hmg
   rw[T.g.eq_nsMap,<-g.1.eq_nsMap] at hm
   have hv:v=.ref 294:=Ds z.1
   refine g.2.2.elim (λe=>?_) λe=>nomatch e.1.symm.trans hm
   exact CV (AQ (hm.symm.trans (e.trans (Ai some hv))))
  subst hfa
  refine(plain xs (by exact(pw [.n (.T (.n (.k 63)) (.n .p))] (.l .p (.k 63)) [] [_]) hc1)).elim λS hS=>?_
  have cx:=XQ BR hS.1 hS.2
  have G0:Av (wX rr.prog w s₁ (M5 s₀.heap) X (Ax kb)) ⟨λ_=>0,λ_=>Cd⟩ [] s₁:=⟨.refl _,nofun,nofun,nofun,nofun,nofun⟩
  refine AJ (cx callerA _ s₁ _ (.ref 294) [.ref l] [] ⟨rfl,by decide,by decide,[],rfl⟩ (AP _) G0 .FV (.cons ⟨l,QI.toArray,rfl,ry L hL,id,?_⟩ .nil) .nil) (λv s' q=>q.elim λπ' q=>?_) λ_ _ x=>x
  ·exact xh hI
  ·cases q.2.val
   refine⟨.inl ⟨.bool true,.bool true,[],rfl,λ_=>rfl,.bool _,by wrow_post,λ_=>⟨.nil,nofun⟩⟩,xg (λ_=>id) G0.tabs q.1,q.1.kp.os,?_⟩
   exact q.1.kp.gens (hg▸.empty)
end
end
noncomputable def jd(o:Ab FI):FI:=o.getD ⟨⟨[],[],none,[],[],none,[]⟩,.stmts [],default,[],[],[],none,none,"",false⟩
noncomputable def E9(b:EM):List Az:=match b with | .stmts b=>b | _=>[]
def y3:FI:=jd (FT 294)
def Ck:List Az:=E9 y3.body
def A6:FD:=Au y3 0 0
def seg(i n:Nat):List Az:=(Ck.drop i).take n
noncomputable def sL(x:List Nat):AV:=.str ⟨x.toArray⟩
abbrev bA:=List (List Nat)
noncomputable def xj(parts:List bA)(p:Nat):List bA:=match parts[p]? with
 |some [w,r,g,b]=>parts.take p++([[w++[114],w,g,b],[w++[103],r,w,b],[w++[98],r,g,w]]++parts.drop (p+1))
 |_=>parts
noncomputable def xk:List bA:=[[[],[82],[71],[66]]]
def Abn(ps:List Nat):List bA:=ps.foldl xj xk
noncomputable def xl:List bA->List Nat->List bA
 |_,[]=>[]
 |ts,p::ps=>(ts[p]?).getD []::xl (xj ts p) ps
noncomputable def hd0(t:bA):List Nat:=t.headD []
structure Pc where
 a:Nat
 b:Nat
 c:Nat
def Pc.l(p:Pc):List Nat:=[0,p.a,p.b,p.c]
def Pc.left(p:Pc):List (List Nat):=(Abn p.l).map hd0
def Pc.cut(p:Pc):List bA:=xl xk p.l
def Pc.words(p:Pc):List (List Nat):=p.cut.map hd0
def Pc.text(p:Pc):List Nat:=p.left.flatMap λw=>32::w
def I8(t:bA):AV:=.tup (t.map sL)
def Pc.names(p:Pc):List (List Nat):=[[82],[71],[66]]++p.words
def y4(sc nu gr qu:AV)(p:Pc)(f:Int):Lo:=[("script",sc),("number",nu),("places",.lst (p.l.map λ(i:Nat)=>AV.int i)),("grains",gr),("quarter",qu),("first",.int f)]
noncomputable def H3(ot:AV):List AO:=.cell (some ot)::FP 10 (.cell none)
def lN(sc nu gr qu:AV)(p:Pc)(f:Int)(wh:Aa):Lo:=A8 (y4 sc nu gr qu p f) [("row",.loc 12),("is_white",.bool wh),("words",.loc 13),("left",.lst (p.left.map sL)),("cut",.lst (p.cut.map I8)),("text",sL p.text),("leaves",.lst (p.left.map sL))]
def H13(ot gr:AV)(p:Pc)(f:Int):List AO:=[.cell (some ot),.cell none,.cell none,.cell (some (.lst (p.names.map sL)))]++FP 7 (.cell none)++
 [.dict [("_initial_size",.int f)],.acc 11 (p.left.map λw=>.tup [.str " ",sL w]),.list (p.words.map sL)]
noncomputable def e0:Expr:=default
noncomputable def xm:Az->Expr×List Az×List Az×Expr×Pos
 |.If t a b p=>(t,a,b,e0,p)
 |.While t b o p=>(t,b,o,e0,p)
 |.For t i b o p=>(t,b,o,i,p)
 |.Assign ts e p=>(ts.headD e0,[],[],e,p)
 |.Expr e p=>(e0,[],[],e,p)
 |.Return (some e) p=>(e0,[],[],e,p)
 |_=>(e0,[],[],e0,default)
def BU(s:Az):Expr:=(xm s).1
def B3(s:Az):List Az:=(xm s).2.1
def lO(s:Az):List Az:=(xm s).2.2.1
def Cm(s:Az):Expr:=(xm s).2.2.2.1
def bB(s:Az):Pos:=(xm s).2.2.2.2
noncomputable def xn:Expr->Expr×Expr×List Expr×List EN×Pos
 |.Compare a _ b p=>(a,b.headD e0,[],[],p)
 |.BinOp a _ b p=>(a,b,[],[],p)
 |.Subscript a b p=>(a,b,[],[],p)
 |.Attribute a _ p=>(a,e0,[],[],p)
 |.Call f as ks p=>(f,e0,as,ks,p)
 |.ListComp e _ _ p=>(e,e0,[],[],p)
 |.UnaryOp _ a p=>(a,e0,[],[],p)
 |.List es p=>(e0,e0,es,[],p)
 |.Tuple es _ p=>(e0,e0,es,[],p)
 |.BoolOp _ es p=>(e0,e0,es,[],p)
 |.Name _ p=>(e0,e0,[],[],p)
 |_=>(e0,e0,[],[],default)
def E6(e:Expr):Expr:=(xn e).1
def Ec(e:Expr):Expr:=(xn e).2.1
def C0(e:Expr):List Expr:=(xn e).2.2.1
def U9(e:Expr):List EN:=(xn e).2.2.2.1
def Jy(e:Expr):Pos:=(xn e).2.2.2.2
noncomputable def gK:Expr->G9 | .Compare _ os _ _=>os.headD .Eq | _=>.Eq
noncomputable def y5:Expr->Str | .Attribute _ m _=>m | _=>""
noncomputable def NF(l:List Az):Az:=l.headD (.Pass default)
noncomputable abbrev Bb:List Az->Nat->Az
 |l,0=>NF l
 |l,i+1=>Bb l.tail i
noncomputable abbrev CA:List Expr->Nat->Expr
 |l,0=>l.headD e0
 |l,i+1=>CA l.tail i
def fnX(e:Expr):Str:=Bw (E6 e)
section
variable{r:Ev}{fr:FD}{lo lo1:Lo}{S S1 S2:St}
theorem Ak{l:List Az}(h:l=NF l::l.tail)(hX:r.X fr lo S (NF l)=some ⟨.next,lo1,S1⟩):Xs r fr lo S l=Xs r fr lo1 S1 l.tail:=
 (Ai (Xs r fr lo S) h).trans (Ai (λo:Ab Rx=>o.bind λx=>cond x.fl.C8 (Xs r fr x.lo x.S l.tail) (some x)) hX)
theorem Kt{l:List Az}{x:Rx}(h:l=NF l::l.tail)(hX:r.X fr lo S (NF l)=some x)(hx:x.fl.C8=false):Xs r fr lo S l=some x:=
 (Ai (Xs r fr lo S) h).trans ((Ai (λo:Ab Rx=>o.bind λx=>cond x.fl.C8 (Xs r fr x.lo x.S l.tail) (some x)) hX).trans (Ai (λb=>cond b (Xs r fr x.lo x.S l.tail) (some x)) hx))
theorem CB{l:List Expr}{v:AV}{vs:List AV}(h:l=CA l 0::l.tail)(h1:r.E fr lo S (CA l 0)=some ⟨v,S1⟩)(h2:Ji r fr lo S1 l.tail=some ⟨vs,S2⟩):Ji r fr lo S l=some ⟨v::vs,S2⟩:=
 (Ai (Ji r fr lo S) h).trans ((Ai (λo:Ab (Rt AV)=>o.bind λx=>(Ji r fr lo x.S l.tail).bind λy=>some (⟨x.v::y.v,y.S⟩ :Rt (List AV))) h1).trans (Ai (λo:Ab (Rt (List AV))=>o.bind λy=>some (⟨v::y.v,y.S⟩ :Rt (List AV))) h2))
theorem Dg{l:List Expr}{v:AV}(h:l=[CA l 0])(hE:r.E fr lo S (CA l 0)=some ⟨v,S1⟩):Ji r fr lo S l=some ⟨[v],S1⟩:=
 (Ai (Ji r fr lo S) h).trans (Ai (λo:Ab (Rt AV)=>o.bind λx=>some (⟨[x.v],x.S⟩ :Rt (List AV))) hE)
theorem Jq{fi:FI}{as:List AV}{ks:List (Str×AV)}{wr:Nat}{binds lo Bv:Lo}{b:Aa}{H:List AO}{fl:AF}{v v':AV}{b':Aa}
  (hc:AK fi.scope.names=[])(hb:Cv fi as ks=some binds)(hp:IK (Au fi H.length wr) [] ⟨H,b⟩ binds=some ⟨lo,⟨H,b⟩⟩)(he:fi.Ss=false)(hB:fi.body=.stmts (E9 fi.body))
  (hX:Xs r (Au fi H.length wr) lo ⟨H,b⟩ (E9 fi.body)=some ⟨fl,Bv,⟨H,b'⟩⟩)(hv:fl.Nb=some v)(hz:fz 6 H.length H v=some v'):CM r fi as ks wr ⟨H,b⟩=some ⟨v',⟨H,b'⟩⟩:=by
 unfold CM
 rw[hc,hb]
 show((IK (Au fi H.length wr) [] ⟨H++[],b⟩ binds).bind λp=>(KN r (Au fi H.length wr) fi.body p.v p.S).bind λx=>cond fi.Ss (some x) (letGo ⟨H,b⟩ x))=_
 rw[DX,hp,hB,he]
 show(((Xs r (Au fi H.length wr) lo ⟨H,b⟩ (E9 fi.body)).bind λx=>x.fl.Nb.bind λv=>some (⟨v,x.S⟩ :Rt AV)).bind λx=>letGo ⟨H,b⟩ x)=_
 rw[hX]
 show((fl.Nb.bind λv=>some (⟨v,⟨H,b'⟩⟩ :Rt AV)).bind λx=>letGo ⟨H,b⟩ x)=_
 rw[hv]
 show(fz 6 H.length H v).bind (λv=>some (⟨v,⟨H,b'⟩⟩ :Rt AV))=_
 rw[hz]
 rfl
end
section
variable{n:Nat}{fr:FD}{lo lo1:Lo}{S S1 S2:St}
theorem K1{s:Az}{b:Aa}(h:s=.If (BU s) (B3 s) (lO s) (bB s))(hT:(ev n).T fr lo S (BU s)=some ⟨b,S1⟩):(ev (n+1)).X fr lo S s=cond b (Xs (ev n) fr lo S1 (B3 s)) (Xs (ev n) fr lo S1 (lO s)):=
 (Ai ((ev (n+1)).X fr lo S) h).trans (Ai (λo:Ab (Rt Aa)=>o.bind λx=>cond x.v (Xs (ev n) fr lo x.S (B3 s)) (Xs (ev n) fr lo x.S (lO s))) hT)
theorem y6{s:Az}{x:Rx}(h:s=.While (BU s) (B3 s) [] (bB s))(hw:Hk (ev n) fr (BU s) (B3 s) 60 lo S=some x):(ev (n+1)).X fr lo S s=some (IQ x):=
 (Ai ((ev (n+1)).X fr lo S) h).trans (Ai (λo:Ab Rx=>o.bind λx=>some (IQ x)) hw)
theorem K4{e:Expr}{v1 v2:AV}{b:Aa}(h:e=.Compare (E6 e) [gK e] [Ec e] (Jy e))(hn:Gp (Ec e)=true)(h1:(ev n).E fr lo S (E6 e)=some ⟨v1,S1⟩)(h2:(ev n).E fr lo S1 (Ec e)=some ⟨v2,S2⟩)(o:G9)(ho:gK e=o)(h3:Gz o v1 v2 S2=some b):(ev (n+1)).T fr lo S e=some ⟨b,S2⟩:=
 (Ai ((ev (n+1)).T fr lo S) h).trans ((Ai (λz:Ab (Rt AV)=>z.bind λx=>(Ua (ev n) fr lo x (gK e) (Ec e)).bind λy=>some (⟨y.v.2,y.S⟩ :Rt Aa)) h1).trans ((Ai (λz:Aa=>(Af z (((ev n).E fr lo S1 (Ec e)).bind λy=>(Gz (gK e) v1 y.v y.S).bind λt=>some (⟨(y.v,t),y.S⟩ :Rt (AV×Aa)))).bind λy=>some (⟨y.v.2,y.S⟩ :Rt Aa)) hn).trans
  ((Ai (λz:Ab (Rt AV)=>(z.bind λy=>(Gz (gK e) v1 y.v y.S).bind λt=>some (⟨(y.v,t),y.S⟩ :Rt (AV×Aa))).bind λy=>some (⟨y.v.2,y.S⟩ :Rt Aa)) h2).trans (Ai (λz:Ab Aa=>(z.bind λt=>some (⟨(v2,t),S2⟩ :Rt (AV×Aa))).bind λy=>some (⟨y.v.2,y.S⟩ :Rt Aa)) (ho▸h3)))))
theorem CH{e:Expr}{f:AV}{vs:List AV}{kv:List (Str×AV)}(h:e=.Call (.Name (fnX e) (Jy (E6 e))) (C0 e) (U9 e) (Jy e))(hn:Hi fr (fnX e) (C0 e) (U9 e)=none)(hs:noStar 200 (C0 e)=true)(hf:nameA fr lo S (fnX e)=some f)
  (ha:Ji (ev n) fr lo S (C0 e)=some ⟨vs,S1⟩)(hk:Sw (ev n) fr lo S1 (U9 e)=some ⟨kv,S2⟩):(ev (n+1)).E fr lo S e=A9 (ev n) fr.wr f vs kv S2:=
 (Ai ((ev (n+1)).E fr lo S) h).trans ((Ai (λz:Ab Expr=>(match z with
  |some e=>((ev n).E fr lo S e).bind KO
  |none=>Af (noStar 200 (C0 e)) ((nameA fr lo S (fnX e)).bind λf=>(Ji (ev n) fr lo S (C0 e)).bind λvs=>(Sw (ev n) fr lo vs.S (U9 e)).bind λkv=>A9 (ev n) fr.wr f vs.v kv.v kv.S):Ab (Rt AV))) hn).trans
  ((Ai (λz=>Af z ((nameA fr lo S (fnX e)).bind λf=>(Ji (ev n) fr lo S (C0 e)).bind λvs=>(Sw (ev n) fr lo vs.S (U9 e)).bind λkv=>A9 (ev n) fr.wr f vs.v kv.v kv.S)) hs).trans
  ((Ai (λz:Ab AV=>z.bind λf=>(Ji (ev n) fr lo S (C0 e)).bind λvs=>(Sw (ev n) fr lo vs.S (U9 e)).bind λkv=>A9 (ev n) fr.wr f vs.v kv.v kv.S) hf).trans
  ((Ai (λz:Ab (Rt (List AV))=>z.bind λvs=>(Sw (ev n) fr lo vs.S (U9 e)).bind λkv=>A9 (ev n) fr.wr f vs.v kv.v kv.S) ha).trans (Ai (λz:Ab (Rt (List (Str×AV)))=>z.bind λkv=>A9 (ev n) fr.wr f vs kv.v kv.S) hk)))))
theorem Td{e:Expr}{v k w:AV}(h:e=.Subscript (E6 e) (Ec e) (Jy e))(hs:Fu (Ec e)=none)(h1:(ev n).E fr lo S (E6 e)=some ⟨v,S1⟩)(h2:(ev n).E fr lo S1 (Ec e)=some ⟨k,S2⟩)(h3:II S2 v k=some w):(ev (n+1)).E fr lo S e=some ⟨w,S2⟩:=by
 refine(Ai ((ev (n+1)).E fr lo S) h).trans ?_
 show ai (ev n) fr lo S (E6 e) (Ec e)=_
 unfold ai
 rw[h1,hs]
 show((ev n).E fr lo S1 (Ec e)).bind (λk=>(II k.S v k.v).bind λv=>some (⟨v,k.S⟩ :Rt AV))=_
 rw[h2]
 show(II S2 v k).bind (λv=>some (⟨v,S2⟩ :Rt AV))=_
 rw[h3]
 rfl
theorem Ni{s:Az}{v:AV}(h:s=.Assign [.Name (Bw (BU s)) (Jy (BU s))] (Cm s) (bB s))(hc:(match MP (Cm s) with | some _=>false | none=>Hh (Cm s) && !Kg (Bw (BU s)) MO)=true)(hE:(ev n).E fr lo S (Cm s)=some ⟨v,S1⟩):(ev (n+1)).X fr lo S s=Hl (putN fr lo S1 (Bw (BU s)) v):=by
 refine(Ai ((ev (n+1)).X fr lo S) h).trans ?_
 show OX (ev n) fr lo S (Bw (BU s)) (Cm s)=_
 unfold OX
 cases hz:MP (Cm s) with
 |some _=>rw[hz] at hc;exact VU hc
 |none=>
  rw[hz] at hc
  have h2:=Lw.mp hc
  rw[h2.1]
  show(cond (Kg (Bw (BU s)) MO) _ ((ev n).E fr lo S (Cm s))).bind (λv=>Hl (putN fr lo v.S (Bw (BU s)) v.v))=_
  rw[show Kg (Bw (BU s)) MO=false from VT _▸h2.2]
  rw[hE]
  rfl
theorem Qm{s:Az}{v:AV}(h:s=.Expr (Cm s) (bB s))(hc:Hh (Cm s)=true)(hE:(ev n).E fr lo S (Cm s)=some ⟨v,S1⟩):(ev (n+1)).X fr lo S s=some ⟨.next,lo,S1⟩:=
 (Ai ((ev (n+1)).X fr lo S) h).trans ((Ai (λb=>Af b (((ev n).E fr lo S (Cm s)).bind λx=>nx lo x.S)) hc).trans (Ai (λo:Ab (Rt AV)=>o.bind λx=>nx lo x.S) hE))
theorem I9{e:Expr}{v:AV}{k:Sy}{vs:List AV}(h:e=.Call (.Attribute (E6 (E6 e)) (y5 (E6 e)) (Jy (E6 e))) (C0 e) [] (Jy e))(hb:(baseOk (E6 (E6 e))&&((Jy (E6 e)).endLine==(Jy e).line))=true)(hs:Nv (C0 e)=none)(hn:noStar 20 (C0 e)=true)
  (h1:(ev n).E fr lo S (E6 (E6 e))=some ⟨v,S1⟩)(m:Str)(hm:y5 (E6 e)=m)(hg:OS S1 v m=some k)(ha:Ji (ev n) fr lo S1 (C0 e)=some ⟨vs,S2⟩):(ev (n+1)).E fr lo S e=IM (ev n) fr.wr k v vs S2:=by
 refine(Ai ((ev (n+1)).E fr lo S) h).trans ((Ai (λz=>Af z (SH (ev n) fr lo S (E6 (E6 e)) (y5 (E6 e)) (C0 e))) hb).trans ?_)
 unfold SH
 rw[h1,hs]
 show(OS S1 v (y5 (E6 e))).bind (λk=>Af (noStar 20 (C0 e)) ((Ji (ev n) fr lo S1 (C0 e)).bind λvs=>IM (ev n) fr.wr k v vs.v vs.S))=_
 rw[hm,hg,hn]
 rw[ha]
 rfl
theorem Te{r:Ev}{fi:FI}{as:List AV}{ks:List (Str×AV)}{wr:Nat}{binds lo Bv:Lo}{b:Aa}{H:List AO}{fl:AF}{v:AV}{S':St}
  (hc:AK fi.scope.names=[])(hb:Cv fi as ks=some binds)(hp:IK (Au fi H.length wr) [] ⟨H,b⟩ binds=some ⟨lo,⟨H,b⟩⟩)(he:fi.Ss=true)(hB:fi.body=.stmts (E9 fi.body))
  (hX:Xs r (Au fi H.length wr) lo ⟨H,b⟩ (E9 fi.body)=some ⟨fl,Bv,S'⟩)(hv:fl.Nb=some v):CM r fi as ks wr ⟨H,b⟩=some ⟨v,S'⟩:=by
 unfold CM
 rw[hc,hb]
 show((IK (Au fi H.length wr) [] ⟨H++[],b⟩ binds).bind λp=>(KN r (Au fi H.length wr) fi.body p.v p.S).bind λx=>cond fi.Ss (some x) (letGo ⟨H,b⟩ x))=_
 rw[DX,hp,hB,he]
 show(((Xs r (Au fi H.length wr) lo ⟨H,b⟩ (E9 fi.body)).bind λx=>x.fl.Nb.bind λv=>some (⟨v,x.S⟩ :Rt AV)).bind λx=>some x)=_
 rw[hX]
 show((fl.Nb.bind λv=>some (⟨v,S'⟩ :Rt AV)).bind λx=>some x)=_
 rw[hv]
 rfl
theorem MF{i:Nat}{xs:List AV}{v:AV}(hV:xs[i]?=some v)(hn:xs.length<1000):(Af (decide (xs.length<100000)) ((Cp (i:Int) xs.length).bind (xs[·]?)))=some v:=by
 have hi:=Nat.lt_of_not_le λh=>by rw[H5 h] at hV;nomatch hV
 rw[AU (show xs.length<100000 by exact(pw [.t .p (.k 1000)] (.t .p (.k 100000)) [] [_]) hn),show Cp (i:Int) xs.length=some i from by
  unfold Cp
  dsimp only
  rw[AD (show ¬ ((i:Int)<0) by exact(pw [] (.n (.T (.n .p) (.j 0))) [] [_])),Bh (Lw.mpr ⟨AU (HF i),AU (DB.mpr hi)⟩)]
  rfl]
 exact hV
theorem Jr{i A:Nat}{xs:List AV}{v:AV}{b:Aa}{H:List AO}(hA:H[A]?=some (.list xs))(hV:xs[i]?=some v)(hn:xs.length<1000):II ⟨H,b⟩ (.loc A) (.int i)=some v:=
 (Ai (λo:Ab AO=>(o.bind ue).bind λxs:List AV=>Af (decide (xs.length<100000)) ((Cp (i:Int) xs.length).bind (xs[·]?))) hA).trans (MF hV hn)
end
def CJ:FI:=jd (FT 57)
def CK:FI:=jd (FT 39)
noncomputable def bl(a x:AV)(l h:Int)(key:AV)(m:Ab AV):Lo:=A8 [("a",a),("x",x),("lo",.int l),("hi",.int h),("key",key)] (m.elim [] λv=>[("mid",v)])
def JL(a x key:AV):Lo:=[("a",a),("x",x),("lo",.int 0),("hi",.none),("key",key)]
theorem MG{n:Nat}(hl:TZ S.H a=some (n:Int))(hn:n<1000):A9 r wr (.val (.builtin "len")) [a] [] S=some ⟨.int n,S⟩:=by
 have e:A9 r wr (.val (.builtin "len")) [a] [] S=(TZ S.H a).bind λn=>some ⟨.int n,S.need (decide (0<=n/\n<2^60))⟩:=⋯
 rw[e,hl]
 show some (⟨.int n,S.need (decide ((0:Int)<=n/\(n:Int)<2^60))⟩ :Rt AV)=_
 rw[AU ⟨HF n,(pw [.t .p (.k 1000)] (.T (.n .p) (.j (2^60))) [] [_]) hn⟩]
 rfl
theorem y7{P:Nat->Aa}(h1:B3 wS=NF (B3 wS)::(B3 wS).tail)(h2:(B3 wS).tail=NF (B3 wS).tail::(B3 wS).tail.tail)(h3:(B3 wS).tail.tail=[])
  (hT:∀l h m,(ev N).T fr (bl a x l h key m) S (BU wS)=some ⟨decide (l<h),S⟩)
  (hA:∀l h m,(ev N).X fr (bl a x l h key m) S (NF (B3 wS))=some ⟨.next,bl a x l h key (some (.int ((l+h).fdiv 2))),S⟩)
  (hC:∀(l h:Int)(i:Nat),i<n->(ev N).X fr (bl a x l h key (some (.int i))) S (NF (B3 wS).tail)=some ⟨.next,cond (P i) (bl a x (i+1) h key (some (.int i))) (bl a x l i key (some (.int i))),S⟩)
  (p1:∀i,i<c->P i=true)(p2:∀i,c<=i->i<n->P i=false):
  ∀(j l h:Nat)(m:Ab AV),l<=c->c<=h->h<=n->h-l<j->∃m',Hk (ev N) fr (BU wS) (B3 wS) j (bl a x l h key m) S=some ⟨.next,bl a x c c key m',S⟩:=by
 intro j
 induction j with
 |zero=>intro l h m _ _ _ q;exact AL q (F8 _)
 |succ j ih=>
  intro l h m hl hh hn hj
  show ∃m',(((ev N).T fr (bl a x l h key m) S (BU wS)).bind λb=>cond b.v ((Xs (ev N) fr (bl a x l h key m) b.S (B3 wS)).bind λx=>cond x.fl.GB (Hk (ev N) fr (BU wS) (B3 wS) j x.lo x.S) (some x)) (some (⟨.next,bl a x l h key m,b.S⟩ :Rx)))=_
  rw[hT]
  show ∃m',cond (decide ((l:Int)<h)) ((Xs (ev N) fr (bl a x l h key m) S (B3 wS)).bind λx=>cond x.fl.GB (Hk (ev N) fr (BU wS) (B3 wS) j x.lo x.S) (some x)) (some (⟨.next,bl a x l h key m,S⟩ :Rx))=_
  by_cases q:l<h
  ·rw[AU (DB.mpr q),Ak h1 (hA l h m),show((l:Int)+h).fdiv 2=((l+h)/2:Nat) from(NT _ ⋯).trans ((pw [.E (.A (.l 2 .p) .q) (.A (.n .q) (.n .r)),.T .q (.j 2),.L (.j 0) .q,.e (.A (.m 2 .p) .s) (.A .q .r),.t .s (.k 2)] (.E .p (.n .p)) [_,_] [_,_,_,_]) (VX _ _) (Lx _ ⋯) (Lz _ ⋯) (Du _ _) (Dx _ ⋯)),Ak h2 (hC l h ((l+h)/2) ((pw [.l .p .q,.t .r .p,.e (.A (.m 2 .s) .t) (.A .r .p),.t .t (.k 2)] (.t .s .q) [] [_,_,_,_,_]) hn q (Du _ _) (Dx _ ⋯))),h3]
   cases e:P ((l+h)/2) with
   |true=>exact ih ((l+h)/2+1) h _ (Nat.lt_of_not_le λz=>by rw[p2 _ z ((pw [.l .p .q,.t .r .p,.e (.A (.m 2 .s) .t) (.A .r .p),.t .t (.k 2)] (.t .s .q) [] [_,_,_,_,_]) hn q (Du _ _) (Dx _ ⋯))] at e;nomatch e) hh hn ((pw [.t (.S .p .q) (.A .r (.k 1)),.t .q .p,.e (.A (.m 2 .s) .t) (.A .q .p),.t .t (.k 2)] (.t (.S .p (.A .s (.k 1))) .r) [] [_,_,_,_,_]) hj q (Du _ _) (Dx _ ⋯))
   |false=>exact ih l ((l+h)/2) _ hl (N6 λz=>by rw[p1 _ z] at e;nomatch e) ((pw [.l .p .q,.t .r .p,.e (.A (.m 2 .s) .t) (.A .r .p),.t .t (.k 2)] (.l .s .q) [] [_,_,_,_,_]) hn q (Du _ _) (Dx _ ⋯)) ((pw [.t (.S .p .q) (.A .r (.k 1)),.t .q .p,.e (.A (.m 2 .s) .t) (.A .q .p),.t .t (.k 2)] (.t (.S .s .q) .r) [] [_,_,_,_,_]) hj q (Du _ _) (Dx _ ⋯))
  ·rw[Ct (λz=>q (DB.mp z)),show l=c from(pw [.l .p .q,.l .q .r,.n (.t .p .r)] (.e .p .q) [] [_,_,_]) hl hh q,show h=c from(pw [.l .p .q,.l .q .r,.n (.t .p .r)] (.e .r .q) [] [_,_,_]) hl hh q]
   exact⟨m,rfl⟩
def ws(fi:FI)(k:Aa):Az:=NF (cond k (lO (Bb (E9 fi.body) 2)) (B3 (Bb (E9 fi.body) 2)))
def wi(fi:FI)(k:Aa):Az:=NF (B3 (ws fi k)).tail
section
variable{k n wr:Nat}{a x key v:AV}{S:St}{l h:Int}{b:Aa}{i K:Int}
theorem t57:(ev (k+5)).T (Au CJ n wr) (bl a x l h key m) S (BU (ws CJ true))=some ⟨decide (l<h),S⟩:=by rcases m with ⟨⟩<;>kernel_rfl
theorem a57:(ev (k+5)).X (Au CJ n wr) (bl a x l h key m) S (NF (B3 (ws CJ true)))=some ⟨.next,bl a x l h key (some (.int ((l+h).fdiv 2))),S⟩:=by rcases m with ⟨⟩<;>kernel_rfl
theorem u57:(ev (k+5)).T (Au CJ n wr) (bl a x l h key m) S (BU (ws CJ false))=some ⟨decide (l<h),S⟩:=by rcases m with ⟨⟩<;>kernel_rfl
theorem b57:(ev (k+5)).X (Au CJ n wr) (bl a x l h key m) S (NF (B3 (ws CJ false)))=some ⟨.next,bl a x l h key (some (.int ((l+h).fdiv 2))),S⟩:=by rcases m with ⟨⟩<;>kernel_rfl
theorem t39:(ev (k+5)).T (Au CK n wr) (bl a x l h key m) S (BU (ws CK true))=some ⟨decide (l<h),S⟩:=by rcases m with ⟨⟩<;>kernel_rfl
theorem a39:(ev (k+5)).X (Au CK n wr) (bl a x l h key m) S (NF (B3 (ws CK true)))=some ⟨.next,bl a x l h key (some (.int ((l+h).fdiv 2))),S⟩:=by rcases m with ⟨⟩<;>kernel_rfl
theorem u39:(ev (k+5)).T (Au CK n wr) (bl a x l h key m) S (BU (ws CK false))=some ⟨decide (l<h),S⟩:=by rcases m with ⟨⟩<;>kernel_rfl
theorem b39:(ev (k+5)).X (Au CK n wr) (bl a x l h key m) S (NF (B3 (ws CK false)))=some ⟨.next,bl a x l h key (some (.int ((l+h).fdiv 2))),S⟩:=by rcases m with ⟨⟩<;>kernel_rfl
theorem Abq(hs:II S a (.int i)=some v)(hk:A9 (ev (k+2)) (Au CJ n wr).wr key [v] [] S=some ⟨.int K,S⟩)(hc:Gz .Lt (.int K) x S=some b):
  (ev (k+5)).X (Au CJ n wr) (bl a x l h key (some (.int i))) S (wi CJ true)=some ⟨.next,cond b (bl a x (i+1) h key (some (.int i))) (bl a x l i key (some (.int i))),S⟩:=by
 have E1:(ev (k+2)).E (Au CJ n wr) (bl a x l h key (some (.int i))) S (CA (C0 (E6 (BU (wi CJ true)))) 0)=some ⟨v,S⟩:=Td ⋯ ⋯ (S1:=S) ⋯ ⋯ hs
 have E2:=(CH ⋯ ⋯ ⋯ ⋯ (Dg ⋯ E1) ⋯).trans hk
 have T1:=K4 ⋯ ⋯ E2 ⋯ .Lt ⋯ hc
 refine(K1 ⋯ T1).trans ?_
 rcases b with ⟨⟩<;>kernel_rfl
theorem Abr(hs:II S a (.int i)=some v)(hc:Gz .Lt v x S=some b):
  (ev (k+5)).X (Au CJ n wr) (bl a x l h key (some (.int i))) S (wi CJ false)=some ⟨.next,cond b (bl a x (i+1) h key (some (.int i))) (bl a x l i key (some (.int i))),S⟩:=by
 have E1:(ev (k+3)).E (Au CJ n wr) (bl a x l h key (some (.int i))) S (E6 (BU (wi CJ false)))=some ⟨v,S⟩:=Td ⋯ ⋯ (S1:=S) ⋯ ⋯ hs
 have T1:=K4 ⋯ ⋯ E1 ⋯ .Lt ⋯ hc
 refine(K1 ⋯ T1).trans ?_
 rcases b with ⟨⟩<;>kernel_rfl
theorem Abs(hs:II S a (.int i)=some v)(hk:A9 (ev (k+2)) (Au CK n wr).wr key [v] [] S=some ⟨.int K,S⟩)(hc:Gz .Lt x (.int K) S=some b):
  (ev (k+5)).X (Au CK n wr) (bl a x l h key (some (.int i))) S (wi CK true)=some ⟨.next,cond b (bl a x l i key (some (.int i))) (bl a x (i+1) h key (some (.int i))),S⟩:=by
 have E1:(ev (k+2)).E (Au CK n wr) (bl a x l h key (some (.int i))) S (CA (C0 (Ec (BU (wi CK true)))) 0)=some ⟨v,S⟩:=Td ⋯ ⋯ (S1:=S) ⋯ ⋯ hs
 have E2:=(CH ⋯ ⋯ ⋯ ⋯ (Dg ⋯ E1) ⋯).trans hk
 have T1:=K4 (S:=S) ⋯ ⋯ ⋯ E2 .Lt ⋯ hc
 refine(K1 ⋯ T1).trans ?_
 rcases b with ⟨⟩<;>kernel_rfl
theorem Abt(hs:II S a (.int i)=some v)(hc:Gz .Lt x v S=some b):
  (ev (k+5)).X (Au CK n wr) (bl a x l h key (some (.int i))) S (wi CK false)=some ⟨.next,cond b (bl a x l i key (some (.int i))) (bl a x (i+1) h key (some (.int i))),S⟩:=by
 have E1:(ev (k+3)).E (Au CK n wr) (bl a x l h key (some (.int i))) S (Ec (BU (wi CK false)))=some ⟨v,S⟩:=Td ⋯ ⋯ (S1:=S) ⋯ ⋯ hs
 have T1:=K4 (S:=S) ⋯ ⋯ ⋯ E1 .Lt ⋯ hc
 refine(K1 ⋯ T1).trans ?_
 rcases b with ⟨⟩<;>kernel_rfl
end
theorem Abu{k wr c' n:Nat}{c:Sq}{V:Nat->AV}{K:Nat->Int}{P:Nat->Aa}
  (hb:Cv CJ as ks=some (JL a x (.BH c)))(hn:n<60)(hl:TZ H a=some (n:Int))(hs:∀i:Nat,i<n->II ⟨H,b⟩ a (.int i)=some (V i))
  (hk:∀i,i<n->A9 (ev (k+2)) H.length (.BH c) [V i] [] ⟨H,b⟩=some ⟨.int (K i),⟨H,b⟩⟩)(hc:∀i,i<n->Gz .Lt (.int (K i)) x ⟨H,b⟩=some (P i))(p1:∀i,i<c'->P i=true)(p2:∀i,c'<=i->i<n->P i=false)(hcn:c'<=n):A9 (ev (k+7)) wr (.val (.ref 57)) as ks ⟨H,b⟩=some ⟨.int c',⟨H,b⟩⟩:=by
 have El:(ev (k+5)).E (Au CJ H.length wr) (JL a x (.BH c)) ⟨H,b⟩ (Cm (NF (B3 (Bb (E9 CJ.body) 1))))=some ⟨.int n,⟨H,b⟩⟩:=
  (CH (S1:=⟨H,b⟩) ⋯ ⋯ ⋯ ⋯ ⋯ ⋯).trans (MG hl ((pw [.t .p (.k 60)] (.t .p (.k 1000)) [] [_]) hn))
 have X1:(ev (k+7)).X (Au CJ H.length wr) (JL a x (.BH c)) ⟨H,b⟩ (Bb (E9 CJ.body) 1)=some ⟨.next,bl a x 0 n (.BH c) none,⟨H,b⟩⟩:=
  (K1 (b:=true) ⋯ ⋯).trans ((Ak (lo1:=bl a x 0 n (.BH c) none) (S1:=⟨H,b⟩) ⋯ ((Ni ⋯ ⋯ El).trans ⋯)).trans ⋯)
 refine(y7 (fr:=Au CJ H.length wr) (a:=a) (x:=x) (key:=(.BH c)) (S:=⟨H,b⟩) (wS:=ws CJ true) ⋯ ⋯ ⋯ (λ_ _ _=>t57) (λ_ _ _=>a57) (λl h i hi=>Abq (hs i hi) (hk i hi) (hc i hi)) p1 p2 60 0 n none (Co _) hcn (AP _) hn).elim λm hw=>?_
 have X2:(ev (k+7)).X (Au CJ H.length wr) (bl a x 0 n (.BH c) none) ⟨H,b⟩ (Bb (E9 CJ.body) 2)=some ⟨.next,bl a x c' c' (.BH c) m,⟨H,b⟩⟩:=
  (K1 (n:=k+6) (b:=false) (S1:=⟨H,b⟩) ⋯ ⋯).trans ((Ak (lo1:=bl a x c' c' (.BH c) m) (S1:=⟨H,b⟩) ⋯ (y6 (n:=k+5) (s:=ws CJ true) ⋯ hw)).trans ⋯)
 refine Jq (fi:=CJ) ⋯ hb ⋯ ⋯ ⋯ (lo:=JL a x (.BH c)) (Bv:=bl a x c' c' (.BH c) m) (fl:=.ret (.int c')) ?_ rfl rfl
 refine(Ak (lo1:=(JL a x (.BH c))) (S1:=⟨H,b⟩) ⋯ ⋯).trans ((Ak ⋯ X1).trans ((Ak ⋯ X2).trans (Kt ⋯ (x:=⟨.ret (.int c'),bl a x c' c' (.BH c) m,⟨H,b⟩⟩) ?_ rfl)))
 rcases m with ⟨⟩<;>kernel_rfl
theorem xo{k wr c' n:Nat}{b:Aa}{V:Nat->AV}{P:Nat->Aa}
  (hb:Cv CJ as ks=some (JL a x .none))(hn:n<60)(hl:TZ H a=some (n:Int))(hs:∀i:Nat,i<n->II ⟨H,b⟩ a (.int i)=some (V i))
  (hc:∀i,i<n->Gz .Lt (V i) x ⟨H,b⟩=some (P i))(p1:∀i,i<c'->P i=true)(p2:∀i,c'<=i->i<n->P i=false)(hcn:c'<=n):A9 (ev (k+7)) wr (.val (.ref 57)) as ks ⟨H,b⟩=some ⟨.int c',⟨H,b⟩⟩:=by
 have El:(ev (k+5)).E (Au CJ H.length wr) (JL a x .none) ⟨H,b⟩ (Cm (NF (B3 (Bb (E9 CJ.body) 1))))=some ⟨.int n,⟨H,b⟩⟩:=
  (CH (S1:=⟨H,b⟩) ⋯ ⋯ ⋯ ⋯ ⋯ ⋯).trans (MG hl ((pw [.t .p (.k 60)] (.t .p (.k 1000)) [] [_]) hn))
 have X1:(ev (k+7)).X (Au CJ H.length wr) (JL a x .none) ⟨H,b⟩ (Bb (E9 CJ.body) 1)=some ⟨.next,bl a x 0 n .none none,⟨H,b⟩⟩:=
  (K1 (b:=true) ⋯ ⋯).trans ((Ak (lo1:=bl a x 0 n .none none) (S1:=⟨H,b⟩) ⋯ ((Ni ⋯ ⋯ El).trans ⋯)).trans ⋯)
 refine(y7 (N:=k+5) (fr:=Au CJ H.length wr) (a:=a) (x:=x) (key:=.none) (S:=⟨H,b⟩) (wS:=ws CJ false) ⋯ ⋯ ⋯ (λ_ _ _=>u57) (λ_ _ _=>b57) (λl h i hi=>Abr (hs i hi) (hc i hi)) p1 p2 60 0 n none (Co _) hcn (AP _) hn).elim λm hw=>?_
 have X2:(ev (k+7)).X (Au CJ H.length wr) (bl a x 0 n .none none) ⟨H,b⟩ (Bb (E9 CJ.body) 2)=some ⟨.next,bl a x c' c' .none m,⟨H,b⟩⟩:=
  (K1 (n:=k+6) (b:=true) (S1:=⟨H,b⟩) ⋯ ⋯).trans ((Ak (lo1:=bl a x c' c' .none m) (S1:=⟨H,b⟩) ⋯ (y6 (n:=k+5) (s:=ws CJ false) ⋯ hw)).trans ⋯)
 refine Jq (fi:=CJ) ⋯ hb ⋯ ⋯ ⋯ (lo:=JL a x .none) (Bv:=bl a x c' c' .none m) (fl:=.ret (.int c')) ?_ rfl rfl
 refine(Ak (lo1:=(JL a x .none)) (S1:=⟨H,b⟩) ⋯ ⋯).trans ((Ak ⋯ X1).trans ((Ak ⋯ X2).trans (Kt ⋯ (x:=⟨.ret (.int c'),bl a x c' c' .none m,⟨H,b⟩⟩) ?_ rfl)))
 rcases m with ⟨⟩<;>kernel_rfl
theorem xq{k wr c' n:Nat}{c:Sq}{V:Nat->AV}{K:Nat->Int}{P:Nat->Aa}
  (hb:Cv CK as ks=some (JL a x (.BH c)))(hn:n<60)(hl:TZ H a=some (n:Int))(hs:∀i:Nat,i<n->II ⟨H,b⟩ a (.int i)=some (V i))
  (hk:∀i,i<n->A9 (ev (k+2)) H.length (.BH c) [V i] [] ⟨H,b⟩=some ⟨.int (K i),⟨H,b⟩⟩)(hc:∀i,i<n->Gz .Lt x (.int (K i)) ⟨H,b⟩=some (!P i))(p1:∀i,i<c'->P i=true)(p2:∀i,c'<=i->i<n->P i=false)(hcn:c'<=n):A9 (ev (k+7)) wr (.val (.ref 39)) as ks ⟨H,b⟩=some ⟨.int c',⟨H,b⟩⟩:=by
 have El:(ev (k+5)).E (Au CK H.length wr) (JL a x (.BH c)) ⟨H,b⟩ (Cm (NF (B3 (Bb (E9 CK.body) 1))))=some ⟨.int n,⟨H,b⟩⟩:=
  (CH (S1:=⟨H,b⟩) ⋯ ⋯ ⋯ ⋯ ⋯ ⋯).trans (MG hl ((pw [.t .p (.k 60)] (.t .p (.k 1000)) [] [_]) hn))
 have X1:(ev (k+7)).X (Au CK H.length wr) (JL a x (.BH c)) ⟨H,b⟩ (Bb (E9 CK.body) 1)=some ⟨.next,bl a x 0 n (.BH c) none,⟨H,b⟩⟩:=
  (K1 (b:=true) ⋯ ⋯).trans ((Ak (lo1:=bl a x 0 n (.BH c) none) (S1:=⟨H,b⟩) ⋯ ((Ni ⋯ ⋯ El).trans ⋯)).trans ⋯)
 refine(y7 (fr:=Au CK H.length wr) (a:=a) (x:=x) (key:=(.BH c)) (S:=⟨H,b⟩) (wS:=ws CK true) ⋯ ⋯ ⋯ (λ_ _ _=>t39) (λ_ _ _=>a39) (λl h i hi=>(Abs (hs i hi) (hk i hi) (hc i hi)).trans (by rcases P i with ⟨⟩<;>rfl)) p1 p2 60 0 n none (Co _) hcn (AP _) hn).elim λm hw=>?_
 have X2:(ev (k+7)).X (Au CK H.length wr) (bl a x 0 n (.BH c) none) ⟨H,b⟩ (Bb (E9 CK.body) 2)=some ⟨.next,bl a x c' c' (.BH c) m,⟨H,b⟩⟩:=
  (K1 (n:=k+6) (b:=false) (S1:=⟨H,b⟩) ⋯ ⋯).trans ((Ak (lo1:=bl a x c' c' (.BH c) m) (S1:=⟨H,b⟩) ⋯ (y6 (n:=k+5) (s:=ws CK true) ⋯ hw)).trans ⋯)
 refine Jq (fi:=CK) ⋯ hb ⋯ ⋯ ⋯ (lo:=JL a x (.BH c)) (Bv:=bl a x c' c' (.BH c) m) (fl:=.ret (.int c')) ?_ rfl rfl
 refine(Ak (lo1:=(JL a x (.BH c))) (S1:=⟨H,b⟩) ⋯ ⋯).trans ((Ak ⋯ X1).trans ((Ak ⋯ X2).trans (Kt ⋯ (x:=⟨.ret (.int c'),bl a x c' c' (.BH c) m,⟨H,b⟩⟩) ?_ rfl)))
 rcases m with ⟨⟩<;>kernel_rfl
theorem Abv{k wr c' n:Nat}{b:Aa}{V:Nat->AV}{P:Nat->Aa}
  (hb:Cv CK as ks=some (JL a x .none))(hn:n<60)(hl:TZ H a=some (n:Int))(hs:∀i:Nat,i<n->II ⟨H,b⟩ a (.int i)=some (V i))
  (hc:∀i,i<n->Gz .Lt x (V i) ⟨H,b⟩=some (!P i))(p1:∀i,i<c'->P i=true)(p2:∀i,c'<=i->i<n->P i=false)(hcn:c'<=n):A9 (ev (k+7)) wr (.val (.ref 39)) as ks ⟨H,b⟩=some ⟨.int c',⟨H,b⟩⟩:=by
 have El:(ev (k+5)).E (Au CK H.length wr) (JL a x .none) ⟨H,b⟩ (Cm (NF (B3 (Bb (E9 CK.body) 1))))=some ⟨.int n,⟨H,b⟩⟩:=
  (CH (S1:=⟨H,b⟩) ⋯ ⋯ ⋯ ⋯ ⋯ ⋯).trans (MG hl ((pw [.t .p (.k 60)] (.t .p (.k 1000)) [] [_]) hn))
 have X1:(ev (k+7)).X (Au CK H.length wr) (JL a x .none) ⟨H,b⟩ (Bb (E9 CK.body) 1)=some ⟨.next,bl a x 0 n .none none,⟨H,b⟩⟩:=
  (K1 (b:=true) ⋯ ⋯).trans ((Ak (lo1:=bl a x 0 n .none none) (S1:=⟨H,b⟩) ⋯ ((Ni ⋯ ⋯ El).trans ⋯)).trans ⋯)
 refine(y7 (N:=k+5) (fr:=Au CK H.length wr) (a:=a) (x:=x) (key:=.none) (S:=⟨H,b⟩) (wS:=ws CK false) ⋯ ⋯ ⋯ (λ_ _ _=>u39) (λ_ _ _=>b39) (λl h i hi=>(Abt (hs i hi) (hc i hi)).trans (by rcases P i with ⟨⟩<;>rfl)) p1 p2 60 0 n none (Co _) hcn (AP _) hn).elim λm hw=>?_
 have X2:(ev (k+7)).X (Au CK H.length wr) (bl a x 0 n .none none) ⟨H,b⟩ (Bb (E9 CK.body) 2)=some ⟨.next,bl a x c' c' .none m,⟨H,b⟩⟩:=
  (K1 (n:=k+6) (b:=true) (S1:=⟨H,b⟩) ⋯ ⋯).trans ((Ak (lo1:=bl a x c' c' .none m) (S1:=⟨H,b⟩) ⋯ (y6 (n:=k+5) (s:=ws CK false) ⋯ hw)).trans ⋯)
 refine Jq (fi:=CK) ⋯ hb ⋯ ⋯ ⋯ (lo:=JL a x .none) (Bv:=bl a x c' c' .none m) (fl:=.ret (.int c')) ?_ rfl rfl
 refine(Ak (lo1:=(JL a x .none)) (S1:=⟨H,b⟩) ⋯ ⋯).trans ((Ak ⋯ X1).trans ((Ak ⋯ X2).trans (Kt ⋯ (x:=⟨.ret (.int c'),bl a x c' c' .none m,⟨H,b⟩⟩) ?_ rfl)))
 rcases m with ⟨⟩<;>kernel_rfl
noncomputable def FC(P:Nat->Aa)(x:Nat):List Nat->List Nat
 |[]=>[x]
 |q::t=>cond (P q) (q::FC P x t) (x::q::t)
noncomputable def cnt(P:Nat->Aa):List Nat->Nat
 |[]=>0
 |q::t=>cond (P q) (cnt P t+1) (cnt P t)
def PN(P:Nat->Aa)(l:List Nat):Prop:=l.Pairwise λa b=>P b=true->P a=true
theorem cnt_none:∀{l:List Nat},(∀q,q∈l->P q=false)->cnt P l=0
 |[],_=>rfl
 |q::t,h=>(Ai (λb=>cond b (cnt P t+1) (cnt P t)) (h q (.head _))).trans (cnt_none λx hx=>h x (.tail _ hx))
theorem Hr:∀l:List Nat,cnt P l<=l.length
 |[]=>AP _
 |q::t=>by
  show cond (P q) (cnt P t+1) (cnt P t)<=t.length+1
  induction P q using Ei with
  |true=>exact Wk (Hr t)
  |false=>exact JU (Hr t)
theorem XU:∀{l:List Nat},PN P l->∀i,i<cnt P l->P (l.getD i 0)=true
 |[],_,i,h=>AL h (F8 _)
 |q::t,m,i,h=>by
  have m:=FK.mp m
  change i<cond (P q) (cnt P t+1) (cnt P t) at h
  cases e:P q with
  |true=>
   rw[e] at h
   induction i using LR with
   |zero=>exact e
   |succ i=>exact XU m.2 i (LN h)
  |false=>
   rw[e,cnt_none λx hx=>by
    cases e':P x with
    |false=>rfl
    |true=>rw[m.1 x hx e'] at e;nomatch e] at h
   exact AL h (F8 _)
theorem XW:∀{l:List Nat},PN P l->∀i,cnt P l<=i->i<l.length->P (l.getD i 0)=false
 |[],_,i,_,h=>AL h (F8 _)
 |q::t,m,i,h,hl=>by
  have m:=FK.mp m
  change cond (P q) (cnt P t+1) (cnt P t)<=i at h
  cases e:P q with
  |true=>
   rw[e] at h
   induction i using LR with
   |zero=>exact AL h (Nat.not_succ_le_zero _)
   |succ i=>exact XW m.2 i (Nat.le_of_succ_le_succ h) (LN hl)
  |false=>
   have all:∀x,x∈q::t->P x=false:=λx hx=>by
    cases hx with
    |head=>exact e
    |tail _ hx=>
     cases e':P x with
     |false=>rfl
     |true=>rw[m.1 x hx e'] at e;nomatch e
   refine all _ ?_
   rw[HG,HU hl] at ⊢
   exact List.getElem_mem hl
theorem gL:∀{l:List Nat},PN P l->l.take (cnt P l)++x::l.drop (cnt P l)=FC P x l
 |[],_=>rfl
 |q::t,m=>by
  have m:=FK.mp m
  show(q::t).take (cond (P q) (cnt P t+1) (cnt P t))++x::(q::t).drop (cond (P q) (cnt P t+1) (cnt P t))=cond (P q) (q::FC P x t) (x::q::t)
  cases e:P q with
  |true=>exact Ai (q :: ·) (gL m.2)
  |false=>
   rw[cnt_none λy hy=>by
    cases e':P y with
    |false=>rfl
    |true=>rw[m.1 y hy e'] at e;nomatch e]
   rfl
theorem PO:∀{l:List Nat},y∈FC P x l↔y=x\/y∈l
 |[]=>Bc
 |q::t=>by
  show y∈cond (P q) (q::FC P x t) (x::q::t)↔_
  induction P q using Ei with
  |true=>exact Bc.trans ((or_congr Iff.rfl (PO)).trans ⟨λh=>h.elim (λe=>.inr (e▸.head _)) λh=>h.elim .inl λh=>.inr (.tail _ h),λh=>h.elim (λe=>.inr (.inl e)) λh=>(Bc.mp h).elim .inl λh=>.inr (.inr h)⟩)
  |false=>exact Bc
theorem Va:∀l:List Nat,(FC P x l).length=l.length+1
 |[]=>rfl
 |q::t=>by
  show(cond (P q) (q::FC P x t) (x::q::t)).length=_
  induction P q using Ei with
  |true=>exact Ai (· +1) (Va t)
  |false=>rfl
theorem FW(ht:∀a b c,Q a b->Q b c->Q a c):∀{l:List Nat},(∀q,q∈l->P q=true->Q q x)->(∀q,q∈l->P q=false->Q x q)->l.Pairwise Q->(FC P x l).Pairwise Q
 |[],_,_,_=>FK.mpr ⟨nofun,.nil⟩
 |q::t,h1,h2,m=>by
  have m':=FK.mp m
  show(cond (P q) (q::FC P x t) (x::q::t)).Pairwise Q
  cases e:P q with
  |true=>exact FK.mpr ⟨λy hy=>(PO.mp hy).elim (λz=>z▸h1 q (.head _) e) (m'.1 y),FW ht (λy hy=>h1 y (.tail _ hy)) (λy hy=>h2 y (.tail _ hy)) m'.2⟩
  |false=>
   have hx:=h2 q (.head _) e
   exact FK.mpr ⟨λy hy=>(Bc.mp hy).elim (λz=>z▸hx) λhy=>ht _ _ _ hx (m'.1 y hy),m⟩
noncomputable def row(P:Nat->Nat->Aa):Nat->List Nat
 |0=>[]
 |m+1=>FC (P m) m (row P m)
theorem Dh:∀{m q:Nat},q∈row P m↔q<m
 |0,q=>⟨nofun,λh=>AL h (F8 _)⟩
 |m+1,q=>PO.trans ((or_congr Iff.rfl Dh).trans ((or_comm).trans (Nat.lt_succ_iff_lt_or_eq).symm))
theorem B1:∀m:Nat,(row P m).length=m
 |0=>rfl
 |m+1=>(Va _).trans (Ai (· +1) (B1 m))
def Jz:FI:=jd (FT 48)
def Vb:FI:=jd (FT 30)
def XY(a x:AV)(l:Nat)(key:AV):Lo:=[("a",a),("x",x),("lo",.int l),("hi",.none),("key",key)]
theorem rz{xs:List AV}(hA:H[A]?=some (.list xs))(hc:c'<=xs.length)(hn:xs.length<1000):IM r 0 (.bi .insert) (.loc A) [.int c',p] ⟨H,b⟩=some ⟨.none,⟨H.set A (.list (xs.take c'++p::xs.drop c')),b⟩⟩:=
 (Ai (λo:Ab AO=>(o.bind CW).bind λxs:List AV=>Af (decide ((0:Int)<=c'/\(c':Int)<=xs.length/\xs.length<1000)) (HH 0 ⟨H,b⟩ A (.list (xs.take (c':Int).toNat++p::xs.drop (c':Int).toNat)))) hA).trans
  (Ai (λz=>Af z (HH 0 ⟨H,b⟩ A (.list (xs.take (c':Int).toNat++p::xs.drop (c':Int).toNat)))) (AU ⟨HF _,DM.mpr hc,hn⟩))
theorem Abw{V:Nat->AV}{P:Nat->Aa}{K:Nat->Int}(hA:H[A]?=some (.list xs))(hn:xs.length=n)(h60:n<60)(hV:∀i,i<n->xs[i]?=some (V i))
  (hk:∀m wr i,i<n->A9 (ev (m+4)) wr (.BH c) [V i] [] ⟨H,b⟩=some ⟨.int (K i),⟨H,b⟩⟩)(hkx:∀m wr,A9 (ev (m+4)) wr (.BH c) [p] [] ⟨H,b⟩=some ⟨.int Kx,⟨H,b⟩⟩)(hc:∀i,i<n->Gz .Lt (.int (K i)) (.int Kx) ⟨H,b⟩=some (P i))(p1:∀i,i<c'->P i=true)(p2:∀i,c'<=i->i<n->P i=false)(hcn:c'<=n):A9 (ev (k+12)) 0 (.val (.ref 48)) [.loc A,p] [("key",.BH c)] ⟨H,b⟩=some ⟨.none,⟨H.set A (.list (xs.take c'++p::xs.drop c')),b⟩⟩:=by
 have hl:=(Ai (λo:Ab AO=>o.bind (Z9 H)) hA).trans (Ai (λn:Nat=>some (n:Int)) hn)
 have hs:∀i:Nat,i<n->II ⟨H,b⟩ (.loc A) (.int i)=some (V i):=λi hi=>Jr hA (hV i hi) ((pw [.e .p .q,.t .q (.k 60)] (.t .p (.k 1000)) [] [_,_]) hn h60)
 have E1:(ev (k+10)).E (Au Jz H.length 0) (JL (.loc A) p (.BH c)) ⟨H,b⟩ (Cm (NF (lO (Bb (E9 Jz.body) 0))))=some ⟨.int c',⟨H,b⟩⟩:=
  (CH (S1:=⟨H,b⟩) (kv:=[("key",.BH c)]) ⋯ ⋯ ⋯ ⋯ (CB (S1:=⟨H,b⟩) (v:=.loc A) ⋯ ⋯ (CB ⋯ ((CH (S1:=⟨H,b⟩) ⋯ ⋯ ⋯ ⋯ ⋯ ⋯).trans (hkx (k+4) _)) (vs:=[.int 0,.none]) ⋯)) ⋯).trans (Abu (a:=.loc A) (x:=.int Kx) ⋯ h60 hl hs (λi hi=>hk k _ i hi) hc p1 p2 hcn)
 have X1:(ev (k+12)).X (Au Jz H.length 0) (JL (.loc A) p (.BH c)) ⟨H,b⟩ (Bb (E9 Jz.body) 0)=some ⟨.next,XY (.loc A) p c' (.BH c),⟨H,b⟩⟩:=
  (K1 (n:=k+11) (b:=false) (S1:=⟨H,b⟩) ⋯ ⋯).trans ((Ak (lo1:=XY (.loc A) p c' (.BH c)) (S1:=⟨H,b⟩) ⋯ ((Ni (n:=k+10) ⋯ ⋯ E1).trans ⋯)).trans ⋯)
 have X2:(ev (k+12)).X (Au Jz H.length 0) (XY (.loc A) p c' (.BH c)) ⟨H,b⟩ (Bb (E9 Jz.body) 1)=some ⟨.next,XY (.loc A) p c' (.BH c),⟨H.set A (.list (xs.take c'++p::xs.drop c')),b⟩⟩:=
  Qm (n:=k+11) (v:=.none) ⋯ ⋯ ((I9 (n:=k+10) (S1:=⟨H,b⟩) (S2:=⟨H,b⟩) (v:=.loc A) (k:=.bi .insert) (vs:=[.int c',p]) ⋯ ⋯ ⋯ ⋯ ⋯ "insert" ⋯ ((Ai (λo:Ab AO=>o.bind (Qv ⟨H,b⟩ "insert")) hA).trans ⋯) ⋯).trans (rz hA (by exact(pw [.e .p .q,.l .r .q] (.l .r .p) [] [_,_,_]) hn hcn) (by exact(pw [.e .p .q,.t .q (.k 60)] (.t .p (.k 1000)) [] [_,_]) hn h60)))
 refine(show A9 (ev (k+12)) 0 (.val (.ref 48)) [.loc A,p] [("key",.BH c)] ⟨H,b⟩=CM (ev (k+12)) Jz [.loc A,p] [("key",.BH c)] 0 ⟨H,b⟩ from ⋯).trans ?_
 exact Te (fi:=Jz) (binds:=JL (.loc A) p (.BH c)) (lo:=JL (.loc A) p (.BH c)) (Bv:=XY (.loc A) p c' (.BH c)) (fl:=.next) ⋯ ⋯ ⋯ ⋯ ⋯ ((Ak ⋯ X1).trans ((Ak ⋯ X2).trans ⋯)) rfl
theorem Abx{V:Nat->AV}{P:Nat->Aa}{K:Nat->Int}(hA:H[A]?=some (.list xs))(hn:xs.length=n)(h60:n<60)(hV:∀i,i<n->xs[i]?=some (V i))
  (hk:∀m wr i,i<n->A9 (ev (m+4)) wr (.BH c) [V i] [] ⟨H,b⟩=some ⟨.int (K i),⟨H,b⟩⟩)(hkx:∀m wr,A9 (ev (m+4)) wr (.BH c) [p] [] ⟨H,b⟩=some ⟨.int Kx,⟨H,b⟩⟩)(hc:∀i,i<n->Gz .Lt (.int Kx) (.int (K i)) ⟨H,b⟩=some (!P i))(p1:∀i,i<c'->P i=true)(p2:∀i,c'<=i->i<n->P i=false)(hcn:c'<=n):A9 (ev (k+12)) 0 (.val (.ref 30)) [.loc A,p] [("key",.BH c)] ⟨H,b⟩=some ⟨.none,⟨H.set A (.list (xs.take c'++p::xs.drop c')),b⟩⟩:=by
 have hl:=(Ai (λo:Ab AO=>o.bind (Z9 H)) hA).trans (Ai (λn:Nat=>some (n:Int)) hn)
 have hs:∀i:Nat,i<n->II ⟨H,b⟩ (.loc A) (.int i)=some (V i):=λi hi=>Jr hA (hV i hi) ((pw [.e .p .q,.t .q (.k 60)] (.t .p (.k 1000)) [] [_,_]) hn h60)
 have E1:(ev (k+10)).E (Au Vb H.length 0) (JL (.loc A) p (.BH c)) ⟨H,b⟩ (Cm (NF (lO (Bb (E9 Vb.body) 0))))=some ⟨.int c',⟨H,b⟩⟩:=
  (CH (S1:=⟨H,b⟩) (kv:=[("key",.BH c)]) ⋯ ⋯ ⋯ ⋯ (CB (S1:=⟨H,b⟩) (v:=.loc A) ⋯ ⋯ (CB ⋯ ((CH (S1:=⟨H,b⟩) ⋯ ⋯ ⋯ ⋯ ⋯ ⋯).trans (hkx (k+4) _)) (vs:=[.int 0,.none]) ⋯)) ⋯).trans (xq (a:=.loc A) (x:=.int Kx) ⋯ h60 hl hs (λi hi=>hk k _ i hi) hc p1 p2 hcn)
 have X1:(ev (k+12)).X (Au Vb H.length 0) (JL (.loc A) p (.BH c)) ⟨H,b⟩ (Bb (E9 Vb.body) 0)=some ⟨.next,XY (.loc A) p c' (.BH c),⟨H,b⟩⟩:=
  (K1 (n:=k+11) (b:=false) (S1:=⟨H,b⟩) ⋯ ⋯).trans ((Ak (lo1:=XY (.loc A) p c' (.BH c)) (S1:=⟨H,b⟩) ⋯ ((Ni (n:=k+10) ⋯ ⋯ E1).trans ⋯)).trans ⋯)
 have X2:(ev (k+12)).X (Au Vb H.length 0) (XY (.loc A) p c' (.BH c)) ⟨H,b⟩ (Bb (E9 Vb.body) 1)=some ⟨.next,XY (.loc A) p c' (.BH c),⟨H.set A (.list (xs.take c'++p::xs.drop c')),b⟩⟩:=
  Qm (n:=k+11) (v:=.none) ⋯ ⋯ ((I9 (n:=k+10) (S1:=⟨H,b⟩) (S2:=⟨H,b⟩) (v:=.loc A) (k:=.bi .insert) (vs:=[.int c',p]) ⋯ ⋯ ⋯ ⋯ ⋯ "insert" ⋯ ((Ai (λo:Ab AO=>o.bind (Qv ⟨H,b⟩ "insert")) hA).trans ⋯) ⋯).trans (rz hA (by exact(pw [.e .p .q,.l .r .q] (.l .r .p) [] [_,_,_]) hn hcn) (by exact(pw [.e .p .q,.t .q (.k 60)] (.t .p (.k 1000)) [] [_,_]) hn h60)))
 refine(show A9 (ev (k+12)) 0 (.val (.ref 30)) [.loc A,p] [("key",.BH c)] ⟨H,b⟩=CM (ev (k+12)) Vb [.loc A,p] [("key",.BH c)] 0 ⟨H,b⟩ from ⋯).trans ?_
 exact Te (fi:=Vb) (binds:=JL (.loc A) p (.BH c)) (lo:=JL (.loc A) p (.BH c)) (Bv:=XY (.loc A) p c' (.BH c)) (fl:=.next) ⋯ ⋯ ⋯ ⋯ ⋯ ((Ak ⋯ X1).trans ((Ak ⋯ X2).trans ⋯)) rfl
theorem Aby{V:Nat->AV}{P:Nat->Aa}(hA:H[A]?=some (.list xs))(hn:xs.length=n)(h60:n<60)(hV:∀i,i<n->xs[i]?=some (V i))
  (hc:∀i,i<n->Gz .Lt (V i) (p) ⟨H,b⟩=some (P i))(p1:∀i,i<c'->P i=true)(p2:∀i,c'<=i->i<n->P i=false)(hcn:c'<=n):A9 (ev (k+12)) 0 (.val (.ref 48)) [.loc A,p] [] ⟨H,b⟩=some ⟨.none,⟨H.set A (.list (xs.take c'++p::xs.drop c')),b⟩⟩:=by
 have hl:=(Ai (λo:Ab AO=>o.bind (Z9 H)) hA).trans (Ai (λn:Nat=>some (n:Int)) hn)
 have hs:∀i:Nat,i<n->II ⟨H,b⟩ (.loc A) (.int i)=some (V i):=λi hi=>Jr hA (hV i hi) ((pw [.e .p .q,.t .q (.k 60)] (.t .p (.k 1000)) [] [_,_]) hn h60)
 have E1:(ev (k+10)).E (Au Jz H.length 0) (JL (.loc A) p .none) ⟨H,b⟩ (Cm (NF (B3 (Bb (E9 Jz.body) 0))))=some ⟨.int c',⟨H,b⟩⟩:=
  (CH (S1:=⟨H,b⟩) (vs:=[.loc A,p,.int 0,.none]) (kv:=[]) ⋯ ⋯ ⋯ ⋯ ⋯ ⋯).trans (xo (a:=.loc A) ⋯ h60 hl hs hc p1 p2 hcn)
 have X1:(ev (k+12)).X (Au Jz H.length 0) (JL (.loc A) p .none) ⟨H,b⟩ (Bb (E9 Jz.body) 0)=some ⟨.next,XY (.loc A) p c' .none,⟨H,b⟩⟩:=
  (K1 (b:=true) ⋯ ⋯).trans ((Ak (lo1:=XY (.loc A) p c' .none) (S1:=⟨H,b⟩) ⋯ ((Ni ⋯ ⋯ E1).trans ⋯)).trans ⋯)
 have X2:(ev (k+12)).X (Au Jz H.length 0) (XY (.loc A) p c' .none) ⟨H,b⟩ (Bb (E9 Jz.body) 1)=some ⟨.next,XY (.loc A) p c' .none,⟨H.set A (.list (xs.take c'++p::xs.drop c')),b⟩⟩:=
  Qm (n:=k+11) (v:=.none) ⋯ ⋯ ((I9 (n:=k+10) (S1:=⟨H,b⟩) (S2:=⟨H,b⟩) (v:=.loc A) (k:=.bi .insert) (vs:=[.int c',p]) ⋯ ⋯ ⋯ ⋯ ⋯ "insert" ⋯ ((Ai (λo:Ab AO=>o.bind (Qv ⟨H,b⟩ "insert")) hA).trans ⋯) ⋯).trans (rz hA (by exact(pw [.e .p .q,.l .r .q] (.l .r .p) [] [_,_,_]) hn hcn) (by exact(pw [.e .p .q,.t .q (.k 60)] (.t .p (.k 1000)) [] [_,_]) hn h60)))
 refine(show A9 (ev (k+12)) 0 (.val (.ref 48)) [.loc A,p] [] ⟨H,b⟩=CM (ev (k+12)) Jz [.loc A,p] [] 0 ⟨H,b⟩ from ⋯).trans ?_
 exact Te (fi:=Jz) (binds:=JL (.loc A) p .none) (lo:=JL (.loc A) p .none) (Bv:=XY (.loc A) p c' .none) (fl:=.next) ⋯ ⋯ ⋯ ⋯ ⋯ ((Ak ⋯ X1).trans ((Ak ⋯ X2).trans ⋯)) rfl
abbrev Ku:=Nat->Nat->Int
noncomputable def je(L:Ku):List AV:=[0,1,2,3,4,5,6].map λp=>.lst [.int (L p 0),.int (L p 1),.int (L p 2)]
noncomputable def PQ:Nat->AO | 0=>.cell none | m+1=>.cell (some (.int m))
noncomputable def CP(l:List Nat):List AV:=l.map λ(q:Nat)=>.int q
noncomputable def bc(L:Ku)(l:List Nat):List AV:=l.map λ(q:Nat)=>.tup [.int (L q 2),.int q]
def HB(o:Nat->AO)(pt:AO)(L:Ku)(R G B:List Nat):List AO:=
 [o 0,o 1,o 2,o 3,pt,o 5,o 6,o 7,o 8,o 9,.cell (some (.loc 14)),o 11,o 12,o 13,.list (je L),o 15,o 16,o 17,o 18,o 19,.list (CP R),.list (CP G),.list (bc L B)]
noncomputable def loB(v:Nat->AV):Lo:=[("script",v 0),("number",v 1),("places",v 2),("grains",v 3),("quarter",v 4),("first",v 5),("row",v 6),("is_white",v 7),("words",v 8),("left",v 9),("cut",v 10),("text",v 11),("leaves",v 12),("tied",.loc 19)]
def FE(v:Nat->AV):Lo:=A8 (loB v) [("blues",.loc 22),("greens",.loc 21),("reds",.loc 20)]
def gM(e:Expr):Ge×EM×BQ:=match e with | .Lambda ps body sc _=>(ps,.expr body,sc) | _=>(⟨[],[],none,[],[],none,[]⟩,.expr e0,default)
def rD(e:Expr):Sq:=⟨"<lambda>",A6.qual++"<lambda>",(gM e).1,(gM e).2.1,(gM e).2.2,[("lights",10)]⟩
def kwE(e:Expr):Expr:=((U9 e).map (·.value)).headD e0
def MH:Az:=Bb Ck 19
def kR:Sq:=rD (kwE (Cm (Bb (B3 MH) 0)))
def kG:Sq:=rD (kwE (Cm (Bb (B3 MH) 1)))
section
variable{o:Nat->AO}{pt:AO}{L:Ku}{R G B:List Nat}{v:Nat->AV}{b:Aa}
theorem VG{P:Nat->Prop}(h0:P 0)(h1:P 1)(h2:P 2)(h3:P 3)(h4:P 4)(h5:P 5)(h6:P 6):∀p,p<7->P p
 |0,_=>h0 | 1,_=>h1 | 2,_=>h2 | 3,_=>h3 | 4,_=>h4 | 5,_=>h5 | 6,_=>h6
 |_+7,h=>AL (H8 7 _) (H7 h)
theorem xr:∀p:Nat,p<7->∀m wr,A9 (ev (m+4)) wr (.BH kR) [.int p] [] ⟨HB o pt L R G B,b⟩=some ⟨.int (L p 0),⟨HB o pt L R G B,b⟩⟩:=
 VG (λm wr=>⋯) (λm wr=>⋯) (λm wr=>⋯) (λm wr=>⋯) (λm wr=>⋯) (λm wr=>⋯) (λm wr=>⋯)
theorem xu:∀p:Nat,p<7->∀m wr,A9 (ev (m+4)) wr (.BH kG) [.int p] [] ⟨HB o pt L R G B,b⟩=some ⟨.int (L p 1),⟨HB o pt L R G B,b⟩⟩:=
 VG (λm wr=>⋯) (λm wr=>⋯) (λm wr=>⋯) (λm wr=>⋯) (λm wr=>⋯) (λm wr=>⋯) (λm wr=>⋯)
noncomputable def Pr(L:Ku)(m q:Nat):Aa:=decide (L q 0<L m 0)
noncomputable def Pg(L:Ku)(m q:Nat):Aa:=decide (L q 1<=L m 1)
noncomputable def Pb(L:Ku)(m q:Nat):Aa:=decide (L q 2<=L m 2)
theorem gN:∀m,(row (Pr L) m).Pairwise λa b=>L a 0<=L b 0
 |0=>.nil
 |m+1=>FW (Q:=λa b=>L a 0<=L b 0) (λ_ _ _=>BA) (λq _ e=>Ed (Bi e)) (λq _ e=>DD.mp (Mn e)) (gN m)
theorem gO:∀m,(row (Pg L) m).Pairwise λa b=>L a 1<=L b 1
 |0=>.nil
 |m+1=>FW (Q:=λa b=>L a 1<=L b 1) (λ_ _ _=>BA) (λq _ e=>Bi e) (λq _ e=>Ed (Fe.mp (Mn e))) (gO m)
theorem gP:∀m,(row (Pb L) m).Pairwise λa b=>L a 2<=L b 2
 |0=>.nil
 |m+1=>FW (Q:=λa b=>L a 2<=L b 2) (λ_ _ _=>BA) (λq _ e=>Bi e) (λq _ e=>Ed (Fe.mp (Mn e))) (gP m)
theorem Vc{m:Nat}(x:Int):PN (λq=>decide (L q 0<x)) (row (Pr L) m):=(gN m).imp λh e=>AU (V0 h (Bi e))
theorem Vd{m:Nat}(x:Int):PN (λq=>decide (L q 1<=x)) (row (Pg L) m):=(gO m).imp λh e=>AU (BA h (Bi e))
theorem Ve{m:Nat}(x:Int):PN (λq=>decide (L q 2<=x)) (row (Pb L) m):=(gP m).imp λh e=>AU (BA h (Bi e))
theorem MI{f:Nat->AV}{l:List Nat}{i:Nat}(h:i<l.length):(l.map f)[i]?=some (f (l.getD i 0)):=by
 rw[F3,HU h,HG,HU h] at ⊢
 rfl
theorem getD_mem{P:Nat->Nat->Aa}{m i:Nat}(h:i<m):(row P m).getD i 0<m:=by
 have h':i<(row P m).length:=by rw[B1];exact h
 rw[HG,HU h'] at ⊢
 exact Dh.mp (List.getElem_mem h')
theorem Tf{f:Nat->AV}{P:Nat->Aa}{x:Nat}{l:List Nat}(h:PN P l):(l.map f).take (cnt P l)++f x::(l.map f).drop (cnt P l)=(FC P x l).map f:=by
 rw[<-gL h,LK,List.map_take,EF,N2]
theorem Tg(a c:Int):decide (a<c) = !decide (c<=a):=by
 by_cases h:c<=a
 ·rw[AU h,Ct (DD.mpr h)];rfl
 ·rw[Ct h,AU (Fe.mp h)];rfl
theorem x0{m:Nat}(hm:m<7):(ev 117).X A6 (FE v) ⟨HB o (PQ (m+1)) L (row (Pr L) m) G B,b⟩ (Bb (B3 MH) 0)=some ⟨.next,FE v,⟨HB o (PQ (m+1)) L (row (Pr L) (m+1)) G B,b⟩⟩:=by
 have c:=Abw (k:=103) (A:=20) (c':=cnt (Pr L m) (row (Pr L) m)) (H:=HB o (PQ (m+1)) L (row (Pr L) m) G B) (b:=b)
  rfl ((AY ..).trans (B1 m)) ((pw [.t .p (.k 7)] (.t .p (.k 60)) [] [_]) hm) (λi hi=>MI (by rw[B1];exact hi)) (λn wr i hi=>xr _ (EH (getD_mem hi) hm) n wr) (xr m hm) (λi hi=>rfl) (λi hi=>XU (Vc _) i hi) (λi hi h2=>XW (Vc _) i hi (by rw[B1];exact h2)) (AA (Hr _) (Bo (B1 m)))
 rw[show(CP (row (Pr L) m)).take (cnt (Pr L m) (row (Pr L) m))++.int m::(CP (row (Pr L) m)).drop (cnt (Pr L m) (row (Pr L) m))=CP (row (Pr L) (m+1)) from Tf (Vc _)] at c
 exact Qm ⋯ ⋯ ((CH (S1:=⟨HB o (PQ (m+1)) L (row (Pr L) m) G B,b⟩) ⋯ ⋯ ⋯ ⋯ ⋯ ⋯).trans c)
theorem x1{m:Nat}(hm:m<7):(ev 117).X A6 (FE v) ⟨HB o (PQ (m+1)) L R (row (Pg L) m) B,b⟩ (Bb (B3 MH) 1)=some ⟨.next,FE v,⟨HB o (PQ (m+1)) L R (row (Pg L) (m+1)) B,b⟩⟩:=by
 have c:=Abx (k:=103) (A:=21) (c':=cnt (Pg L m) (row (Pg L) m)) (H:=HB o (PQ (m+1)) L R (row (Pg L) m) B) (b:=b)
  rfl ((AY ..).trans (B1 m)) ((pw [.t .p (.k 7)] (.t .p (.k 60)) [] [_]) hm) (λi hi=>MI (by rw[B1];exact hi)) (λn wr i hi=>xu _ (EH (getD_mem hi) hm) n wr) (xu m hm) (λi hi=>Ai some (Tg _ _)) (λi hi=>XU (Vd _) i hi) (λi hi h2=>XW (Vd _) i hi (by rw[B1];exact h2)) (AA (Hr _) (Bo (B1 m)))
 rw[show(CP (row (Pg L) m)).take (cnt (Pg L m) (row (Pg L) m))++.int m::(CP (row (Pg L) m)).drop (cnt (Pg L m) (row (Pg L) m))=CP (row (Pg L) (m+1)) from Tf (Vd _)] at c
 exact Qm ⋯ ⋯ ((CH (S1:=⟨HB o (PQ (m+1)) L R (row (Pg L) m) B,b⟩) ⋯ ⋯ ⋯ ⋯ ⋯ ⋯).trans c)
theorem a2:∀m:Nat,m<7->Ji (ev 115) A6 (FE v) ⟨HB o (PQ (m+1)) L R G B,b⟩ (C0 (Cm (Bb (B3 MH) 2)))=some ⟨[.loc 22,.tup [.int (L m 2),.int m]],⟨HB o (PQ (m+1)) L R G B,b⟩⟩:=
 VG ⋯ ⋯ ⋯ ⋯ ⋯ ⋯ ⋯
theorem rF{x y:Int}{q m:Nat}(h:q<m):(decide (x<y)||(decide (x=y)&&decide ((q:Int)<m)))=decide (x<=y):=by
 rw[AU (DB.mpr h),NR,<-Aa.decide_or]
 exact OE.mpr Int.le_iff_lt_or_eq.symm
theorem x2{m:Nat}(hm:m<7):(ev 117).X A6 (FE v) ⟨HB o (PQ (m+1)) L R G (row (Pb L) m),b⟩ (Bb (B3 MH) 2)=some ⟨.next,FE v,⟨HB o (PQ (m+1)) L R G (row (Pb L) (m+1)),b⟩⟩:=by
 have c:=Aby (k:=103) (A:=22) (c':=cnt (Pb L m) (row (Pb L) m)) (H:=HB o (PQ (m+1)) L R G (row (Pb L) m)) (b:=b) (p:=.tup [.int (L m 2),.int m])
  rfl ((AY ..).trans (B1 m)) ((pw [.t .p (.k 7)] (.t .p (.k 60)) [] [_]) hm) (λi hi=>MI (by rw[B1];exact hi)) (λi hi=>Ai some (rF (getD_mem hi))) (λi hi=>XU (Ve _) i hi) (λi hi h2=>XW (Ve _) i hi (by rw[B1];exact h2)) (AA (Hr _) (Bo (B1 m)))
 rw[show(bc L (row (Pb L) m)).take (cnt (Pb L m) (row (Pb L) m))++.tup [.int (L m 2),.int m]::(bc L (row (Pb L) m)).drop (cnt (Pb L m) (row (Pb L) m))=bc L (row (Pb L) (m+1)) from Tf (Ve _)] at c
 exact Qm ⋯ ⋯ ((CH ⋯ ⋯ ⋯ ⋯ (a2 m hm) ⋯).trans c)
theorem B0{r:Ev}{fr:FD}{src:Src}{t:Expr}{body:List Az}{k i:Nat}{lo lo1 u5:Lo}{S S1 S2:St}{w:AV}(h1:src.at S.H i=some (some w))(h2:Jv fr lo S t w=some ⟨lo1,S1⟩)(h3:Xs r fr lo1 S1 body=some ⟨.next,u5,S2⟩):forL r fr src t body (k+1) i lo S=forL r fr src t body k (i+1) u5 S2:=
 (Ai (λo:Ab (Ab AV)=>o.bind λo=>(match o with
  |none=>some ⟨.next,lo,S⟩
  |some v=>(Jv fr lo S t v).bind λp=>(Xs r fr p.v p.S body).bind λx=>cond x.fl.GB (forL r fr src t body k (i+1) x.lo x.S) (some x):Ab Rx)) h1).trans
  ((Ai (λo:Ab (Rt Lo)=>o.bind λp=>(Xs r fr p.v p.S body).bind λx=>cond x.fl.GB (forL r fr src t body k (i+1) x.lo x.S) (some x)) h2).trans (Ai (λo:Ab Rx=>o.bind λx=>cond x.fl.GB (forL r fr src t body k (i+1) x.lo x.S) (some x)) h3))
abbrev bC(o:Nat->AO)(L:Ku)(m n:Nat):List AO:=HB o (PQ m) L (row (Pr L) n) (row (Pg L) n) (row (Pb L) n)
theorem rG{m:Nat}(hm:m<7):Xs (ev 117) A6 (FE v) ⟨bC o L (m+1) m,b⟩ (B3 MH)=some ⟨.next,FE v,⟨bC o L (m+1) (m+1),b⟩⟩:=
 (Ak ⋯ (x0 hm)).trans ((Ak ⋯ (x1 hm)).trans ((Ak ⋯ (x2 hm)).trans ⋯))
theorem Hs{m k:Nat}(hm:m<7)(h1:Src.at (bC o L m m) m (.Gw 0 7 1)=some (some (.int m)))(h2:Jv A6 (FE v) ⟨bC o L m m,b⟩ (BU MH) (.int m)=some ⟨FE v,⟨bC o L (m+1) m,b⟩⟩):
  forL (ev 117) A6 (.Gw 0 7 1) (BU MH) (B3 MH) (k+1) m (FE v) ⟨bC o L m m,b⟩=forL (ev 117) A6 (.Gw 0 7 1) (BU MH) (B3 MH) k (m+1) (FE v) ⟨bC o L (m+1) (m+1),b⟩:=B0 h1 h2 (rG hm)
theorem Qn{n:Nat}{fr:FD}{lo lo1:Lo}{S S1 S2:St}{s:Az}{src:Src}(h:s=.For (BU s) (Cm s) (B3 s) [] (bB s))(hi:FR (ev n) fr lo S (Cm s)=some ⟨src,S1⟩)(hz:SD src (BU s)=true)(hl:forL (ev n) fr src (BU s) (B3 s) 80 0 lo S1=some ⟨.next,lo1,S2⟩):(ev (n+1)).X fr lo S s=some ⟨.next,lo1,S2⟩:=
 (Ai ((ev (n+1)).X fr lo S) h).trans ((Ai (λo:Ab (Rt Src)=>o.bind λs'=>Af (SD s'.v (BU s)) ((forL (ev n) fr s'.v (BU s) (B3 s) 80 0 lo s'.S).bind λx=>cond x.fl.C8 (Xs (ev n) fr x.lo x.S []) (some (IQ x)))) hi).trans
  ((Ai (λz=>Af z ((forL (ev n) fr src (BU s) (B3 s) 80 0 lo S1).bind λx=>cond x.fl.C8 (Xs (ev n) fr x.lo x.S []) (some (IQ x)))) hz).trans (Ai (λo:Ab Rx=>o.bind λx=>cond x.fl.C8 (Xs (ev n) fr x.lo x.S []) (some (IQ x))) hl)))
theorem X19:(ev 118).X A6 (FE v) ⟨bC o L 0 0,b⟩ MH=some ⟨.next,FE v,⟨bC o L 7 7,b⟩⟩:=
 Qn (S1:=⟨bC o L 0 0,b⟩) ⋯ ⋯ ⋯ ((Hs ⋯ ⋯ ⋯).trans ((Hs ⋯ ⋯ ⋯).trans ((Hs ⋯ ⋯ ⋯).trans ((Hs ⋯ ⋯ ⋯).trans
  ((Hs ⋯ ⋯ ⋯).trans ((Hs ⋯ ⋯ ⋯).trans ((Hs ⋯ ⋯ ⋯).trans ⋯)))))))
end
noncomputable def tQ(e:Expr):Expr×RM×BQ×Pos:=match e with | .ListComp e gs sc p=>(e,gs.headD ⟨e0,e0,[],0⟩,sc,p) | _=>(e0,⟨e0,e0,[],0⟩,default,default)
def XZ(e:Expr):Expr:=(tQ e).1
def VH(e:Expr):Expr:=(tQ e).2.1.target
def bg(e:Expr):Expr:=(tQ e).2.1.iter
def TM(e:Expr):List Expr:=(tQ e).2.1.ifs
def FG(e:Expr):BQ:=(tQ e).2.2.1
def y8(e:Expr):Pos:=(tQ e).2.2.2
theorem K6(H:List AO)(x:AO):(H++[x])[H.length]?=some x:=by rw[List.getElem?_append_right (AP _),Wo] at ⊢;rfl
theorem Vf(H:List AO)(x y:AO):(H++[x]).set H.length y=H++[y]:=by rw[List.set_append_right _ _ (AP _),Wo];rfl
theorem gQ(h:acc.length<1000):Kj ⟨H++[.list acc],b⟩ H.length w=some ⟨H++[.list (acc++[w])],b⟩:=
 (Ai (λo:Ab AO=>(o.bind CW).bind λxs:List AV=>Af (decide (xs.length<1000)) (some (⟨(H++[AO.list acc]).set H.length (AO.list (xs++[w])),b⟩ :St))) (K6 H _)).trans
  ((Ai (λz=>Af z (some (⟨(H++[AO.list acc]).set H.length (AO.list (acc++[w])),b⟩ :St))) (AU h)).trans (Ai (λH=>some (⟨H,b⟩ :St)) (Vf H _ _)))
section
variable{r:Ev}{fr:FD}{src:Src}{t elt:Expr}{ifs:List Expr}{H:List AO}{b:Aa}{v w:Nat->AV}{g:Nat->Aa}{lof:Nat->Lo}
theorem PR{Q:List Nat}
  (h1:∀i acc,src.at (H++[.list acc]) i=some (Q.map v)[i]?)
  (h2:∀q,q∈Q->∀lo acc,(lo=[]\/∃q',lo=lof q')->Jv fr lo ⟨H++[.list acc],b⟩ t (v q)=some ⟨lof q,⟨H++[.list acc],b⟩⟩)
  (h3:∀q,q∈Q->∀acc,SE r fr (lof q) ⟨H++[.list acc],b⟩ ifs=some ⟨g q,⟨H++[.list acc],b⟩⟩)
  (h4:∀q,q∈Q->g q=true->∀acc,r.E fr (lof q) ⟨H++[.list acc],b⟩ elt=some ⟨w q,⟨H++[.list acc],b⟩⟩):
  ∀(P:List Nat)(i k:Nat)(lo:Lo)(acc:List AV),Q.drop i=P->P.length<k->acc.length+P.length<1000->(lo=[]\/∃q',lo=lof q')->Ey r fr H.length src t ifs elt k i lo ⟨H++[.list acc],b⟩=some ⟨H++[.list (acc++(P.filter g).map w)],b⟩
 |P,i,0,lo,acc,_,hk,_,_=>AL hk (F8 _)
 |[],i,k+1,lo,acc,hd,_,_,_=>by
  have e:(Q.map v)[i]?=none:=H5 (by rw[AY];exact List.drop_eq_nil_iff.mp hd)
  show(src.at (H++[.list acc]) i).bind _=_
  rw[h1,e]
  show some (⟨H++[.list acc],b⟩ :St)=some ⟨H++[.list (acc++[])],b⟩
  rw[DX]
 |q::P,i,k+1,lo,acc,hd,hk,hn,hlo=>by
  have hq:Q[i]?=some q:=by rw[<-List.head?_drop,hd] at ⊢;rfl
  have hm:=bZ hq
  have hd':Q.drop (i+1)=P:=by rw[<-List.tail_drop,hd];rfl
  have SN:=hn
  refine(Ai (λo:Ab (Ab AV)=>o.bind λo=>(match o with
   |none=>some ⟨H++[.list acc],b⟩
   |some v=>(Jv fr lo ⟨H++[.list acc],b⟩ t v).bind λp=>(SE r fr p.v p.S ifs).bind λz=>cond z.v ((r.E fr p.v z.S elt).bind λx=>(Kj x.S H.length x.v).bind λS'=>Ey r fr H.length src t ifs elt k (i+1) p.v S') (Ey r fr H.length src t ifs elt k (i+1) p.v z.S):Ab St))
   ((h1 i acc).trans (Ai some ((F3 ..).trans (Ai (Ab.map v) hq))))).trans ?_
  refine(Ai (λo:Ab (Rt Lo)=>o.bind λp=>(SE r fr p.v p.S ifs).bind λz=>cond z.v ((r.E fr p.v z.S elt).bind λx=>(Kj x.S H.length x.v).bind λS'=>Ey r fr H.length src t ifs elt k (i+1) p.v S') (Ey r fr H.length src t ifs elt k (i+1) p.v z.S)) (h2 q hm lo acc hlo)).trans ?_
  refine(Ai (λo:Ab (Rt Aa)=>o.bind λz=>cond z.v ((r.E fr (lof q) z.S elt).bind λx=>(Kj x.S H.length x.v).bind λS'=>Ey r fr H.length src t ifs elt k (i+1) (lof q) S') (Ey r fr H.length src t ifs elt k (i+1) (lof q) z.S)) (h3 q hm acc)).trans ?_
  cases hg:g q with
  |true=>
   refine(Ai (λo:Ab (Rt AV)=>o.bind λx=>(Kj x.S H.length x.v).bind λS'=>Ey r fr H.length src t ifs elt k (i+1) (lof q) S') (h4 q hm hg acc)).trans ?_
   refine(Ai (λo:Ab St=>o.bind λS'=>Ey r fr H.length src t ifs elt k (i+1) (lof q) S') (gQ ((pw [.t (.A (.A .p .q) (.k 1)) (.k 1000)] (.t .p (.k 1000)) [] [_,_]) SN))).trans ?_
   refine(PR h1 h2 h3 h4 P (i+1) k (lof q) (acc++[w q]) hd' (LN hk) (by rw[BO];exact(pw [.t (.A (.A .p .q) (.k 1)) (.k 1000)] (.t (.A (.A .p (.k 1)) .q) (.k 1000)) [] [_,_]) SN) (.inr ⟨q,rfl⟩)).trans ?_
   rw[List.filter_cons_of_pos hg,FL]
   rfl
  |false=>
   refine(PR h1 h2 h3 h4 P (i+1) k (lof q) acc hd' (LN hk) ((pw [.t (.A (.A .p .q) (.k 1)) (.k 1000)] (.t (.A .p .q) (.k 1000)) [] [_,_]) SN) (.inr ⟨q,rfl⟩)).trans ?_
   rw[List.filter_cons_of_neg (by rw[hg];exact BI)]
end
theorem Th:∀{l:List AV},(∀x,x∈l->f x=some x)->Gn f l=some l
 |[],_=>rfl
 |x::l,h=>(Ai (λo:Ab AV=>o.bind λb=>(Gn f l).bind λbs=>some (b::bs)) (h x (.head _))).trans (Ai (λo:Ab (List AV)=>o.bind λbs=>some (x::bs)) (Th λy hy=>h y (.tail _ hy)))
theorem Ht{lo:Lo}{Q:List Nat}{lof:Nat->Lo}
  (h:e=.ListComp (XZ e) [⟨VH e,bg e,TM e,0⟩] (FG e) (y8 e))(hi:FR (ev n) fr lo S0 (bg e)=some ⟨src,⟨H,b⟩⟩)(hg:(SD src (VH e)&&(Sx (FG e)&&Qw (FG e).names (FG e).names))=true)(hf:Cy fr (FG e).names []=some fc)(hc:AK (FG e).names=[])
  (hQ:Q.length<80)
  (h1:∀i acc,src.at (H++[.list acc]) i=some (Q.map v)[i]?)
  (h2:∀q,q∈Q->∀lo acc,(lo=[]\/∃q',lo=lof q')->Jv (DK fr H.length (FG e) fc) lo ⟨H++[.list acc],b⟩ (VH e) (v q)=some ⟨lof q,⟨H++[.list acc],b⟩⟩)
  (h3:∀q,q∈Q->∀acc,SE (ev n) (DK fr H.length (FG e) fc) (lof q) ⟨H++[.list acc],b⟩ (TM e)=some ⟨g q,⟨H++[.list acc],b⟩⟩)
  (h4:∀q,q∈Q->g q=true->∀acc,(ev n).E (DK fr H.length (FG e) fc) (lof q) ⟨H++[.list acc],b⟩ (XZ e)=some ⟨w q,⟨H++[.list acc],b⟩⟩)
  (hz:∀q,q∈Q->∀H',fz 5 H.length H' (w q)=some (w q)):MQ (ev n) fr lo S0 (XZ e) [⟨VH e,bg e,TM e,0⟩] (FG e)=some ⟨.lst ((Q.filter g).map w),⟨H,b⟩⟩:=by
 show(FR (ev n) fr lo S0 (bg e)).bind (λs=>SG (ev n) fr s.S s.v (VH e) (TM e) (XZ e) (FG e))=_
 rw[hi]
 show Af (SD src (VH e)&&(Sx (FG e)&&Qw (FG e).names (FG e).names)) ((Cy fr (FG e).names []).bind λfc=>(Ey (ev n) (DK fr H.length (FG e) fc) H.length src (VH e) (TM e) (XZ e) 80 0 [] ⟨(H++[.list []])++AK (FG e).names,b⟩).bind λS'=>letGo ⟨H,b⟩ ⟨.loc H.length,S'⟩)=_
 rw[hg,hf,hc,DX]
 show(Ey (ev n) (DK fr H.length (FG e) fc) H.length src (VH e) (TM e) (XZ e) 80 0 [] ⟨H++[.list []],b⟩).bind (λS'=>letGo ⟨H,b⟩ ⟨.loc H.length,S'⟩)=_
 rw[PR h1 h2 h3 h4 Q 0 80 [] [] rfl hQ (by show 0+Q.length<1000;exact(pw [.t .p (.k 80)] (.t (.A (.k 0) .p) (.k 1000)) [] [_]) hQ) (.inl rfl)]
 show((cond (N9 H.length H.length) (some (AV.loc H.length)) ((((H++[.list ((Q.filter g).map w)])[H.length]?).bind CW).bind λxs=>(Gn (fz 5 H.length (H++[.list ((Q.filter g).map w)])) xs).bind λys=>some (.lst ys))).bind λv=>some (⟨v,⟨H,b⟩⟩ :Rt AV))=_
 rw[show N9 H.length H.length=false from Gx.mpr λz=>F9 _ (Bn z),K6]
 show(((Gn (fz 5 H.length (H++[.list ((Q.filter g).map w)])) ((Q.filter g).map w)).bind λys=>some (AV.lst ys)).bind λv=>some (⟨v,⟨H,b⟩⟩ :Rt AV))=_
 rw[Th λx hx=>(CD.mp hx).elim λq hq=>hq.2▸hz q (JS.mp hq.1).1 _]
 rfl
theorem rH{lo:Lo}:(ev (n+1)).E fr lo S0 (.ListComp a gs sc p)=MQ (ev n) fr lo S0 a gs sc:=⋯
theorem ZA{lo:Lo}(h:e=.ListComp (XZ e) [⟨VH e,bg e,TM e,0⟩] (FG e) (y8 e))(hc:MQ (ev n) fr lo S0 (XZ e) [⟨VH e,bg e,TM e,0⟩] (FG e)=some ⟨x,S1⟩):(ev (n+1)).E fr lo S0 e=some ⟨x,S1⟩:=(Ai ((ev (n+1)).E fr lo S0) h).trans (rH.trans hc)
noncomputable def y9:Expr->Nat | .Tuple _ k _=>k | .List .. =>0 | _=>0
theorem Vg{lo:Lo}(h:e=.List (C0 e) (Jy e))(hn:noStar 200 (C0 e)=true)(ha:Ji (ev n) fr lo S (C0 e)=some ⟨vs,S1⟩):(ev (n+1)).E fr lo S e=some ⟨.lst vs,S1⟩:=
 (Ai ((ev (n+1)).E fr lo S) h).trans ((Ai (λz=>Af z ((Ji (ev n) fr lo S (C0 e)).bind λx=>some (⟨.lst x.v,x.S⟩ :Rt AV))) hn).trans (Ai (λo:Ab (Rt (List AV))=>o.bind λx=>some (⟨.lst x.v,x.S⟩ :Rt AV)) ha))
def Nj(s:Az)(i:Nat):Expr:=CA (C0 (BU s)) i
def NG(s:Az)(i:Nat):Expr:=CA (C0 (Cm s)) i
def gR(fr:FD)(lo:Lo)(S:St)(ts:List Expr)(vs:List AV)(o:Ab (List Str)):Ab Rx:=match o with | none=>Hl (KH fr lo S ts vs) | some xs=>Hl (T6 fr lo S xs.reverse vs.reverse)
theorem om{lo:Lo}(h:s=.Assign [.Tuple [Nj s 0,Nj s 1] (y9 (BU s)) (Jy (BU s))] (.Tuple [NG s 0,NG s 1] (y9 (Cm s)) (Jy (Cm s))) (bB s))(hn:noStar 200 [NG s 0,NG s 1]=true)
  (hw:YF fr [Nj s 0,Nj s 1] [NG s 0,NG s 1]=some o)(m1:Kg (Bw (Nj s 0)) MO=false)(m2:Kg (Bw (Nj s 1)) MO=false)
  (h1:(ev n).E fr lo S (NG s 0)=some ⟨v1,S1⟩)(h2:(ev n).E fr lo S1 (NG s 1)=some ⟨v2,S2⟩):
  (ev (n+1)).X fr lo S s=gR fr lo S2 [Nj s 0,Nj s 1] [v1,v2] o:=by
 have TN:OU (ev n) fr lo S (Bw (Nj s 0)) (NG s 0)=some ⟨v1,S1⟩:=(Ai (λb=>cond b _ ((ev n).E fr lo S (NG s 0))) m1).trans h1
 have k2:OU (ev n) fr lo S1 (Bw (Nj s 1)) (NG s 1)=some ⟨v2,S2⟩:=(Ai (λb=>cond b _ ((ev n).E fr lo S1 (NG s 1))) m2).trans h2
 refine(Ai ((ev (n+1)).X fr lo S) h).trans ((Ai (λz=>Af z ((YF fr [Nj s 0,Nj s 1] [NG s 0,NG s 1]).bind λo=>(d7 (ev n) fr lo S [Nj s 0,Nj s 1] [NG s 0,NG s 1]).bind λvs=>gR fr lo vs.S [Nj s 0,Nj s 1] vs.v o)) hn).trans ((Ai (λz:Ab (Ab (List Str))=>z.bind λo=>(d7 (ev n) fr lo S [Nj s 0,Nj s 1] [NG s 0,NG s 1]).bind λvs=>gR fr lo vs.S [Nj s 0,Nj s 1] vs.v o) hw).trans ?_))
 refine(Ai (λz:Ab (Rt AV)=>(z.bind λx=>((OU (ev n) fr lo x.S (Bw (Nj s 1)) (NG s 1)).bind λy=>some (⟨[y.v],y.S⟩ :Rt (List AV))).bind λy=>some (⟨x.v::y.v,y.S⟩ :Rt (List AV))).bind λvs=>gR fr lo vs.S [Nj s 0,Nj s 1] vs.v o) TN).trans ?_
 exact Ai (λz:Ab (Rt AV)=>((z.bind λy=>some (⟨[y.v],y.S⟩ :Rt (List AV))).bind λy=>some (⟨v1::y.v,y.S⟩ :Rt (List AV))).bind λvs=>gR fr lo vs.S [Nj s 0,Nj s 1] vs.v o) k2
theorem K7{Q:List Nat}:Q.filter (λ_=>true)=Q:=List.filter_eq_self.mpr λ_ _=>rfl
def X3(v:Nat->AV)(rw:AV):Lo:=A8 (FE v) [("rows",rw)]
def rI(v:Nat->AV)(rw pb pr:AV):Lo:=A8 (X3 v rw) [("plain_blues",pb),("plain_reds",pr)]
def rJ(v:Nat->AV)(rw pb pr:AV):Lo:=A8 (rI v rw pb pr) [("behind",.loc 23)]
def rK(B:List Nat):AV:=.lst [.loc 20,.loc 21,.lst (CP B)]
noncomputable def Di(L:Ku)(k:Nat)(l:List Nat):List AV:=l.map λ(q:Nat)=>.int (L q k)
section
variable{o:Nat->AO}{pt:AO}{L:Ku}{R G B:List Nat}{v:Nat->AV}{b:Aa}
def xv:Az:=Bb Ck 20
def bj:Az:=Bb Ck 21
def e20:Expr:=CA (C0 (Cm xv)) 2
theorem c20(hB:B.length<80):(ev 116).E A6 (FE v) ⟨HB o pt L R G B,b⟩ e20=some ⟨.lst (CP B),⟨HB o pt L R G B,b⟩⟩:=by
 have c:=Ht (n:=115) (fr:=A6) (lo:=FE v) (e:=e20) (S0:=⟨HB o pt L R G B,b⟩) (H:=HB o pt L R G B) (b:=b) (src:=.loc 22) (v:=λq=>.tup [.int (L q 2),.int q]) (w:=λq=>.int q) (g:=λ_=>true) (lof:=λq=>[("pair",.tup [.int (L q 2),.int q])]) (fc:=[])
  ⋯ ⋯ ⋯ ⋯ ⋯ hB (λi acc=>⋯) (λq _ lo acc h=>by obtain rfl | ⟨q',rfl⟩:=h<;>kernel_rfl) (λq _ acc=>⋯) (λq _ _ acc=>⋯) (λq _ H'=>rfl)
 rw[K7] at c
 exact ZA ⋯ c
theorem X20(hB:B.length<80):(ev 118).X A6 (FE v) ⟨HB o pt L R G B,b⟩ xv=some ⟨.next,X3 v (rK B),⟨HB o pt L R G B,b⟩⟩:=
 (Ni ⋯ ⋯ (Vg ⋯ ⋯ (CB (v:=.loc 20) (S1:=⟨HB o pt L R G B,b⟩) ⋯ ⋯ (CB (v:=.loc 21) (S1:=⟨HB o pt L R G B,b⟩) ⋯ ⋯ (Dg ⋯ (c20 hB)))))).trans ⋯
theorem AbA(hR:R.length<80)(h7:∀q,q∈R->q<7):(ev 117).E A6 (X3 v rw) ⟨HB o pt L R G B,b⟩ (NG bj 0)=some ⟨.lst (Di L 0 R),⟨HB o pt L R G B,b⟩⟩:=by
 have c:=Ht (lo:=X3 v rw) (S0:=⟨HB o pt L R G B,b⟩) (src:=.loc 20) (v:=λq=>.int q) (g:=λ_=>true)
  ⋯ ⋯ ⋯ ⋯ ⋯ hR (λi acc=>⋯) (λq _ lo acc h=>by obtain rfl | ⟨q',rfl⟩:=h<;>kernel_rfl) (λq _ acc=>⋯)
  (λq hq _ acc=>VG (P:=λq:Nat=>(ev 116).E (DK A6 (HB o pt L R G B).length (FG (NG bj 0)) [("lights",10)]) [("one",.int q)] ⟨HB o pt L R G B++[.list acc],b⟩ (XZ (NG bj 0))=some ⟨.int (L q 0),⟨HB o pt L R G B++[.list acc],b⟩⟩) ⋯ ⋯ ⋯ ⋯ ⋯ ⋯ ⋯ q (h7 q hq)) (λq _ H'=>rfl)
 rw[K7] at c
 exact ZA ⋯ c
theorem AbB(hB:B.length<80):(ev 117).E A6 (X3 v rw) ⟨HB o pt L R G B,b⟩ (NG bj 1)=some ⟨.lst (Di L 2 B),⟨HB o pt L R G B,b⟩⟩:=by
 have c:=Ht (n:=116) (fr:=A6) (lo:=X3 v rw) (e:=NG bj 1) (S0:=⟨HB o pt L R G B,b⟩) (H:=HB o pt L R G B) (b:=b) (src:=.loc 22) (v:=λq=>.tup [.int (L q 2),.int q]) (w:=λq=>.int (L q 2)) (g:=λ_=>true) (lof:=λq=>[("pair",.tup [.int (L q 2),.int q])]) (fc:=[])
  ⋯ ⋯ ⋯ ⋯ ⋯ hB (λi acc=>⋯) (λq _ lo acc h=>by obtain rfl | ⟨q',rfl⟩:=h<;>kernel_rfl) (λq _ acc=>⋯) (λq _ _ acc=>⋯) (λq _ H'=>rfl)
 rw[K7] at c
 exact ZA ⋯ c
theorem X21(hR:R.length<80)(hB:B.length<80)(h7:∀q,q∈R->q<7):(ev 118).X A6 (X3 v rw) ⟨HB o pt L R G B,b⟩ bj=some ⟨.next,rI v rw (.lst (Di L 2 B)) (.lst (Di L 0 R)),⟨HB o pt L R G B,b⟩⟩:=
 (om (o:=some ["plain_reds","plain_blues"]) ⋯ ⋯ ⋯ ⋯ ⋯ (AbA hR h7) (AbB hB)).trans ⋯
theorem X22:(ev 118).X A6 (rI v rw pb pr) ⟨HB o pt L R G B,b⟩ (Bb Ck 22)=some ⟨.next,rJ v rw pb pr,⟨HB o pt L R G B++[.list []],b⟩⟩:=⋯
end
structure lP(L:Ku)(R G B:List Nat):Prop where
 lr:R.length=7
 lg:G.length=7
 lb:B.length=7
 g7:∀i,i<7->G.getD i 0<7
 mr:∀x:Int,PN (λq=>decide (L q 0<x)) R
 mg:∀x:Int,PN (λq=>decide (L q 1<=x)) G
 mb:∀x:Int,PN (λq=>decide (L q 2<=x)) B
def cR(L:Ku)(R:List Nat)(x:Int):Nat:=cnt (λq=>decide (L q 0<x)) R
def cG(L:Ku)(G:List Nat)(x:Int):Nat:=cnt (λq=>decide (L q 1<=x)) G
def cB(L:Ku)(B:List Nat)(x:Int):Nat:=cnt (λq=>decide (L q 2<=x)) B
def bh(L:Ku)(R G B:List Nat)(m:Nat):AV:=.lst [.int (cR L R (L m 0)),.int (cG L G (L m 1)),.int (cB L B (L m 2))]
def Ti(v:Nat->AV)(rw pb pr:AV)(x:Ab (AV×AV×AV))(y:Ab AV):Lo:=A8 (rJ v rw pb pr) (A8 (x.elim [] λt=>[("red",t.1),("green",t.2.1),("blue",t.2.2)]) (y.elim [] λt=>[("place",t)]))
def Tj:Az:=Bb Ck 23
def kG2:Sq:=rD (kwE (Cm (Bb (B3 Tj) 0)))
theorem xw(hA:H[A]?=some (.list xs))(hn:xs.length<=1000):IM r 0 (.bi .append) (.loc A) [p] ⟨H,b⟩=some ⟨.none,⟨H.set A (.list (xs++[p])),b⟩⟩:=
 (Ai (λo:Ab AO=>o.bind (jA 0 ⟨H,b⟩ A p)) hA).trans (Ai (λz=>Af z (HH 0 ⟨H,b⟩ A (.list (xs++[p])))) (JT hn))
section
variable{o:Nat->AO}{pt:AO}{L:Ku}{R G B:List Nat}{v:Nat->AV}{b:Aa}{D:List AV}{rw:AV}
def Gs(o:Nat->AO)(pt:AO)(L:Ku)(R G B:List Nat)(D:List AV):List AO:=HB o pt L R G B++[.list D]
theorem xx:∀p:Nat,p<7->∀m wr,A9 (ev (m+4)) wr (.BH kG2) [.int p] [] ⟨Gs o pt L R G B D,b⟩=some ⟨.int (L p 1),⟨Gs o pt L R G B D,b⟩⟩:=
 VG (λm wr=>⋯) (λm wr=>⋯) (λm wr=>⋯) (λm wr=>⋯) (λm wr=>⋯) (λm wr=>⋯) (λm wr=>⋯)
theorem PS{f:Nat->AV}{l:List Nat}(h:l.length=7):some ((l.map f).length:Int)=some ((7:Nat):Int):=Ai (λn:Nat=>some (n:Int)) ((AY ..).trans h)
variable(W:lP L R G B)
include W
theorem AbC:(ev 117).X A6 (Ti v rw (.lst (Di L 2 B)) (.lst (Di L 0 R)) (some (.int (L m 0),.int (L m 1),.int (L m 2))) y) ⟨Gs o pt L R G B D,b⟩ (Bb (B3 Tj) 0)=some ⟨.next,Ti v rw (.lst (Di L 2 B)) (.lst (Di L 0 R)) (some (.int (L m 0),.int (L m 1),.int (L m 2))) (some (.int (cG L G (L m 1)))),⟨Gs o pt L R G B D,b⟩⟩:=by
 have c:=xq (wr:=0) (c':=cG L G (L m 1)) (a:=.loc 21) (x:=.int (L m 1)) (H:=Gs o pt L R G B D) (b:=b) (as:=[.loc 21,.int (L m 1)]) (ks:=[("key",.BH kG2)])
  ⋯ ⋯ (PS W.lg) (λi hi=>Jr rfl (MI (by rw[W.lg];exact hi)) (by rw[show(CP G).length=7 from(AY ..).trans W.lg];decide)) (λi hi=>xx _ (W.g7 i hi) 106 _) (λi hi=>Ai some (Tg _ _)) (λi hi=>XU (W.mg _) i hi) (λi hi h2=>XW (W.mg _) i hi (by rw[W.lg];exact h2)) (AA (Hr _) (Bo W.lg))
 refine(Ni ⋯ ⋯ ((CH (S1:=⟨Gs o pt L R G B D,b⟩) ⋯ ⋯ ⋯ ⋯ ⋯ ⋯).trans c)).trans ?_
 cases y<;>kernel_rfl
theorem AbD(hD:D.length<=1000):(ev 117).X A6 (Ti v rw (.lst (Di L 2 B)) (.lst (Di L 0 R)) (some (.int (L m 0),.int (L m 1),.int (L m 2))) (some (.int (cG L G (L m 1))))) ⟨Gs o pt L R G B D,b⟩ (Bb (B3 Tj) 1)=some ⟨.next,Ti v rw (.lst (Di L 2 B)) (.lst (Di L 0 R)) (some (.int (L m 0),.int (L m 1),.int (L m 2))) (some (.int (cG L G (L m 1)))),⟨Gs o pt L R G B (D++[bh L R G B m]),b⟩⟩:=by
 have c:=xo (k:=106) (wr:=0) (c':=cR L R (L m 0)) (a:=.lst (Di L 0 R)) (x:=.int (L m 0)) (H:=Gs o pt L R G B D) (b:=b) (as:=[.lst (Di L 0 R),.int (L m 0)]) (ks:=[])
  ⋯ ⋯ (PS W.lr) (λi hi=>MF (MI (by rw[W.lr];exact hi)) (by rw[show(Di L 0 R).length=7 from(AY ..).trans W.lr];decide)) (λi hi=>rfl) (λi hi=>XU (W.mr _) i hi) (λi hi h2=>XW (W.mr _) i hi (by rw[W.lr];exact h2)) (AA (Hr _) (Bo W.lr))
 have d:=Abv (k:=106) (wr:=0) (c':=cB L B (L m 2)) (a:=.lst (Di L 2 B)) (x:=.int (L m 2)) (H:=Gs o pt L R G B D) (b:=b) (as:=[.lst (Di L 2 B),.int (L m 2)]) (ks:=[]) (V:=λi=>.int (L (B.getD i 0) 2)) (P:=λi=>decide (L (B.getD i 0) 2<=L m 2))
  ⋯ ⋯ (PS W.lb) (λi hi=>MF (MI (f:=λ(q:Nat)=>.int (L q 2)) (by rw[W.lb];exact hi)) (by rw[show(Di L 2 B).length=7 from(AY ..).trans W.lb];decide)) (λi hi=>Ai some (Tg _ _)) (λi hi=>XU (W.mb _) i hi) (λi hi h2=>XW (W.mb _) i hi (by rw[W.lb];exact h2)) (AA (Hr _) (Bo W.lb))
 refine Qm (n:=116) (v:=.none) ⋯ ⋯ ((I9 (n:=115) (S1:=⟨Gs o pt L R G B D,b⟩) (S2:=⟨Gs o pt L R G B D,b⟩) (v:=.loc 23) (k:=.bi .append) (vs:=[bh L R G B m]) ⋯ ⋯ ⋯ ⋯ ⋯ "append" ⋯ ⋯ (Dg ⋯ (Vg (n:=114) ⋯ ⋯ ?_))).trans (xw (A:=23) (xs:=D) rfl hD))
 refine CB (v:=.int (cR L R (L m 0))) (S1:=⟨Gs o pt L R G B D,b⟩) ⋯ ((CH (n:=113) (S1:=⟨Gs o pt L R G B D,b⟩) (S2:=⟨Gs o pt L R G B D,b⟩) (f:=.val (.ref 57)) (vs:=[.lst (Di L 0 R),.int (L m 0)]) (kv:=[]) ⋯ ⋯ ⋯ ⋯ ⋯ ⋯).trans c) ?_
 refine CB (v:=.int (cG L G (L m 1))) (S1:=⟨Gs o pt L R G B D,b⟩) ⋯ ⋯ (Dg ⋯ ?_)
 exact(CH (n:=113) (S1:=⟨Gs o pt L R G B D,b⟩) (S2:=⟨Gs o pt L R G B D,b⟩) (f:=.val (.ref 39)) (vs:=[.lst (Di L 2 B),.int (L m 2)]) (kv:=[]) ⋯ ⋯ ⋯ ⋯ ⋯ ⋯).trans d
theorem Hu{lo:Lo}(hD:D.length<=1000)(h1:Src.at (Gs o pt L R G B D) m (.loc 14)=some (some (.lst [.int (L m 0),.int (L m 1),.int (L m 2)])))(h2:Jv A6 lo ⟨Gs o pt L R G B D,b⟩ (BU Tj) (.lst [.int (L m 0),.int (L m 1),.int (L m 2)])=some ⟨Ti v rw (.lst (Di L 2 B)) (.lst (Di L 0 R)) (some (.int (L m 0),.int (L m 1),.int (L m 2))) y,⟨Gs o pt L R G B D,b⟩⟩):
  forL (ev 117) A6 (.loc 14) (BU Tj) (B3 Tj) (k+1) m lo ⟨Gs o pt L R G B D,b⟩=forL (ev 117) A6 (.loc 14) (BU Tj) (B3 Tj) k (m+1) (Ti v rw (.lst (Di L 2 B)) (.lst (Di L 0 R)) (some (.int (L m 0),.int (L m 1),.int (L m 2))) (some (.int (cG L G (L m 1))))) ⟨Gs o pt L R G B (D++[bh L R G B m]),b⟩:=
 B0 h1 h2 ((Ak ⋯ (AbC W)).trans ((Ak ⋯ (AbD W hD)).trans ⋯))
def rL(L:Ku)(R G B:List Nat):List AV:=[bh L R G B 0,bh L R G B 1,bh L R G B 2,bh L R G B 3,bh L R G B 4,bh L R G B 5,bh L R G B 6]
theorem X23:(ev 118).X A6 (rJ v rw (.lst (Di L 2 B)) (.lst (Di L 0 R))) ⟨Gs o pt L R G B [],b⟩ Tj=some ⟨.next,Ti v rw (.lst (Di L 2 B)) (.lst (Di L 0 R)) (some (.int (L 6 0),.int (L 6 1),.int (L 6 2))) (some (.int (cG L G (L 6 1)))),⟨Gs o pt L R G B (rL L R G B),b⟩⟩:=
 Qn (S1:=⟨Gs o pt L R G B [],b⟩) ⋯ ⋯ ⋯ ((Hu W (v:=v) (rw:=rw) (y:=none) (Bn rfl) ⋯ ⋯).trans ((Hu W (v:=v) (rw:=rw) (y:=some (.int (cG L G (L 0 1)))) (Bn rfl) ⋯ ⋯).trans ((Hu W (v:=v) (rw:=rw) (y:=some (.int (cG L G (L 1 1)))) (Bn rfl) ⋯ ⋯).trans ((Hu W (v:=v) (rw:=rw) (y:=some (.int (cG L G (L 2 1)))) (m:=3) (k:=76) (Bn rfl) ⋯ ⋯).trans
  ((Hu W (v:=v) (rw:=rw) (y:=some (.int (cG L G (L 3 1)))) (m:=4) (k:=75) (Bn rfl) ⋯ ⋯).trans ((Hu W (v:=v) (rw:=rw) (y:=some (.int (cG L G (L 4 1)))) (m:=5) (k:=74) (Bn rfl) ⋯ ⋯).trans ((Hu W (v:=v) (rw:=rw) (y:=some (.int (cG L G (L 5 1)))) (m:=6) (k:=73) (Bn rfl) ⋯ ⋯).trans ⋯)))))))
end
noncomputable def obs(xs:List Aa)(b:Aa):Aa:=xs.foldl (λb x=>x&&b) b
theorem Es(h:∀x,x∈xs->x=true):obs xs b=b:=by
 induction xs generalizing b with
 |nil=>rfl
 |cons x xs ih=>exact(ih λy hy=>h y (.tail _ hy)).trans (Ai (· &&b) (h x (.head _)))
noncomputable def up(n:Nat)(x:Int):Int:=x.fdiv (2^n)
def lw(n:Nat)(x:Int):Int:=Oq x (up n x*2^n)
def oo(n:Nat)(x:Int):List Int:=[lw n x,lw n (up n x),up n (up n x)]
def Vh(n:Nat)(x:Int):List Int:=oo n (lw (3*n) x)++[lw n (lw (2*n) (up (3*n) x)),up n (lw (2*n) (up (3*n) x)),lw n (up (2*n) (up (3*n) x)),up n (up (2*n) (up (3*n) x))]
def oq(n:Nat)(x:Int):List Aa:=[up (3*n) x,up n (lw (3*n) x),up n (up n (lw (3*n) x)),up (2*n) (up (3*n) x),up n (lw (2*n) (up (3*n) x)),up n (up (2*n) (up (3*n) x))].map AM
noncomputable def EB(l:List Int):List AV:=l.map .int
theorem ou{lo:Lo}(h:s=.Assign [.Name (Bw (BU s)) (Jy (BU s))] (Cm s) (bB s))(hc:MP (Cm s)=none)(hd:Hh (Cm s)=true)(ht:Kg (Bw (BU s)) MO=true)(hl:Qu (Cm s)=none)(e1 e2:Expr)(hm:ae (Cm s)=some (e1,e2))(hs:noStar 200 [e1]=true)
  (h1:(ev n).E fr lo S e1=some ⟨v,S1⟩)(h2:(ev n).E fr lo S1 e2=some ⟨.int y,S2⟩)(hy:decide (0<=y/\y<1000)=true):(ev (n+1)).X fr lo S s=(Xc ⟨ON [v] y.toNat,S2⟩).bind λv=>Hl (putN fr lo v.S (Bw (BU s)) v.v):=by
 have hv:OU (ev n) fr lo S (Bw (BU s)) (Cm s)=Xc ⟨ON [v] y.toNat,S2⟩:=by
  unfold OU
  rw[ht,hl,hm]
  show Af (noStar 200 [e1]) (((ev n).E fr lo S e1).bind λv=>((ev n).E fr lo v.S e2).bind λk=>(intOf k.v).bind λy=>Af (decide (0<=y/\y<1000)) (Xc ⟨ON [v.v] y.toNat,k.S⟩))=_
  rw[hs,h1]
  show((ev n).E fr lo S1 e2).bind (λk=>(intOf k.v).bind λy=>Af (decide (0<=y/\y<1000)) (Xc ⟨ON [v] y.toNat,k.S⟩))=_
  rw[h2]
  show Af (decide (0<=y/\y<1000)) (Xc ⟨ON [v] y.toNat,S2⟩)=_
  rw[hy]
  rfl
 refine(Ai ((ev (n+1)).X fr lo S) h).trans ?_
 show OX (ev n) fr lo S (Bw (BU s)) (Cm s)=_
 unfold OX
 rw[hc]
 rw[hd,hv]
 rfl
theorem gS{binds lo Bv:Lo}
  (hb:Cv fi as ks=some binds)(hp:IK (Au fi H.length wr) [] ⟨H++AK fi.scope.names,b⟩ binds=some ⟨lo,S1⟩)(he:fi.Ss=false)(hB:fi.body=.stmts (E9 fi.body))
  (hX:Xs r (Au fi H.length wr) lo S1 (E9 fi.body)=some ⟨fl,Bv,S2⟩)(hv:fl.Nb=some v)(hz:fz 6 H.length S2.H v=some v'):CM r fi as ks wr ⟨H,b⟩=some ⟨v',⟨H,S2.ob⟩⟩:=by
 unfold CM
 rw[hb]
 show((IK (Au fi H.length wr) [] ⟨H++AK fi.scope.names,b⟩ binds).bind λp=>(KN r (Au fi H.length wr) fi.body p.v p.S).bind λx=>cond fi.Ss (some x) (letGo ⟨H,b⟩ x))=_
 rw[hp,hB,he]
 show(((Xs r (Au fi H.length wr) lo S1 (E9 fi.body)).bind λx=>x.fl.Nb.bind λv=>some (⟨v,x.S⟩ :Rt AV)).bind λx=>letGo ⟨H,b⟩ x)=_
 rw[hX]
 show((fl.Nb.bind λv=>some (⟨v,S2⟩ :Rt AV)).bind λx=>letGo ⟨H,b⟩ x)=_
 rw[hv]
 show(fz 6 H.length S2.H v).bind (λv=>some (⟨v,⟨H,S2.ob⟩⟩ :Rt AV))=_
 rw[hz]
 rfl
theorem X4{binds lo Bv:Lo}(hn:H.length=n)
  (hb:Cv fi as ks=some binds)(hp:IK (Au fi n wr) [] ⟨H++AK fi.scope.names,b⟩ binds=some ⟨lo,S1⟩)(he:fi.Ss=false)(hB:fi.body=.stmts (E9 fi.body))
  (hX:Xs r (Au fi n wr) lo S1 (E9 fi.body)=some ⟨fl,Bv,S2⟩)(hv:fl.Nb=some v)(hz:fz 6 n S2.H v=some v'):CM r fi as ks wr ⟨H,b⟩=some ⟨v',⟨H,S2.ob⟩⟩:=by
 subst hn
 exact gS hb hp he hB hX hv hz
def K8:FI:=jd (FT 64)
def ZC(i:Nat):Az:=Bb (E9 K8.body) i
def fdX(s:Az)(fr:FD)(fc:List (Str×Nat)):AV:=match s with | .FunctionDef n ps b _ _ _ sc _ _ _=>.BH ⟨n,fr.qual++n,ps,.stmts b,sc,fc⟩ | _=>.none
def tR(s:Az):Expr×Expr:=(ae (Cm s)).getD (e0,e0)
def bD(k:Nat):AV:=fdX (ZC 1) (Au K8 k k) [("n",k),("inner",k+2),("a_digits",k+1)]
section
variable{o:Nat->AO}{pt:AO}{L:Ku}{R G B:List Nat}{D T:List AV}{b:Aa}{X:Int}{c1 c2:AV}
def VI(o:Nat->AO)(pt:AO)(L:Ku)(R G B:List Nat)(D:List AV)(c1 c2:AV)(T:List AV):List AO:=Gs o pt L R G B D++[.cell (some c1),.cell (some c2),.list T]
noncomputable def PU(H:List AO)(n:Int)(c d:Ab AV)(ds:List AO):List AO:=H++(.cell (some (.int n))::.cell c::.cell d::ds)
theorem J7(hb:(((Dy X:Nat):Int)+147-1).fdiv 147=7)(h0:X≠0):A9 (ev (k+20)) wr (.val (.ref 64)) [.int X,.int 147] [] ⟨VI o pt L R G B D c1 c2 T,b⟩=some ⟨.lst (EB (Vh 147 X)),⟨VI o pt L R G B D c1 c2 T,obs (oq 147 X) b⟩⟩:=by
 have x0:(ev (k+20)).X (Au K8 27 wr) [("a",.int X)] ⟨PU (VI o pt L R G B D c1 c2 T) 147 none none [],b⟩ (ZC 0)=some ⟨.next,[("a",.int X)],⟨PU (VI o pt L R G B D c1 c2 T) 147 (some (.loc 30)) none [.list (EB [0,0,0,0,0,0,0])],b⟩⟩:=
  (ou (v:=.int 0) ⋯ ⋯ ⋯ ⋯ ⋯ (tR (ZC 0)).1 (tR (ZC 0)).2 ⋯ ⋯ ⋯
   ((show(ev (k+19)).E (Au K8 27 wr) [("a",.int X)] ⟨PU (VI o pt L R G B D c1 c2 T) 147 none none [],b⟩ (tR (ZC 0)).2=some ⟨.int ((((Dy X:Nat):Int)+147-1).fdiv 147),⟨PU (VI o pt L R G B D c1 c2 T) 147 none none [],b⟩⟩ from ⋯).trans (by rw[hb])) ⋯).trans ⋯
 have x2:(ev (k+20)).X (Au K8 27 wr) [("a",.int X)] ⟨PU (VI o pt L R G B D c1 c2 T) 147 (some (.loc 30)) (some (bD 27)) [.list (EB [0,0,0,0,0,0,0])],b⟩ (ZC 2)=some ⟨.next,[("a",.int X)],⟨PU (VI o pt L R G B D c1 c2 T) 147 (some (.loc 30)) (some (bD 27)) [.list (EB (Vh 147 X))],obs (oq 147 X) b⟩⟩:=
  (K1 ⋯ ((show(ev (k+19)).T (Au K8 27 wr) [("a",.int X)] ⟨PU (VI o pt L R G B D c1 c2 T) 147 (some (.loc 30)) (some (bD 27)) [.list (EB [0,0,0,0,0,0,0])],b⟩ (BU (ZC 2))=some ⟨decide (X≠0),⟨PU (VI o pt L R G B D c1 c2 T) 147 (some (.loc 30)) (some (bD 27)) [.list (EB [0,0,0,0,0,0,0])],b⟩⟩ from ⋯).trans (by rw[AU h0]))).trans ⋯
 refine(show A9 (ev (k+20)) wr (.val (.ref 64)) [.int X,.int 147] [] ⟨VI o pt L R G B D c1 c2 T,b⟩=CM (ev (k+20)) K8 [.int X,.int 147] [] wr ⟨VI o pt L R G B D c1 c2 T,b⟩ from ⋯).trans ?_
 refine gS (fi:=K8) (binds:=[("a",.int X),("n",.int 147)]) (lo:=[("a",.int X)]) (Bv:=[("a",.int X)]) (v:=.loc 30) (fl:=.ret (.loc 30)) (S1:=⟨PU (VI o pt L R G B D c1 c2 T) 147 none none [],b⟩) (S2:=⟨PU (VI o pt L R G B D c1 c2 T) 147 (some (.loc 30)) (some (bD 27)) [.list (EB (Vh 147 X))],obs (oq 147 X) b⟩) ⋯ ⋯ ⋯ ⋯ ?_ rfl ⋯
 refine(Ak ⋯ x0).trans ((Ak (lo1:=[("a",.int X)]) (S1:=⟨PU (VI o pt L R G B D c1 c2 T) 147 (some (.loc 30)) (some (bD 27)) [.list (EB [0,0,0,0,0,0,0])],b⟩) ⋯ ⋯).trans ((Ak ⋯ x2).trans ⋯))
theorem xy(hw:wr<=A)(hA:H[A]?=some (.list xs))(hn:xs.length<=1000):IM r wr (.bi .append) (.loc A) [p] ⟨H,b⟩=some ⟨.none,⟨H.set A (.list (xs++[p])),b⟩⟩:=
 (Ai (λo:Ab AO=>o.bind (jA wr ⟨H,b⟩ A p)) hA).trans ((Ai (λz=>Af z (HH wr ⟨H,b⟩ A (.list (xs++[p])))) (JT hn)).trans (Ai (λz=>(Af z (some ((⟨H,b⟩ :St).on (H.set A (.list (xs++[p])))))).bind λS'=>some (⟨.none,S'⟩ :Rt AV)) (JT hw)))
def E7:FI:=jd (FT 284)
def Nk(i:Nat):Az:=Bb (E9 E7.body) i
noncomputable def t7(n:Nat)(f:Nat->Int):Int:=((f 6*2^n+f 5)*2^(2*n)+(f 4*2^n+f 3))*2^(3*n)+((f 2*2^n+f 1)*2^n+f 0)
noncomputable def evd(L:Ku)(p:Nat):Int:=L p 0+128*L p 1+16384*L p 2
def K9:Int:=t7 21 λ_=>1
def Et:Int:=t7 147 λ_=>1
def tS(n:Nat)(f:Nat->Int):List Aa:=[f 6,f 6*2^n+f 5,f 4,(f 6*2^n+f 5)*2^(2*n)+(f 4*2^n+f 3),f 2,f 2*2^n+f 1].map AM
def Nl(L:Ku):Int:=t7 21 (evd L)
noncomputable def La(x:Int)(y:Int)(t:Ab (AV×AV)):Lo:=A8 [("lights",.loc 14),("everybody",.int x),("everywhere",.int y),("table",.loc 26)] (t.elim [] λp=>[("bounds",p.1),("figures",p.2)])
def obA(L:Ku):List Aa:=([0,1,2,3,4,5,6].flatMap λp=>[AM (L p 1),AM (L p 2)])++(tS 21 (evd L)++[AM (Nl L)&&true])
theorem AbE:Xs (ev 116) (Au E7 24 0) [("lights",.loc 14)] ⟨Gs o pt L R G B D++[.cell none,.cell none],b⟩ ((E9 E7.body).take 4)=some ⟨.next,La (Nl L) (Nl L*Et) none,⟨Gs o pt L R G B D++[.cell (some (.int K9)),.cell none,.list []],obs (obA L) b⟩⟩:=⋯
noncomputable def mx(a b:Int):Int:=if a<b then b else a
def bd(L:Ku)(m:Nat)(p:Nat):Int:=0+(mx (L m 0) (L p 0)+64)*1+(mx (L m 1) (L p 1)+64)*128+(mx (L m 2) (L p 2)+64)*16384
def XF(L:Ku)(m:Nat):Int:=t7 147 (bd L m)*K9-Nl L*Et
def fg(f:Int):Int:=((Gf (Gf (Gf f (f.fdiv (2^7))) (f.fdiv (2^14))) (64*K9)).fdiv (2^6)).fmod 2097151
def oz(L:Ku)(m:Nat):AV:=.lst ([0,1,2,3,4,5,6].map λp=>.int (bd L m p))
def obB(L:Ku)(m:Nat):List Aa:=[0,1,2,3,4,5,6].flatMap λp=>[AM (mx (L m 0) (L p 0)+64)&&true,AM (mx (L m 1) (L p 1)+64)&&true,AM (mx (L m 2) (L p 2)+64)&&true]
def TP(o:Nat->AO)(pt:AO)(L:Ku)(R G B:List Nat)(D:List AV)(m:Nat)(T:List AV):List AO:=VI o pt L R G B D (.int K9) (.lst [.int (L m 0),.int (L m 1),.int (L m 2)]) T
theorem AbF:(ev 115).X (Au E7 24 0) (La (Nl L) (Nl L*Et) t) ⟨TP o pt L R G B D m T,b⟩ (Bb (B3 (Nk 4)) 0)=some ⟨.next,A8 [("lights",.loc 14),("everybody",.int (Nl L)),("everywhere",.int (Nl L*Et)),("table",.loc 26),("bounds",oz L m)] (t.elim [] λp=>[("figures",p.2)]),⟨TP o pt L R G B D m T,obs (obB L m) b⟩⟩:=by cases t<;>kernel_rfl
def gT(L:Ku)(m:Nat)(t:Ab (AV×AV)):Lo:=A8 [("lights",.loc 14),("everybody",.int (Nl L)),("everywhere",.int (Nl L*Et)),("table",.loc 26),("bounds",oz L m)] (t.elim [] λp=>[("figures",p.2)])
theorem xA:Ji (ev 113) (Au E7 24 0) (gT L m t) ⟨TP o pt L R G B D m T,b⟩ (C0 (Cm (Bb (B3 (Nk 4)) 1)))=some ⟨[.int (XF L m),.int 147],⟨TP o pt L R G B D m T,obs (tS 147 (bd L m)++[AM (t7 147 (bd L m))&&true]) b⟩⟩:=by cases t<;>kernel_rfl
def Hv(L:Ku)(m:Nat)(ds:List Int):Lo:=La (Nl L) (Nl L*Et) (some (oz L m,.lst (EB ds)))
theorem AbG(hb:(((Dy (XF L m):Nat):Int)+147-1).fdiv 147=7)(h0:XF L m≠0):(ev 115).X (Au E7 24 0) (gT L m t) ⟨TP o pt L R G B D m T,b⟩ (Bb (B3 (Nk 4)) 1)=
  some ⟨.next,Hv L m (Vh 147 (XF L m)),⟨TP o pt L R G B D m T,obs (oq 147 (XF L m)) (obs (tS 147 (bd L m)++[AM (t7 147 (bd L m))&&true]) b)⟩⟩:=by
 refine(Ni ⋯ ⋯
  ((CH (S2:=⟨TP o pt L R G B D m T,obs (tS 147 (bd L m)++[AM (t7 147 (bd L m))&&true]) b⟩) ⋯ ⋯ ⋯ (by cases t<;>kernel_rfl) xA ⋯).trans (J7 hb h0))).trans ?_
 cases t<;>kernel_rfl
theorem xB:Ji (ev 113) (Au E7 24 0) (Hv L m [d0,d1,d2,d3,d4,d5,d6]) ⟨TP o pt L R G B D m T,b⟩ (C0 (Cm (Bb (B3 (Nk 4)) 2)))=some ⟨[.lst (EB ([d0,d1,d2,d3,d4,d5,d6].map fg))],⟨TP o pt L R G B D m T,b⟩⟩:=⋯
theorem AbH(hT:T.length<=1000):(ev 115).X (Au E7 24 0) (Hv L m [d0,d1,d2,d3,d4,d5,d6]) ⟨TP o pt L R G B D m T,b⟩ (Bb (B3 (Nk 4)) 2)=
  some ⟨.next,Hv L m [d0,d1,d2,d3,d4,d5,d6],⟨TP o pt L R G B D m (T++[.lst (EB ([d0,d1,d2,d3,d4,d5,d6].map fg))]),b⟩⟩:=
 Qm ⋯ ⋯ ((I9 ⋯ ⋯ ⋯ ⋯ ⋯ "append" ⋯ ⋯ xB).trans (xy (A:=26) ⋯ rfl hT))
end
noncomputable def comb(n:Nat):List Nat->Nat
 |[]=>0
 |d::ds=>d+2^n*comb n ds
noncomputable abbrev L7(f:Nat->Nat):List Nat:=[0,1,2,3,4,5,6].map f
theorem Lb:∀{ds:List Nat},(∀d,d∈ds->d<2^n)->comb n ds<2^(n*ds.length)
 |[],_=>Nat.one_pos
 |d::ds,h=>by
  have h1:=h d (.head _)
  have h2:=Lb λx hx=>h x (.tail _ hx)
  have h3: 2^n*(comb n ds+1)<=2^n*2^(n*ds.length):=JA _ h2
  rw[<-JX,Ga n] at h3
  exact BW (Nat.add_lt_add_right h1 _) (by rw[Ga,<-Nat.mul_succ];exact h3)
theorem PV:∀(f g:Nat->Nat)(l:List Nat),comb n (l.map λj=>f j+g j)=comb n (l.map f)+comb n (l.map g)
 |_,_,[]=>rfl
 |f,g,x::l=>by
  show f x+g x+2^n*comb n (l.map λj=>f j+g j)=f x+2^n*comb n (l.map f)+(g x+2^n*comb n (l.map g))
  rw[PV f g l,Nat.mul_add]
  ac_rfl
theorem GL(c:Nat):∀(f:Nat->Nat)(l:List Nat),comb n (l.map λj=>f j*c)=comb n (l.map f)*c
 |_,[]=>(Ic c).symm
 |f,x::l=>by
  show f x*c+2^n*comb n (l.map λj=>f j*c)=(f x+2^n*comb n (l.map f))*c
  rw[GL c f l,LQ,Fg]
theorem Js(n:Nat)(f:Nat->Nat):t7 n (λj=>(f j:Int))=(comb n (L7 f):Nat):=by
 have h2:(2:Int)^(2*n)=2^n*2^n:=by rw[Nat.two_mul,Q9]
 have h3:(2:Int)^(3*n)=2^n*2^n*2^n:=by rw[show 3*n=n+n+n by exact(pw [] (.e (.m 3 .p) (.A (.A .p .p) .p)) [] [_]),Q9,Q9]
 show t7 n (λj=>(f j:Int))=((f 0+2^n*(f 1+2^n*(f 2+2^n*(f 3+2^n*(f 4+2^n*(f 5+2^n*(f 6+2^n*0)))))):Nat):Int)
 unfold t7
 rw[h2,h3]
 push_cast
 generalize (2:Int)^n=a
 grind
theorem lQ(h:y<2^n):Oq ((x*2^n+y:Nat):Int) ((x*2^n:Nat):Int)=y:=by
 have ha:Gf ((x*2^n+y:Nat):Int) ((x*2^n:Nat):Int)=(((x*2^n+y) &&& (x*2^n):Nat):Int):=by
  unfold Gf
  rw[AU (HF _),AU (HF _)]
  rfl
 have ho:Bk.bitOr ((x*2^n+y:Nat):Int) ((x*2^n:Nat):Int)=(((x*2^n+y) ||| (x*2^n):Nat):Int):=by
  have e:∀z:Nat,Ot (Ot (z:Int))=z:=λz=>by unfold Ot;exact(pw [] (.E (.S (.g (.S (.g (.n .p)) (.j 1))) (.j 1)) (.n .p)) [] [_])
  have ng:∀z:Nat,decide (0<=Ot (z:Int))=false:=λz=>Ct (by unfold Ot;exact(pw [] (.n (.L (.j 0) (.S (.g (.n .p)) (.j 1)))) [] [_]))
  delta Bk.bitOr Gf
  rw[ng,ng]
  rw[e,e,e]
  rfl
 have e1:x*2^n+y=x*2^n ||| y:=by rw[<-Nat.shiftLeft_eq];exact Nat.shiftLeft_add_eq_or_of_lt h x
 unfold Oq
 rw[ha,ho,e1,show(x*2^n ||| y) &&& x*2^n=x*2^n from Wg λi=>by rw[Ro,Wl];cases (x*2^n).testBit i<;>rcases y.testBit i with ⟨⟩<;>rfl,
  show(x*2^n ||| y) ||| x*2^n=x*2^n ||| y from Wg λi=>by rw[Wl,Wl];cases (x*2^n).testBit i<;>rcases y.testBit i with ⟨⟩<;>rfl,<-e1]
 exact(pw [] (.E (.S (.n (.A .p .q)) (.n .p)) (.n .q)) [] [_,_])
theorem oA(h:y<2^n):up n ((x*2^n+y:Nat):Int)=x:=by
 have hp:(0:Int)<2^n:=by exact_mod_cast EG n
 unfold up
 rw[NT _ (Ed hp)]
 have:((x*2^n+y:Nat):Int)/((2^n:Nat):Int)=x:=by
  rw[<-Int.natCast_ediv,Ga,Nat.add_mul_div_right _ _ (EG n),Nat.div_eq_of_lt h,Ia]
 exact_mod_cast this
theorem xC(h:y<2^n):lw n ((x*2^n+y:Nat):Int)=y:=by
 unfold lw
 rw[oA h]
 have:=lQ (x:=x) h
 push_cast at this ⊢
 exact this
theorem spl(ha:a.length=k)(h:∀d,d∈a->d<2^n):comb n (a++b)=comb n b*2^(k*n)+comb n a/\comb n a<2^(k*n):=by
 subst ha
 refine⟨?_,Dv n _▸Lb h⟩
 clear h
 induction a with
 |nil=>simp[comb]
 |cons x a ih=>
  show x+2^n*comb n (a++b)=comb n b*2^((a.length+1)*n)+(x+2^n*comb n a)
  rw[ih,Nat.succ_mul,JX,Nat.mul_add]
  ac_rfl
theorem PW(n d:Nat):comb n [d]=d:=by unfold comb comb;exact(pw [] (.e (.A .p (.R .q 0)) .p) [] [_,_])
theorem rM(ha:a.length=k)(h:∀d,d∈a->d<2^n):up (k*n) (comb n (a++b):Nat)=(comb n b:Nat)/\lw (k*n) (comb n (a++b):Nat)=(comb n a:Nat):=by
 have e:=spl (b:=b) ha h
 rw[e.1]
 exact⟨oA e.2,xC e.2⟩
theorem Nm(h:d<2^n):up n (comb n (d::b):Nat)=(comb n b:Nat)/\lw n (comb n (d::b):Nat)=d:=by
 have e:=rM (k:=1) (a:=[d]) (b:=b) rfl (λx hx=>by cases hx with | head=>exact h | tail _ hx=>rcases hx with ⟨⟩)
 rw[C3,PW] at e
 exact e
theorem gU(h0:d0<2^n)(h1:d1<2^n):oo n (comb n [d0,d1,d2]:Nat)=[(d0:Int),d1,d2]:=by
 unfold oo
 rw[(Nm h0).1,(Nm h0).2,(Nm h1).1,(Nm h1).2,PW]
theorem rN(h0:d0<2^n)(h1:d1<2^n)(h2:d2<2^n)(h3:d3<2^n)(h4:d4<2^n)(h5:d5<2^n):
  Vh n (comb n [d0,d1,d2,d3,d4,d5,d6]:Nat)=[(d0:Int),d1,d2,d3,d4,d5,d6]/\oq n (comb n [d0,d1,d2,d3,d4,d5,d6]:Nat)=[(comb n [d3,d4,d5,d6]:Nat),(comb n [d1,d2]:Nat),(d2:Nat),(comb n [d5,d6]:Nat),(d4:Nat),(d6:Nat)].map (λx:Nat=>AM x):=by
 have e1:=rM (k:=3) (a:=[d0,d1,d2]) (b:=[d3,d4,d5,d6]) rfl (λx hx=>by simp only[Bc,N1,OF] at hx;rcases hx with rfl | rfl | rfl<;>assumption)
 have e2:=rM (k:=2) (a:=[d3,d4]) (b:=[d5,d6]) rfl (λx hx=>by simp only[Bc,N1,OF] at hx;rcases hx with rfl | rfl<;>assumption)
 simp only[List.cons_append,List.nil_append] at e1 e2
 delta Vh oq
 rw[e1.1,e1.2,gU h0 h1,e2.1,e2.2,(Nm h3).1,(Nm h3).2,(Nm h5).1,(Nm h5).2,(Nm h0).1,(Nm h1).1,PW,PW,PW] at ⊢
 exact⟨rfl,rfl⟩
noncomputable def Ja(d:Nat):Nat:=cond (d.testBit 6&&(d.testBit 13&&d.testBit 20)) 1 0
theorem FX(d:Nat):Ja d<=1:=by unfold Ja;cases (d.testBit 6&&(d.testBit 13&&d.testBit 20))<;>decide
theorem Lc(h:d<2^21)(ds:List Nat)(i:Nat):(comb 21 (d::ds)).testBit i=if i<21 then d.testBit i else (comb 21 ds).testBit (i-21):=by
 rw[show comb 21 (d::ds)=2^21*comb 21 ds+d from Ga _ _]
 exact cu _ h i
def msk(ds:List Nat):Nat:=((comb 21 ds &&& comb 21 ds >>>7) &&& comb 21 ds >>>14) &&& comb 21 (ds.map λ_=>64)
theorem gV(ds:List Nat)(i:Nat):(msk ds).testBit i=((((comb 21 ds).testBit i&&(comb 21 ds).testBit (7+i))&&(comb 21 ds).testBit (14+i))&&(comb 21 (ds.map λ_=>64)).testBit i):=by
 unfold msk
 rw[Ro,Ro,Ro,cA,cA]
theorem xD(i:Nat):(64:Nat).testBit i=decide (i=6):=by
 rw[show(64:Nat)=2^6 from rfl,Nat.testBit_two_pow]
 exact OE.mpr eq_comm
theorem lR(d i:Nat):(64*Ja d).testBit i=(decide (i=6)&&(d.testBit 6&&(d.testBit 13&&d.testBit 20))):=by
 unfold Ja
 cases (d.testBit 6&&(d.testBit 13&&d.testBit 20)) with
 |true=>exact(xD i).trans (NR _).symm
 |false=>exact(Nat.zero_testBit i).trans (Q2 _).symm
theorem gW:∀{ds:List Nat},(∀d,d∈ds->d<2^21)->msk ds=comb 21 (ds.map λd=>64*Ja d)
 |[],_=>rfl
 |d::ds,h=>by
  have hd:=h d (.head _)
  have ih:=gW λx hx=>h x (.tail _ hx)
  refine Wg λi=>?_
  rw[gV,Lc hd,Lc hd,Lc hd,show(d::ds).map (λ_=>64)=64::ds.map λ_=>64 from rfl,Lc ⋯,show(d::ds).map (λd=>64*Ja d)=64*Ja d::ds.map λd=>64*Ja d from rfl,Lc (by have:=FX d;exact(pw [.l .p (.k 1)] (.t (.m 64 .p) (.k (2^21))) [] [_]) this)]
  by_cases hi:i<21
  ·rw[Bh hi,Bh hi,Bh hi,xD,lR]
   by_cases h6:i=6
   ·subst h6
    rw[Bh ⋯,Bh ⋯]
    cases d.testBit 6<;>cases d.testBit 13<;>cases d.testBit 20<;>rfl
   ·rw[Ct h6,Q2,Aa.false_and]
  ·rw[AD hi,AD (by exact(pw [.n (.t .p (.k 21))] (.n (.t (.A (.k 7) .p) (.k 21))) [] [_]) hi),AD (by exact(pw [.n (.t .p (.k 21))] (.n (.t (.A (.k 14) .p) (.k 21))) [] [_]) hi),AD hi,AD hi,<-ih,gV,show 7+i-21=7+(i-21) by exact(pw [.n (.t .p (.k 21))] (.e (.S (.A (.k 7) .p) (.k 21)) (.A (.k 7) (.S .p (.k 21)))) [] [_]) hi,show 14+i-21=14+(i-21) by exact(pw [.n (.t .p (.k 21))] (.e (.S (.A (.k 14) .p) (.k 21)) (.A (.k 14) (.S .p (.k 21)))) [] [_]) hi]
theorem Vi:∀ds:List Nat,comb 21 ds%2097151=ds.sum%2097151
 |[]=>rfl
 |d::ds=>by
  have:=Vi ds
  show(d+2^21*comb 21 ds)%2097151=(d+ds.sum)%2097151
  lia
theorem Kv(a b:Nat):Gf (a:Int) (b:Int)=((a &&& b:Nat):Int):=by
 unfold Gf
 rw[AU (HF _),AU (HF _)]
 rfl
theorem PX(a n:Nat):(a:Int).fdiv (2^n)=((a >>>n:Nat):Int):=by
 rw[NT _ (by exact_mod_cast Co _),cz]
 push_cast
 rfl
theorem Vj:K9=((comb 21 (L7 λ_=>1):Nat):Int):=Js 21 λ_=>1
theorem xE(h:∀p,f p<2^21):fg (comb 21 (L7 f):Nat)=(((L7 f).map Ja).sum:Nat):=by
 have hm:=gW (ds:=L7 f) λd hd=>(CD.mp hd).elim λp hp=>hp.2▸h p
 have e64: 64*K9=((comb 21 ((L7 f).map λ_=>64):Nat):Int):=by
  rw[Vj]
  exact(Q6 64 _).symm.trans (Ai Ie ((Dv _ _).trans (GL 64 (λ_=>1) [0,1,2,3,4,5,6]).symm))
 have h3:comb 21 ((L7 f).map λd=>64*Ja d)=comb 21 ((L7 f).map Ja)*64:=by
  refine Hd ?_ ((GL 64 Ja (L7 f)))
  exact Ai (comb 21) (LD λd _=>Dv _ _)
 unfold fg
 rw[PX,PX,e64,Kv,Kv,Kv,show((comb 21 (L7 f) &&& comb 21 (L7 f) >>>7) &&& comb 21 (L7 f) >>>14) &&& comb 21 ((L7 f).map λ_=>64)=comb 21 ((L7 f).map Ja)*64 from hm.trans h3,PX,cz,Nat.mul_div_cancel _ (by decide: 0<2^6),NS _ ⋯] at ⊢
 have hs:((L7 f).map Ja).sum<=7:=by
  have VJ:=FX (f 0);have VK:=FX (f 1);have gZ:=FX (f 2);have bE:=FX (f 3);have jf:=FX (f 4);have lS:=FX (f 5);have:=FX (f 6)
  exact(pw [.l .p (.k 1),.l .q (.k 1),.l .r (.k 1),.l .s (.k 1),.l .t (.k 1),.l .u (.k 1),.l .w (.k 1)] (.l (.A .p (.A .q (.A .r (.A .s (.A .t (.A .u (.A .w (.k 0)))))))) (.k 7)) [] [_,_,_,_,_,_,_]) VJ VK gZ bE jf lS this
 have:=Vi ((L7 f).map Ja)
 lia
abbrev B8:=Nat->Nat->Nat
noncomputable def A1(l:B8):Ku:=λp k=>(l p k:Nat)
noncomputable def Np(l:B8)(m j k:Nat):Nat:=max (l m k) (l j k)
def dN(l:B8)(m j p:Nat):Nat:=(Np l m j 0+64-l p 0)+128*(Np l m j 1+64-l p 1)+16384*(Np l m j 2+64-l p 2)
noncomputable def g4(l:B8)(p:Nat):Nat:=l p 0+128*l p 1+16384*l p 2
def g6(l:B8)(m j:Nat):Nat:=(Np l m j 0+64)+128*(Np l m j 1+64)+16384*(Np l m j 2+64)
def FN(l:B8)(m j:Nat):Nat:=comb 21 (L7 (dN l m j))
def bp(l:B8)(m j p:Nat):Aa:=decide (l p 0<=Np l m j 0)&&(decide (l p 1<=Np l m j 1)&&decide (l p 2<=Np l m j 2))
def KA(l:B8)(m j:Nat):Nat:=(L7 λp=>cond (bp l m j p) 1 0).sum
section
variable{l:B8}(hl:∀p k,l p k<=63)
include hl
theorem Gu(m j k:Nat):Np l m j k<=63:=Nat.max_le.mpr ⟨hl m k,hl j k⟩
omit hl in
theorem tb6(h:c<128):c.testBit 6=decide (64<=c):=by
 rw[Nat.testBit_eq_decide_div_mod_eq]
 exact OE.mpr (by lia)
theorem xF(m j p:Nat):Ja (dN l m j p)=cond (bp l m j p) 1 0:=by
 have h0:=Gu hl m j 0;have h1:=Gu hl m j 1;have h2:=Gu hl m j 2
 have t:∀{a b:Nat}(ha:a<2^7)(i:Nat),(2^7*b+a).testBit i=if i<7 then a.testBit i else b.testBit (i-7):=λha i=>cu _ ha i
 have ge:∀k,decide (64<=Np l m j k+64-l p k)=decide (l p k<=Np l m j k):=λk=>OE.mpr (by lia)
 have e:dN l m j p=2^7*(2^7*(Np l m j 2+64-l p 2)+(Np l m j 1+64-l p 1))+(Np l m j 0+64-l p 0):=by unfold dN;exact(pw [] (.e (.A (.A (.S (.A .p (.k 64)) .q) (.m 128 (.S (.A .r (.k 64)) .s))) (.m 16384 (.S (.A .t (.k 64)) .u))) (.A (.m (2^7) (.A (.m (2^7) (.S (.A .t (.k 64)) .u)) (.S (.A .r (.k 64)) .s))) (.S (.A .p (.k 64)) .q))) [] [_,_,_,_,_,_])
 have b0:Np l m j 0+64-l p 0<128:=(pw [.l .p (.k 63)] (.t (.S (.A .p (.k 64)) .q) (.k 128)) [] [_,_]) h0
 have b1:Np l m j 1+64-l p 1<128:=(pw [.l .p (.k 63)] (.t (.S (.A .p (.k 64)) .q) (.k 128)) [] [_,_]) h1
 have b2:Np l m j 2+64-l p 2<128:=(pw [.l .p (.k 63)] (.t (.S (.A .p (.k 64)) .q) (.k 128)) [] [_,_]) h2
 unfold Ja bp
 rw[e,t b0,t b0,t b0,Bh ⋯,AD ⋯,AD ⋯,t b1,t b1,Bh ⋯,AD ⋯,tb6 b0,tb6 b1,tb6 b2,ge,ge,ge]
theorem oB(m j p:Nat):dN l m j p<2^21:=by
 have h0:=Gu hl m j 0;have h1:=Gu hl m j 1;have h2:=Gu hl m j 2
 unfold dN;exact(pw [.l .p (.k 63),.l .q (.k 63),.l .r (.k 63)] (.t (.A (.A (.S (.A .p (.k 64)) .s) (.m 128 (.S (.A .q (.k 64)) .t))) (.m 16384 (.S (.A .r (.k 64)) .u))) (.k (2^21))) [] [_,_,_,_,_,_]) h0 h1 h2
theorem rO(m j p:Nat): 1<=dN l m j p:=by have:=hl p 0;unfold dN;exact(pw [.l .p (.k 63)] (.l (.k 1) (.A (.A (.S (.A .q (.k 64)) .p) (.m 128 (.S (.A .r (.k 64)) .s))) (.m 16384 (.S (.A .t (.k 64)) .u)))) [] [_,_,_,_,_,_]) this
theorem Ld(m j:Nat):FN l m j<2^147:=Lb λd hd=>(CD.mp hd).elim λp hp=>hp.2▸oB hl m j p
theorem rP(m j:Nat): 1<=FN l m j:=AA (rO hl m j 0) (BF _ _)
theorem PY(m j:Nat):fg (FN l m j:Nat)=(KA l m j:Nat):=(xE λp=>oB hl m j p).trans (Ai (λx:List Nat=>(x.sum:Int)) ((F6 ..).trans (LD λp _=>xF hl m j p)))
theorem rQ(m j p:Nat):dN l m j p+g4 l p=g6 l m j:=by
 have VJ:=hl p 0;have VK:=hl p 1;have:=hl p 2
 unfold dN g4 g6;exact(pw [.l .p (.k 63),.l .q (.k 63),.l .r (.k 63)] (.e (.A (.A (.A (.S (.A .s (.k 64)) .p) (.m 128 (.S (.A .t (.k 64)) .q))) (.m 16384 (.S (.A .u (.k 64)) .r))) (.A (.A .p (.m 128 .q)) (.m 16384 .r))) (.A (.A (.A .s (.k 64)) (.m 128 (.A .t (.k 64)))) (.m 16384 (.A .u (.k 64))))) [] [_,_,_,_,_,_]) VJ VK this
omit hl in
theorem PZ(a b:Nat):mx (a:Int) (b:Int)=(max a b:Nat):=by unfold mx;split<;>lia
omit hl in
theorem g8(m j:Nat):bd (A1 l) m j=(g6 l m j:Nat):=by
 unfold bd A1
 rw[PZ,PZ,PZ]
 show _=(((Np l m j 0+64)+128*(Np l m j 1+64)+16384*(Np l m j 2+64):Nat):Int)
 unfold Np
 exact(pw [] (.E (.A (.A (.A (.j 0) (.Q (.A (.n (.max .p .q)) (.j 64)) 1)) (.Q (.A (.n (.max .r .s)) (.j 64)) 128)) (.Q (.A (.n (.max .t .u)) (.j 64)) 16384)) (.n (.A (.A (.A (.max .p .q) (.k 64)) (.m 128 (.A (.max .r .s) (.k 64)))) (.m 16384 (.A (.max .t .u) (.k 64)))))) [] [_,_,_,_,_,_])
theorem oE(m:Nat):XF (A1 l) m=(comb 147 (L7 (FN l m)):Nat):=by
 have e1:=(Ai (t7 147) (funext (g8 m))).trans (Js 147 (g6 l m))
 have e2:Nl (A1 l)=(comb 21 (L7 (g4 l)):Nat):=Js 21 (g4 l)
 have e3:Et=(comb 147 (L7 λ_=>1):Nat):=Js 147 λ_=>1
 have q:∀j,g6 l m j*comb 21 (L7 λ_=>1)=FN l m j+1*comb 21 (L7 (g4 l)):=λj=>by
  rw[C3,Dv,<-GL (g6 l m j) (λ_=>1) [0,1,2,3,4,5,6]]
  refine Hd ?_ (PV (dN l m j) (g4 l) [0,1,2,3,4,5,6])
  exact Ai (comb 21) (LD λp _=>(C3 _).trans (rQ hl m j p).symm)
 have r:comb 147 (L7 (g6 l m))*comb 21 (L7 λ_=>1)=comb 147 (L7 (FN l m))+comb 147 (L7 λ_=>1)*comb 21 (L7 (g4 l)):=by
  rw[<-GL _ (g6 l m) [0,1,2,3,4,5,6],<-GL _ (λ_=>1) [0,1,2,3,4,5,6],<-PV]
  exact Ai (comb 147) (LD λj _=>q j)
 unfold XF
 rw[e1,e2,e3,Vj,<-Q6,<-Q6,r,Dv (comb 21 (L7 (g4 l)))] at ⊢
 exact(pw [] (.E (.S (.n (.A .p .q)) (.n .q)) (.n .p)) [] [_,_])
theorem ZD(m:Nat):(((Dy (XF (A1 l) m):Nat):Int)+147-1).fdiv 147=7/\XF (A1 l) m≠0:=by
 have IZ:=Lb (ds:=L7 (FN l m)) λd hd=>(CD.mp hd).elim λp hp=>hp.2▸Ld hl m p
 have s:=(spl (a:=[0,1,2,3,4,5].map (FN l m)) (b:=[FN l m 6]) rfl λd hd=>(CD.mp hd).elim λp hp=>hp.2▸Ld hl m p).1
 rw[PW] at s
 have za: 2^882<=comb 147 (L7 (FN l m)):=by
  rw[show comb 147 (L7 (FN l m))=_ from s]
  exact AA (AA (Bo (C3 _).symm) (Ef _ (rP hl m 6))) (BF _ _)
 rw[oE hl]
 generalize comb 147 (L7 (FN l m))=N at IZ za
 have h0:N≠0:=λh=>by rw[h] at za;exact AL za (H7 (EG _))
 have a:=(Nat.le_log2 h0).mpr za
 have c:=(Wq h0).mpr IZ
 have hb:Dy (N:Int)=N.log2+1:=by
  unfold Dy
  rw[AD (by simpa using h0)]
  rfl
 refine⟨?_,λh=>h0 (LA.inj h)⟩
 rw[hb,NT _ ⋯]
 exact(pw [.l (.k 882) .p,.t .p (.k 1029),.E (.A (.l 147 .p) .q) (.S (.A (.n (.A .p (.k 1))) (.j 147)) (.j 1)),.T .q (.j 147),.L (.j 0) .q] (.E .p (.j 7)) [_,_] [_]) a c (VX _ _) (Lx _ ⋯) (Lz _ ⋯)
theorem g9(m:Nat):Vh 147 (XF (A1 l) m)=[(FN l m 0:Int),FN l m 1,FN l m 2,FN l m 3,FN l m 4,FN l m 5,FN l m 6]/\oq 147 (XF (A1 l) m)=[comb 147 [FN l m 3,FN l m 4,FN l m 5,FN l m 6],comb 147 [FN l m 1,FN l m 2],FN l m 2,comb 147 [FN l m 5,FN l m 6],FN l m 4,FN l m 6].map (λx:Nat=>AM x):=by
 rw[oE hl]
 exact rN (Ld hl m 0) (Ld hl m 1) (Ld hl m 2) (Ld hl m 3) (Ld hl m 4) (Ld hl m 5)
end
section
set_option exponentiation.threshold 2000
theorem Jb:∀{l1 l2:List Az}{lo lo1:Lo}{S S1:St},Xs r fr lo S l1=some ⟨.next,lo1,S1⟩->Xs r fr lo S (l1++l2)=Xs r fr lo1 S1 l2
 |[],_,_,_,_,_,h=>by cases h;rfl
 |s::l1,l2,lo,lo1,S,S1,h=>by
  change (r.X fr lo S s).bind (λx=>cond x.fl.C8 (Xs r fr x.lo x.S l1) (some x))=_ at h
  show(r.X fr lo S s).bind (λx=>cond x.fl.C8 (Xs r fr x.lo x.S (l1++l2)) (some x))=_
  cases e:r.X fr lo S s with
  |none=>rw[e] at h;nomatch h
  |some x=>
   rw[e] at h
   change cond x.fl.C8 (Xs r fr x.lo x.S l1) (some x)=_ at h
   show cond x.fl.C8 (Xs r fr x.lo x.S (l1++l2)) (some x)=_
   cases q:x.fl.C8 with
   |true=>rw[q] at h;exact Jb h
   |false=>rw[q] at h;cases h;exact VU q
theorem oF{lo:Lo}(h:s=.Assign [.Name (Bw (BU s)) (Jy (BU s))] (Cm s) (bB s))(hc:MP (Cm s)=none)(hd:Hh (Cm s)=true)(ht:Kg (Bw (BU s)) MO=true)(hl:Qu (Cm s)=none)(hm:ae (Cm s)=none)(hE:(ev n).E fr lo S (Cm s)=some ⟨v,S1⟩):(ev (n+1)).X fr lo S s=Hl (putN fr lo S1 (Bw (BU s)) v):=by
 have hv:OU (ev n) fr lo S (Bw (BU s)) (Cm s)=some ⟨v,S1⟩:=by
  unfold OU
  rw[ht,hl,hm]
  exact hE
 refine(Ai ((ev (n+1)).X fr lo S) h).trans ?_
 show OX (ev n) fr lo S (Bw (BU s)) (Cm s)=_
 unfold OX
 rw[hc]
 rw[hd,hv]
 rfl
theorem sm{x k:Nat}(h:x<2^k)(hk:k<=1029):AM (x:Int)=true:=
 AU (BW h (cF ⋯ (AA hk ⋯)))
theorem FY(h:∀d,d∈ds->d<2^n)(hk:n*ds.length<=1029):AM (comb n ds:Nat)=true:=sm (Lb h) hk
theorem all1{P:Nat->Prop}(h:P a):∀d,d∈[a]->P d:=λd hd=>CL.mp hd▸h
theorem all2{P:Nat->Prop}(h:P a)(g:∀d,d∈l->P d):∀d,d∈a::l->P d:=λd hd=>(Bc.mp hd).elim (λe=>e▸h) (g d)
theorem AB(h:a=true)(g:∀x,x∈l->x=true):∀x,x∈a::l->x=true:=λd hd=>(Bc.mp hd).elim (λe=>e.trans h) (g d)
theorem FZ:∀x:Aa,x∈([]:List Aa)->x=true:=nofun
theorem hG{l m:List Aa}(h:∀x,x∈l->x=true)(g:∀x,x∈m->x=true):∀x,x∈l++m->x=true:=λd hd=>(LJ.mp hd).elim (h d) (g d)
theorem P0{α:Type}{a b:α}{l m:List α}(h:a=b)(g:l=m):a::l=b::m:=h▸g▸rfl
theorem hJ(h:a=true):(a&&true)=true:=(NR a).trans h
theorem hO{n:Nat}{f:Nat->Nat}(h:∀j,f j<2^n)(hn:n<=147):∀x,x∈tS n (λj=>(f j:Int))->x=true:=by
 have h2:(2:Int)^(2*n)=2^n*2^n:=by rw[Nat.two_mul,Q9]
 have c2:∀a b:Nat,(b:Int)*2^n+a=(comb n [a,b]:Nat):=λa b=>by
  show _=((a+2^n*(b+2^n*0):Nat):Int)
  push_cast
  generalize (2:Int)^n=z
  grind
 have c4:((f 6:Int)*2^n+f 5)*2^(2*n)+(f 4*2^n+f 3)=(comb n [f 3,f 4,f 5,f 6]:Nat):=by
  show _=((f 3+2^n*(f 4+2^n*(f 5+2^n*(f 6+2^n*0))):Nat):Int)
  rw[h2]
  push_cast
  generalize (2:Int)^n=z
  grind
 have s:=λj=>sm (h j) ((pw [.l .p (.k 147)] (.l .p (.k 1029)) [] [_]) hn)
 show ∀x,x∈[AM (f 6),AM ((f 6:Int)*2^n+f 5),AM (f 4),AM (((f 6:Int)*2^n+f 5)*2^(2*n)+(f 4*2^n+f 3)),AM (f 2),AM ((f 2:Int)*2^n+f 1)]->x=true
 rw[c4,c2,c2]
 exact AB (s 6) (AB (FY (all2 (h 5) (all1 (h 6))) (show n*2<=1029 by exact(pw [.l .p (.k 147)] (.l (.R .p 2) (.k 1029)) [] [_]) hn)) (AB (s 4) (AB (FY (all2 (h 3) (all2 (h 4) (all2 (h 5) (all1 (h 6))))) (show n*4<=1029 by exact(pw [.l .p (.k 147)] (.l (.R .p 4) (.k 1029)) [] [_]) hn)) (AB (s 2) (AB (FY (all2 (h 1) (all1 (h 2))) (show n*2<=1029 by exact(pw [.l .p (.k 147)] (.l (.R .p 2) (.k 1029)) [] [_]) hn)) FZ)))))
section
variable{l:B8}(hl:∀p k,l p k<=63)
include hl
theorem ZE(p k:Nat):AM (A1 l p k)=true:=sm (k:=6) (Nat.lt_succ_of_le (hl p k)) ⋯
theorem hU(p:Nat):g4 l p<2^21:=by have VJ:=hl p 0;have VK:=hl p 1;have:=hl p 2;unfold g4;exact(pw [.l .p (.k 63),.l .q (.k 63),.l .r (.k 63)] (.t (.A (.A .p (.m 128 .q)) (.m 16384 .r)) (.k (2^21))) [] [_,_,_]) VJ VK this
theorem hZ(m j:Nat):g6 l m j<2^147:=by
 have gZ:=Gu hl m j 0;have bE:=Gu hl m j 1;have:=Gu hl m j 2
 refine BW (m:=2^21) ?_ ⋯
 unfold g6;exact(pw [.l .p (.k 63),.l .q (.k 63),.l .r (.k 63)] (.t (.A (.A (.A .p (.k 64)) (.m 128 (.A .q (.k 64)))) (.m 16384 (.A .r (.k 64)))) (.k (2^21))) [] [_,_,_]) gZ bE this
theorem rR:∀x,x∈obA (A1 l)->x=true:=by
 refine hG (AB (ZE hl _ _) (AB (ZE hl _ _) (AB (ZE hl _ _) (AB (ZE hl _ _) (AB (ZE hl _ _) (AB (ZE hl _ _) (AB (ZE hl _ _) (AB (ZE hl _ _) (AB (ZE hl _ _) (AB (ZE hl _ _) (AB (ZE hl _ _) (AB (ZE hl _ _) (AB (ZE hl _ _) (AB (ZE hl _ _) FZ)))))))))))))) (hG (hO (hU hl) ⋯) (AB (hJ ?_) FZ))
 exact(Ai AM (Js 21 (g4 l))).trans (FY (λd hd=>(CD.mp hd).elim λp hp=>hp.2▸hU hl p) (Bn rfl))
theorem rS(m:Nat):∀x,x∈obB (A1 l) m->x=true:=by
 have s:∀p k,(AM (mx (A1 l m k) (A1 l p k)+64)&&true)=true:=λp k=>hJ (by
  rw[show mx (A1 l m k) (A1 l p k)+64=((Np l m p k+64:Nat):Int) from Ai (· +64) (PZ _ _)]
  exact sm (by have:=Gu hl m p k;exact(pw [.l .p (.k 63)] (.t (.A .p (.k 64)) (.k (2^7))) [] [_]) this) ⋯)
 exact AB (s _ _) (AB (s _ _) (AB (s _ _) (AB (s _ _) (AB (s _ _) (AB (s _ _) (AB (s _ _) (AB (s _ _) (AB (s _ _) (AB (s _ _) (AB (s _ _) (AB (s _ _) (AB (s _ _) (AB (s _ _) (AB (s _ _) (AB (s _ _) (AB (s _ _) (AB (s _ _) (AB (s _ _) (AB (s _ _) (AB (s _ _) FZ))))))))))))))))))))
theorem rT(m:Nat):∀x,x∈tS 147 (bd (A1 l) m)++[AM (t7 147 (bd (A1 l) m))&&true]->x=true:=by
 rw[funext (g8 m)]
 exact hG (hO (hZ hl m) ⋯) (AB (hJ ((Ai AM (Js 147 (g6 l m))).trans (FY (λd hd=>(CD.mp hd).elim λp hp=>hp.2▸hZ hl m p) (Bn rfl)))) FZ)
theorem rU(m:Nat):∀x,x∈oq 147 (XF (A1 l) m)->x=true:=by
 have h:=Ld hl m
 have s:=λj=>sm (h j) ⋯
 rw[(g9 hl m).2]
 exact AB (FY (all2 (h 3) (all2 (h 4) (all2 (h 5) (all1 (h 6))))) (Bn rfl)) (AB (FY (all2 (h 1) (all1 (h 2))) (Bn rfl)) (AB (s 2) (AB (FY (all2 (h 5) (all1 (h 6))) (Bn rfl)) (AB (s 4) (AB (s 6) FZ)))))
end
section
variable{o:Nat->AO}{pt:AO}{l:B8}{R G B:List Nat}{D T:List AV}{b:Aa}{v:Nat->AV}
def M6(l:B8)(m:Nat):AV:=.lst ([0,1,2,3,4,5,6].map λj=>.int (KA l m j))
def oG(l:B8):List AV:=[0,1,2,3,4,5,6].map (M6 l)
variable(hl:∀p k,l p k<=63)
include hl
theorem rV(hT:T.length<=1000):Xs (ev 115) (Au E7 24 0) (La (Nl (A1 l)) (Nl (A1 l)*Et) t) ⟨TP o pt (A1 l) R G B D m T,b⟩ (B3 (Nk 4))=
  some ⟨.next,Hv (A1 l) m (Vh 147 (XF (A1 l) m)),⟨TP o pt (A1 l) R G B D m (T++[M6 l m]),b⟩⟩:=by
 have e1:=AbF (o:=o) (pt:=pt) (L:=A1 l) (R:=R) (G:=G) (B:=B) (D:=D) (T:=T) (b:=b) (m:=m) (t:=t)
 rw[Es (rS hl m)] at e1
 have e2:=AbG (o:=o) (pt:=pt) (R:=R) (G:=G) (B:=B) (D:=D) (T:=T) (b:=b) (t:=t) (ZD hl m).1 (ZD hl m).2
 rw[Es (rT hl m),Es (rU hl m)] at e2
 have e3:=AbH (o:=o) (pt:=pt) (L:=A1 l) (R:=R) (G:=G) (B:=B) (D:=D) (b:=b) (m:=m) (d0:=FN l m 0) (d1:=FN l m 1) (d2:=FN l m 2) (d3:=FN l m 3) (d4:=FN l m 4) (d5:=FN l m 5) (d6:=FN l m 6) hT
 rw[show[(FN l m 0:Int),FN l m 1,FN l m 2,FN l m 3,FN l m 4,FN l m 5,FN l m 6].map fg=[(KA l m 0:Int),KA l m 1,KA l m 2,KA l m 3,KA l m 4,KA l m 5,KA l m 6] from P0 (PY hl m 0) (P0 (PY hl m 1) (P0 (PY hl m 2) (P0 (PY hl m 3) (P0 (PY hl m 4) (P0 (PY hl m 5) (P0 (PY hl m 6) rfl)))))),<-(g9 hl m).1] at e3
 exact(Ak ⋯ e1).trans ((Ak ⋯ e2).trans ((Ak ⋯ e3).trans ⋯))
theorem Hw(hT:T.length<=1000)(h1:Src.at H m (.loc 14)=some (some (.lst [.int (A1 l m 0),.int (A1 l m 1),.int (A1 l m 2)])))(h2:Jv (Au E7 24 0) (La (Nl (A1 l)) (Nl (A1 l)*Et) t) ⟨H,b⟩ (BU (Nk 4)) (.lst [.int (A1 l m 0),.int (A1 l m 1),.int (A1 l m 2)])=some ⟨La (Nl (A1 l)) (Nl (A1 l)*Et) t,⟨TP o pt (A1 l) R G B D m T,b⟩⟩):
  forL (ev 115) (Au E7 24 0) (.loc 14) (BU (Nk 4)) (B3 (Nk 4)) (k+1) m (La (Nl (A1 l)) (Nl (A1 l)*Et) t) ⟨H,b⟩=forL (ev 115) (Au E7 24 0) (.loc 14) (BU (Nk 4)) (B3 (Nk 4)) k (m+1) (Hv (A1 l) m (Vh 147 (XF (A1 l) m))) ⟨TP o pt (A1 l) R G B D m (T++[M6 l m]),b⟩:=
 B0 h1 h2 (rV hl hT)
theorem xG:(ev 116).X (Au E7 24 0) (La (Nl (A1 l)) (Nl (A1 l)*Et) none) ⟨Gs o pt (A1 l) R G B D++[.cell (some (.int K9)),.cell none,.list []],b⟩ (Nk 4)=some ⟨.next,Hv (A1 l) 6 (Vh 147 (XF (A1 l) 6)),⟨TP o pt (A1 l) R G B D 6 (oG l),b⟩⟩:=
 Qn (S1:=⟨Gs o pt (A1 l) R G B D++[.cell (some (.int K9)),.cell none,.list []],b⟩) ⋯ ⋯ ⋯ ((Hw hl (T:=[]) (o:=o) (pt:=pt) (R:=R) (G:=G) (B:=B) (D:=D) (Bn rfl) ⋯ ⋯).trans
  ((Hw hl (T:=[M6 l 0]) (o:=o) (pt:=pt) (R:=R) (G:=G) (B:=B) (D:=D) (Bn rfl) ⋯ ⋯).trans ((Hw hl (t:=some (oz (A1 l) 1,.lst (EB (Vh 147 (XF (A1 l) 1))))) (m:=2) (k:=77) (T:=[M6 l 0,M6 l 1]) (o:=o) (pt:=pt) (R:=R) (G:=G) (B:=B) (D:=D) (Bn rfl) ⋯ ⋯).trans
  ((Hw hl (t:=some (oz (A1 l) 2,.lst (EB (Vh 147 (XF (A1 l) 2))))) (m:=3) (k:=76) (T:=[M6 l 0,M6 l 1,M6 l 2]) (o:=o) (pt:=pt) (R:=R) (G:=G) (B:=B) (D:=D) (Bn rfl) ⋯ ⋯).trans ((Hw hl (t:=some (oz (A1 l) 3,.lst (EB (Vh 147 (XF (A1 l) 3))))) (m:=4) (k:=75) (T:=[M6 l 0,M6 l 1,M6 l 2,M6 l 3]) (o:=o) (pt:=pt) (R:=R) (G:=G) (B:=B) (D:=D) (Bn rfl) ⋯ ⋯).trans
  ((Hw hl (t:=some (oz (A1 l) 4,.lst (EB (Vh 147 (XF (A1 l) 4))))) (m:=5) (k:=74) (T:=[M6 l 0,M6 l 1,M6 l 2,M6 l 3,M6 l 4]) (o:=o) (pt:=pt) (R:=R) (G:=G) (B:=B) (D:=D) (Bn rfl) ⋯ ⋯).trans ((Hw hl (t:=some (oz (A1 l) 5,.lst (EB (Vh 147 (XF (A1 l) 5))))) (m:=6) (k:=73) (T:=[M6 l 0,M6 l 1,M6 l 2,M6 l 3,M6 l 4,M6 l 5]) (o:=o) (pt:=pt) (R:=R) (G:=G) (B:=B) (D:=D) (Bn rfl) ⋯ ⋯).trans ⋯)))))))
theorem xH:A9 (ev 116) 0 (.val (.ref 284)) [.loc 14] [] ⟨Gs o pt (A1 l) R G B D,b⟩=some ⟨.lst (oG l),⟨Gs o pt (A1 l) R G B D,b⟩⟩:=by
 refine(show A9 (ev 116) 0 (.val (.ref 284)) [.loc 14] [] ⟨Gs o pt (A1 l) R G B D,b⟩=CM (ev 116) E7 [.loc 14] [] 0 ⟨Gs o pt (A1 l) R G B D,b⟩ from ⋯).trans ?_
 refine X4 (n:=24) (binds:=[("lights",.loc 14)]) (lo:=[("lights",.loc 14)]) (Bv:=Hv (A1 l) 6 (Vh 147 (XF (A1 l) 6))) (fl:=.ret (.loc 26)) (S1:=⟨Gs o pt (A1 l) R G B D++[.cell none,.cell none],b⟩) (S2:=⟨TP o pt (A1 l) R G B D 6 (oG l),b⟩) ⋯ ⋯ ⋯ ⋯ ⋯ ?_ rfl ⋯
 have a:=AbE (o:=o) (pt:=pt) (L:=A1 l) (R:=R) (G:=G) (B:=B) (D:=D) (b:=b)
 rw[Es (rR hl)] at a
 have z:Xs (ev 116) (Au E7 24 0) (La (Nl (A1 l)) (Nl (A1 l)*Et) none) ⟨Gs o pt (A1 l) R G B D++[.cell (some (.int K9)),.cell none,.list []],b⟩ ((E9 E7.body).drop 4)=some ⟨.ret (.loc 26),Hv (A1 l) 6 (Vh 147 (XF (A1 l) 6)),⟨TP o pt (A1 l) R G B D 6 (oG l),b⟩⟩:=by
  refine(Ak ⋯ (xG hl)).trans ?_
  kernel_rfl
 refine Hd ?_ ((Jb a).trans z)
 rw[H4]
end
def h9(v:Nat->AV)(l:B8)(R G B:List Nat):Lo:=A8 (Ti v (rK B) (.lst (Di (A1 l) 2 B)) (.lst (Di (A1 l) 0 R)) (some (.int (A1 l 6 0),.int (A1 l 6 1),.int (A1 l 6 2))) (some (.int (cG (A1 l) G (A1 l 6 1))))) [("table",.lst (oG l))]
theorem X24{l:B8}(hl:∀p k,l p k<=63):
  (ev 118).X A6 (Ti v (rK B) (.lst (Di (A1 l) 2 B)) (.lst (Di (A1 l) 0 R)) (some (.int (A1 l 6 0),.int (A1 l 6 1),.int (A1 l 6 2))) (some (.int (cG (A1 l) G (A1 l 6 1))))) ⟨Gs o pt (A1 l) R G B D,b⟩ (Bb Ck 24)=some ⟨.next,h9 v l R G B,⟨Gs o pt (A1 l) R G B D,b⟩⟩:=
 (oF ⋯ ⋯ ⋯ ⋯ ⋯ ⋯ ((CH (S1:=⟨Gs o pt (A1 l) R G B D,b⟩) (S2:=⟨Gs o pt (A1 l) R G B D,b⟩) ⋯ ⋯ ⋯ ⋯ ⋯ ⋯).trans (xH hl))).trans ⋯
end
section
variable{n:Nat}{fr:FD}{lo lo1:Lo}{S S1 S2:St}
theorem ia(h:e=.Compare (E6 e) [gK e] [Ec e] (Jy e))(hn:Gp (Ec e)=true)(h1:(ev n).E fr lo S (E6 e)=some ⟨v1,S1⟩)(h2:(ev n).E fr lo S1 (Ec e)=some ⟨v2,S2⟩)(o:G9)(ho:gK e=o)(h3:Gz o v1 v2 S2=some b):(ev (n+1)).E fr lo S e=some ⟨.bool b,S2⟩:=
 (Ai ((ev (n+1)).E fr lo S) h).trans ((Ai (λz:Ab (Rt AV)=>z.bind λx=>(Ua (ev n) fr lo x (gK e) (Ec e)).bind λy=>some (⟨.bool y.v.2,y.S⟩ :Rt AV)) h1).trans ((Ai (λz:Aa=>(Af z (((ev n).E fr lo S1 (Ec e)).bind λy=>(Gz (gK e) v1 y.v y.S).bind λt=>some (⟨(y.v,t),y.S⟩ :Rt (AV×Aa)))).bind λy=>some (⟨.bool y.v.2,y.S⟩ :Rt AV)) hn).trans
  ((Ai (λz:Ab (Rt AV)=>(z.bind λy=>(Gz (gK e) v1 y.v y.S).bind λt=>some (⟨(y.v,t),y.S⟩ :Rt (AV×Aa))).bind λy=>some (⟨.bool y.v.2,y.S⟩ :Rt AV)) h2).trans (Ai (λz:Ab Aa=>(z.bind λt=>some (⟨(v2,t),S2⟩ :Rt (AV×Aa))).bind λy=>some (⟨.bool y.v.2,y.S⟩ :Rt AV)) (ho▸h3)))))
theorem TOr(h:e=.BoolOp .Or [CA (C0 e) 0,CA (C0 e) 1] (Jy e))(h1:(ev (n+2)).T fr lo S (CA (C0 e) 0)=some ⟨false,S1⟩)(h2:(ev (n+1)).T fr lo S1 (CA (C0 e) 1)=some ⟨false,S2⟩):(ev (n+3)).T fr lo S e=some ⟨false,S2⟩:=
 (Ai ((ev (n+3)).T fr lo S) h).trans ((Ai (λo:Ab (Rt Aa)=>o.bind λx=>cond x.v (some x) ((ev (n+2)).T fr lo x.S (.BoolOp .Or [CA (C0 e) 1] (Jy e)))) h1).trans (Ai (λo:Ab (Rt Aa)=>o.bind λx=>cond x.v (some x) ((ev (n+1)).T fr lo x.S (.BoolOp .Or [] (Jy e)))) h2))
theorem lT(h:e=.Call (.Name (fnX e) (Jy (E6 e))) (C0 e) (U9 e) (Jy e))(hs:Hi fr (fnX e) (C0 e) (U9 e)=some e')(h1:(ev n).E fr lo S e'=some ⟨v,S1⟩)(hv:DQ S1.H v=some xs)(hi:Nc xs []=some is)(hn:xs.length<1000):(ev (n+1)).E fr lo S e=some ⟨.int is.length,S1⟩:=
 (Ai ((ev (n+1)).E fr lo S) h).trans ((Ai (λz:Ab Expr=>(match z with
  |some e=>((ev n).E fr lo S e).bind KO
  |none=>Af (noStar 200 (C0 e)) ((nameA fr lo S (fnX e)).bind λf=>(Ji (ev n) fr lo S (C0 e)).bind λvs=>(Sw (ev n) fr lo vs.S (U9 e)).bind λkv=>A9 (ev n) fr.wr f vs.v kv.v kv.S):Ab (Rt AV))) hs).trans
  ((Ai (λo:Ab (Rt AV)=>o.bind KO) h1).trans ((Ai (λo:Ab (List AV)=>o.bind λxs=>(Nc xs []).bind λis=>Af (decide (xs.length<1000)) (some (⟨.int is.length,S1⟩ :Rt AV))) hv).trans
   ((Ai (λo:Ab (List Int)=>o.bind λis=>Af (decide (xs.length<1000)) (some (⟨.int is.length,S1⟩ :Rt AV))) hi).trans (Ai (λz=>Af z (some (⟨.int is.length,S1⟩ :Rt AV))) (AU hn))))))
noncomputable def ic:AV->Aa | .str _=>false | .tup _=>false | _=>true
theorem rW{i:Nat}(h:e=.Subscript (E6 e) (Ec e) (Jy e))(hs:Fu (Ec e)=some (some el,none,none))(h1:(ev n).E fr lo S (E6 e)=some ⟨x,S1⟩)(h2:(ev n).E fr lo S1 el=some ⟨.int i,S2⟩)(hx:ic x=true)(hq:Qs S2.H x=some xs)(hn:xs.length<1000)(hi:i<=xs.length):(ev (n+1)).E fr lo S e=some ⟨.lst (xs.drop i),S2⟩:=by
 refine(Ai ((ev (n+1)).E fr lo S) h).trans ?_
 show ai (ev n) fr lo S (E6 e) (Ec e)=_
 unfold ai
 rw[h1,hs]
 show(((ev n).E fr lo S1 el).bind λx=>(intOf x.v).bind λi=>some (⟨some i,x.S⟩ :Rt (Ab Int))).bind (λl=>Xb l.S x l.v none)=_
 rw[h2]
 have hc:OO xs (some (i:Int)) none=xs.drop i:=by
  show(xs.drop (DF xs.length (i:Int))).take (xs.length-DF xs.length (i:Int))=xs.drop i
  rw[show DF xs.length (i:Int)=i from by unfold DF;lia]
  exact V8 (by rw[Rg];exact(pw [] (.l (.S .p .q) (.S .p .q)) [] [_,_]))
 have k:(Qs S2.H x).bind (λxs=>Af (decide (xs.length<100000)) (some (⟨.lst (OO xs (some (i:Int)) none),S2⟩ :Rt AV)))=some ⟨.lst (xs.drop i),S2⟩:=by
  rw[hq]
  show Af (decide (xs.length<100000)) (some (⟨.lst (OO xs (some (i:Int)) none),S2⟩ :Rt AV))=_
  rw[AU (show xs.length<100000 by exact(pw [.t .p (.k 1000)] (.t .p (.k 100000)) [] [_]) hn),hc]
  rfl
 cases x<;>first | exact k | exact VU hx
theorem AbK(hw:wr<=A)(hA:H[A]?=some (.list xs))(hp:DQ H p=some ys)(hn:xs.length+ys.length<=1000):IM r wr (.bi .extend) (.loc A) [p] ⟨H,b⟩=some ⟨.none,⟨H.set A (.list (xs++ys)),b⟩⟩:=
 (Ai (λo:Ab AO=>(o.bind CW).bind λxs=>(DQ H p).bind λys=>Af (Bf (xs.length+ys.length) 1000) (HH wr ⟨H,b⟩ A (.list (xs++ys)))) hA).trans ((Ai (λo:Ab (List AV)=>o.bind λys=>Af (Bf (xs.length+ys.length) 1000) (HH wr ⟨H,b⟩ A (.list (xs++ys)))) hp).trans
  ((Ai (λz=>Af z (HH wr ⟨H,b⟩ A (.list (xs++ys)))) (JT hn)).trans (Ai (λz=>(Af z (some ((⟨H,b⟩ :St).on (H.set A (.list (xs++ys)))))).bind λS'=>some (⟨.none,S'⟩ :Rt AV)) (JT hw))))
theorem xI(h:(T5 e).bind (λp=>Af (bw fr p.1 "zip") (some p.2))=some as)(hn:noStar 8 as=true)(h1:Ji (ev n) fr lo S as=some ⟨vs,⟨H,b⟩⟩)(hl:(Bf 2 vs.length&&Bf vs.length 3)=true)(hs:Gn (OT ⟨H,b⟩) vs=some ss):FR (ev n) fr lo S e=some ⟨.zip H.length ss,⟨H++[.raw vs.length],b⟩⟩:=by
 unfold FR
 rw[h]
 show Af (noStar 8 as) ((Ji (ev n) fr lo S as).bind λx=>Af (Bf 2 x.v.length&&Bf x.v.length 3) ((Gn (OT x.S) x.v).bind λss=>some (⟨.zip x.S.H.length ss,x.S.on (x.S.H++[.raw x.v.length])⟩ :Rt Src)))=_
 rw[hn,h1]
 show Af (Bf 2 vs.length&&Bf vs.length 3) ((Gn (OT ⟨H,b⟩) vs).bind λss=>some (⟨.zip H.length ss,⟨H++[.raw vs.length],b⟩⟩ :Rt Src))=_
 rw[hl,hs]
 rfl
theorem tT(hr:H[l]?=some (.raw k))(hk:k=ss.length)(ha:Src.i8 H i ss=some o):Src.at H i (.zip l ss)=some (o.bind λvs=>some (.tup vs)):=by
 show((H[l]?).bind jx).bind (λk=>Af (Aw k ss.length) ((Src.i8 H i ss).bind λo=>some (o.bind λvs=>some (AV.tup vs))))=_
 rw[hr]
 show Af (Aw k ss.length) ((Src.i8 H i ss).bind λo=>some (o.bind λvs=>some (AV.tup vs)))=_
 rw[hk,Ib,ha]
 rfl
end
noncomputable def lU(x:Str)(o:Ab AV):Lo:=o.elim [] λv=>[(x,v)]
def Hx(v:Nat->AV)(l:B8)(R G B:List Nat)(s:Nat)(o1 se:Ab AV)(li:Ab (AV×AV×AV))(it:Ab AV):Lo:=
 A8 (h9 v l R G B) (("second",.int s)::A8 (lU "one" o1) (A8 (lU "seen" se) (A8 (li.elim [] λt=>[("line",t.1),("here",t.2.1),("there",t.2.2)]) (lU "is_tied" it))))
def Nq:Az:=Bb Ck 25
def Vk:Az:=Bb (B3 Nq) 1
def ib(i:Nat):Az:=Bb (B3 Vk) i
def zs:List Expr:=C0 (Cm (ib 1))
def xJ:Az:=NF (B3 (ib 1))
def oH:Expr:=CA (C0 (Cm xJ)) 0
def oI:Expr:=((Fu (Ec oH)).bind λt=>t.1).getD e0
def HZ(o:Nat->AO)(pt:AO)(l:B8)(R G B:List Nat)(Z:List AO):List AO:=Gs o pt (A1 l) R G B (rL (A1 l) R G B)++Z
noncomputable def HY(H:List AO)(xs:List AV):List AO:=(H++[.list xs])++[.raw 3]
theorem at1:(HY H xs)[H.length]?=some (.list xs):=by
 unfold HY
 rw[Ra (by rw[BO];exact CF _)] at ⊢
 exact K6 H _
theorem at2:(HY H xs)[(H++[AO.list xs]).length]?=some (.raw 3):=K6 _ _
theorem AbM:(HY H xs).set H.length (.list ys)=HY H ys:=by
 unfold HY
 rw[List.set_append_left _ _ (by rw[BO];exact CF _),Vf]
def bhA(l:B8)(R G B:List Nat)(m:Nat):AV:=bh (A1 l) R G B m
def xK(l:B8)(R G B:List Nat)(p q:Nat):List Src:=[.lst [.loc 20,.loc 21,.lst (CP B)],.lst [.int (cR (A1 l) R (A1 l p 0)),.int (cG (A1 l) G (A1 l p 1)),.int (cB (A1 l) B (A1 l p 2))],.lst [.int (cR (A1 l) R (A1 l q 0)),.int (cG (A1 l) G (A1 l q 1)),.int (cB (A1 l) B (A1 l q 2))]]
section
variable{o:Nat->AO}{pt:AO}{l:B8}{R G B:List Nat}{Z:List AO}{b:Aa}{v:Nat->AV}{s p:Nat}
theorem b0{g:Ab (AV×(AV×AV×AV)×AV)}:(ev 116).X A6 (Hx v l R G B s (some (.int p)) (g.map (·.1)) (g.map (·.2.1)) (g.map (·.2.2))) ⟨HZ o pt l R G B Z,b⟩ (ib 0)=some ⟨.next,Hx v l R G B s (some (.int p)) (some (.loc (HZ o pt l R G B Z).length)) (g.map (·.2.1)) (g.map (·.2.2)),⟨HZ o pt l R G B Z++[.list [.int p,.int s]],b⟩⟩:=by cases g<;>kernel_rfl
theorem ie:∀p,p<7->(rL (A1 l) R G B)[p]?=some (bhA l R G B p):=VG rfl rfl rfl rfl rfl rfl rfl
theorem xM{x y:AV}(hp:p<7)(hs:s<7):Ji (ev 115) A6 (Hx v l R G B s (some (.int p)) se li it) ⟨HZ o pt l R G B Z++Y,b⟩ zs=some ⟨[rK B,bhA l R G B p,bhA l R G B s],⟨HZ o pt l R G B Z++Y,b⟩⟩:=
 CB (S1:=⟨HZ o pt l R G B Z++Y,b⟩) ⋯ ⋯ (CB (S1:=⟨HZ o pt l R G B Z++Y,b⟩) ⋯
  (Td (S1:=⟨HZ o pt l R G B Z++Y,b⟩) ⋯ ⋯ ⋯ ⋯ (Jr (A:=23) rfl (ie p hp) (Bn rfl)))
  (Dg ⋯ (Td (S1:=⟨HZ o pt l R G B Z++Y,b⟩) ⋯ ⋯ ⋯ ⋯ (Jr (A:=23) rfl (ie s hs) (Bn rfl)))))
theorem xN{c1 c2:Nat}(hx:ic w=true)(hq:Qs (HY H xs) w=some W)(hW:W.length=7)(hc1:c1<=7)(hc2:c2<=7)(hxs:xs.length<900):
  Xs (ev 115) A6 (Hx v l R G B s (some (.int p)) (some (.loc H.length)) (some (w,.int c1,.int c2)) it) ⟨HY H xs,b⟩ (B3 (ib 1))=some ⟨.next,Hx v l R G B s (some (.int p)) (some (.loc H.length)) (some (w,.int c1,.int c2)) it,⟨HY H (xs++W.drop (max c1 c2)),b⟩⟩:=by
 have TN:W.length<1000:=CE (Bo hW) ⋯
 have k2:=AA (Nat.max_le.mpr ⟨hc1,hc2⟩) (Bo hW.symm)
 have k3:xs.length+(W.drop (max c1 c2)).length<=1000:=AA (B5 (DY hxs) (AA (Bo Rg) (AA (Nat.sub_le _ _) (Bo hW)))) ⋯
 have e1:(ev 112).E A6 (Hx v l R G B s (some (.int p)) (some (.loc H.length)) (some (w,.int c1,.int c2)) it) ⟨HY H xs,b⟩ oI=some ⟨.int (max c1 c2:Nat),⟨HY H xs,b⟩⟩:=
  (show _=some (⟨.int (mx c1 c2),⟨HY H xs,b⟩⟩ :Rt AV) from ⋯).trans (by rw[PZ])
 have e2:(ev 113).E A6 (Hx v l R G B s (some (.int p)) (some (.loc H.length)) (some (w,.int c1,.int c2)) it) ⟨HY H xs,b⟩ oH=some ⟨.lst (W.drop (max c1 c2)),⟨HY H xs,b⟩⟩:=by
  refine rW (el:=oI) (x:=w) (S1:=⟨HY H xs,b⟩) ?_ ?_ ?_ ?_ ?_ ?_ ?_ ?_
  ·kernel_rfl
  ·kernel_rfl
  ·kernel_rfl
  ·exact e1
  ·exact hx
  ·exact hq
  ·exact TN
  ·exact k2
 have e3:=AbK (r:=ev 113) (A:=H.length) (b:=b) (p:=.lst (W.drop (max c1 c2))) (Co _) at1 rfl k3
 rw[AbM] at e3
 have g:OS ⟨HY H xs,b⟩ (.loc H.length) "extend" =some (.bi .extend):=by
  show((HY H xs)[H.length]?).bind (Qv ⟨HY H xs,b⟩ "extend")=_
  rw[at1]
  kernel_rfl
 have e4:(ev 114).E A6 (Hx v l R G B s (some (.int p)) (some (.loc H.length)) (some (w,.int c1,.int c2)) it) ⟨HY H xs,b⟩ (Cm xJ)=some ⟨.none,⟨HY H (xs++W.drop (max c1 c2)),b⟩⟩:=by
  refine(I9 ?_ ?_ ?_ ?_ ?_ "extend" ?_ g (Dg ?_ e2)).trans e3<;>kernel_rfl
 exact(Ak ⋯ (Qm ⋯ ⋯ e4)).trans ⋯
theorem X7{c1 c2:Nat}(ha:Src.i8 (HY H xs) i (xK l R G B p s)=some (some [w,.int c1,.int c2]))
  (ht:Jv A6 (Hx v l R G B s (some (.int p)) (some (.loc H.length)) li it) ⟨HY H xs,b⟩ (BU (ib 1)) (.tup [w,.int c1,.int c2])=some ⟨Hx v l R G B s (some (.int p)) (some (.loc H.length)) (some (w,.int c1,.int c2)) it,⟨HY H xs,b⟩⟩)
  (hx:ic w=true)(hq:Qs (HY H xs) w=some W)(hW:W.length=7)(hc1:c1<=7)(hc2:c2<=7)(hxs:xs.length<900)(hz:q=(H++[AO.list xs]).length):
  forL (ev 115) A6 (.zip q (xK l R G B p s)) (BU (ib 1)) (B3 (ib 1)) (k+1) i (Hx v l R G B s (some (.int p)) (some (.loc H.length)) li it) ⟨HY H xs,b⟩=
  forL (ev 115) A6 (.zip q (xK l R G B p s)) (BU (ib 1)) (B3 (ib 1)) k (i+1) (Hx v l R G B s (some (.int p)) (some (.loc H.length)) (some (w,.int c1,.int c2)) it) ⟨HY H (xs++W.drop (max c1 c2)),b⟩:=
 B0 (tT (hz▸at2) rfl ha) ht (xN hx hq hW hc1 hc2 hxs)
end
theorem NH{lo:Lo}(h:src.at S.H i=some none):forL r fr src t body (k+1) i lo S=some ⟨.next,lo,S⟩:=
 Ai (λo:Ab (Ab AV)=>o.bind λo=>(match o with
  |none=>some ⟨.next,lo,S⟩
  |some v=>(Jv fr lo S t v).bind λp=>(Xs r fr p.v p.S body).bind λx=>cond x.fl.GB (forL r fr src t body k (i+1) x.lo x.S) (some x):Ab Rx)) h
noncomputable def HX(H:List AO)(xs:List AV):List AO:=H++[.list xs]
noncomputable def Jc(p s:Nat):List AV:=[.int p,.int s]
def Vl(w:List Nat)(a c:Nat):List AV:=(CP w).drop (max a c)
section
variable{o:Nat->AO}{pt:AO}{l:B8}{R G B:List Nat}{Z:List AO}{b:Aa}{v:Nat->AV}{s p:Nat}
def k0(l:B8)(R:List Nat)(p:Nat):Nat:=cR (A1 l) R (A1 l p 0)
noncomputable def TN(l:B8)(R:List Nat)(p:Nat):Nat:=cG (A1 l) R (A1 l p 1)
def k2(l:B8)(R:List Nat)(p:Nat):Nat:=cB (A1 l) R (A1 l p 2)
def ZF(l:B8)(R:List Nat)(p s:Nat):List AV:=Jc p s++Vl R (k0 l R p) (k0 l R s)
def ZG(l:B8)(R G:List Nat)(p s:Nat):List AV:=ZF l R p s++Vl G (TN l G p) (TN l G s)
def Le(l:B8)(R G B:List Nat)(p s:Nat):List AV:=ZG l R G p s++Vl B (k2 l B p) (k2 l B s)
theorem GN(h:w.length=7):(Vl w a c).length<=7:=AA (Bo Rg) (AA (Nat.sub_le _ _) (Bo ((AY ..).trans h)))
theorem Lg{xs ys:List AV}(h:xs.length<=a)(g:ys.length<=7):(xs++ys).length<=a+7:=AA (Bo BO) (B5 h g)
theorem rZ{g:Ab (AV×(AV×AV×AV)×AV)}(hp:p<7)(hs:s<7):FR (ev 115) A6 (Hx v l R G B s (some (.int p)) (some (.loc (HZ o pt l R G B Z).length)) (g.map (·.2.1)) (g.map (·.2.2))) ⟨HX (HZ o pt l R G B Z) (Jc p s),b⟩ (Cm (ib 1))=some ⟨.zip (HX (HZ o pt l R G B Z) (Jc p s)).length (xK l R G B p s),⟨HY (HZ o pt l R G B Z) (Jc p s),b⟩⟩:=
 xI ⋯ ⋯ (xM (x:=.none) (y:=.none) hp hs) ⋯ ⋯
theorem b1{g:Ab (AV×(AV×AV×AV)×AV)}(W:lP (A1 l) R G B)(hp:p<7)(hs:s<7):(ev 116).X A6 (Hx v l R G B s (some (.int p)) (some (.loc (HZ o pt l R G B Z).length)) (g.map (·.2.1)) (g.map (·.2.2))) ⟨HX (HZ o pt l R G B Z) (Jc p s),b⟩ (ib 1)=
  some ⟨.next,Hx v l R G B s (some (.int p)) (some (.loc (HZ o pt l R G B Z).length)) (some (.lst (CP B),.int (k2 l B p),.int (k2 l B s))) (g.map (·.2.2)),⟨HY (HZ o pt l R G B Z) (Le l R G B p s),b⟩⟩:=by
 refine Qn ⋯ (rZ hp hs) ⋯ ?_
 have c7:∀(P:Nat->Aa)(w:List Nat),w.length=7->cnt P w<=7:=λP w h=>h▸Hr w
 have hl:∀xs:List AV,(HX (HZ o pt l R G B Z) (Jc p s)).length=(HZ o pt l R G B Z++[AO.list xs]).length:=λxs=>by unfold HX;rw[BO,BO] at ⊢;rfl
 have r0:=X7 (v:=v) (l:=l) (R:=R) (G:=G) (B:=B) (s:=s) (p:=p) (b:=b) (k:=79) (i:=0) (w:=.loc 20) (c1:=k0 l R p) (c2:=k0 l R s) (W:=CP R) (xs:=Jc p s) (li:=g.map (·.2.1)) (it:=g.map (·.2.2)) ⋯ (by cases g<;>kernel_rfl) rfl ⋯ ((AY ..).trans W.lr) (c7 _ _ W.lr) (c7 _ _ W.lr) (CE (m:=2) (AP _) ⋯) (hl _)
 have l1:(ZF l R p s).length<=9:=Lg (xs:=Jc p s) (a:=2) (AP _) (GN W.lr)
 have l2:(ZG l R G p s).length<=16:=Lg (a:=9) l1 (GN W.lg)
 have r1:=X7 (H:=HZ o pt l R G B Z) (v:=v) (l:=l) (R:=R) (G:=G) (B:=B) (s:=s) (p:=p) (b:=b) (k:=78) (i:=1) (q:=(HX (HZ o pt l R G B Z) (Jc p s)).length) (w:=.loc 21) (c1:=TN l G p) (c2:=TN l G s) (W:=CP G) (xs:=ZF l R p s) (li:=some (.loc 20,.int (k0 l R p),.int (k0 l R s))) (it:=g.map (·.2.2)) ⋯ (by cases g<;>kernel_rfl) rfl ⋯ ((AY ..).trans W.lg) (c7 _ _ W.lg) (c7 _ _ W.lg) (CE l1 ⋯) (hl _)
 have r2:=X7 (H:=HZ o pt l R G B Z) (v:=v) (l:=l) (R:=R) (G:=G) (B:=B) (s:=s) (p:=p) (b:=b) (k:=77) (i:=2) (q:=(HX (HZ o pt l R G B Z) (Jc p s)).length) (w:=.lst (CP B)) (c1:=k2 l B p) (c2:=k2 l B s) (W:=CP B) (xs:=ZG l R G p s) (li:=some (.loc 21,.int (TN l G p),.int (TN l G s))) (it:=g.map (·.2.2)) ⋯ (by cases g<;>kernel_rfl) rfl ⋯ ((AY ..).trans W.lb) (c7 _ _ W.lb) (c7 _ _ W.lb) (CE l2 ⋯) (hl _)
 refine r0.trans (r1.trans (r2.trans ?_))
 have e:Src.at (HY (HZ o pt l R G B Z) (Le l R G B p s)) 3 (.zip (HX (HZ o pt l R G B Z) (Jc p s)).length (xK l R G B p s))=some none:=tT (k:=3) (o:=none) ((hl (Le l R G B p s))▸at2) rfl ⋯
 exact NH e
end
section
variable{o:Nat->AO}{pt:AO}{l:B8}{R G B:List Nat}{Z:List AO}{b:Aa}{v:Nat->AV}{s p:Nat}
abbrev liA(l:B8)(B:List Nat)(p s:Nat):AV×AV×AV:=(.lst (CP B),.int (k2 l B p),.int (k2 l B s))
def ZH(v:Nat->AV)(l:B8)(R G B:List Nat)(s p N:Nat)(it:Ab AV):Lo:=Hx v l R G B s (some (.int p)) (some (.loc N)) (some (liA l B p s)) it
theorem b2(ho:o 19=.list TI)(hT:∀H,i7 H (.tup [.int p,.int s]) TI=some t):
  (ev 116).X A6 (ZH v l R G B s p (HZ o pt l R G B Z).length it) ⟨HY (HZ o pt l R G B Z) xs,b⟩ (ib 2)=some ⟨.next,ZH v l R G B s p (HZ o pt l R G B Z).length (some (.bool t)),⟨HY (HZ o pt l R G B Z) xs,b⟩⟩:=by
 have c:=
  (rfl).trans ((Ai (λz:AO=>(CW z).bind λys=>i7 (HY (HZ o pt l R G B Z) xs) (.tup [.int p,.int s]) ys) ho).trans (hT _))
 have e:(ev 115).E A6 (ZH v l R G B s p (HZ o pt l R G B Z).length it) ⟨HY (HZ o pt l R G B Z) xs,b⟩ (Cm (ib 2))=some ⟨.bool t,⟨HY (HZ o pt l R G B Z) xs,b⟩⟩:=
  ia (v1:=.tup [.int p,.int s]) (v2:=.loc 19) (S1:=⟨HY (HZ o pt l R G B Z) xs,b⟩) ⋯ ⋯ ⋯ ⋯ .In ⋯ c
 refine(Ni ⋯ ⋯ e).trans ?_
 cases it<;>kernel_rfl
theorem ig:∀p,p<7->(oG l)[p]?=some (M6 l p):=VG rfl rfl rfl rfl rfl rfl rfl
theorem r4:∀s,s<7->([0,1,2,3,4,5,6].map λj=>AV.int (KA l p j))[s]?=some (.int (KA l p s)):=VG rfl rfl rfl rfl rfl rfl rfl
theorem lV{k a c:Nat}{lo:Lo}(ha:a<7)(hc:c<7)(h:e=.Subscript (E6 e) (Ec e) (Jy e))(hs:Fu (Ec e)=none)(h':E6 e=.Subscript (E6 (E6 e)) (Ec (E6 e)) (Jy (E6 e)))(nQ:Fu (Ec (E6 e))=none)
  (h1:(ev k).E A6 lo ⟨H,b⟩ (E6 (E6 e))=some ⟨.lst (oG l),⟨H,b⟩⟩)(h2:(ev k).E A6 lo ⟨H,b⟩ (Ec (E6 e))=some ⟨.int a,⟨H,b⟩⟩)(h3:(ev (k+1)).E A6 lo ⟨H,b⟩ (Ec e)=some ⟨.int c,⟨H,b⟩⟩):
  (ev (k+2)).E A6 lo ⟨H,b⟩ e=some ⟨.int (KA l a c),⟨H,b⟩⟩:=
 Td h hs (Td h' nQ h1 h2 (MF (ig a ha) (Bn rfl))) h3 (MF (r4 c hc) (Bn rfl))
theorem Vm:Gz .NotEq (.bool t) (.bool t) S=some false:=by cases t<;>rfl
def a3(i:Nat):Expr:=CA (C0 (BU (ib 3))) i
theorem b3{t:Aa}{is:List Int}(hp:p<7)(hs:s<7)(hn:Nc xs []=some is)(h7:decide ((is.length:Int)=7)=t)(h2:decide ((KA l p s:Int)=2)=t)(hx:xs.length<1000):
  (ev 116).X A6 (ZH v l R G B s p H.length (some (.bool t))) ⟨HY H xs,b⟩ (ib 3)=some ⟨.next,ZH v l R G B s p H.length (some (.bool t)),⟨HY H xs,b⟩⟩:=by
 have eS:(ev 112).E A6 (ZH v l R G B s p H.length (some (.bool t))) ⟨HY H xs,b⟩ (E6 (Ec (a3 0)))=some ⟨.int is.length,⟨HY H xs,b⟩⟩:=
  lT (e':=CA (C0 (CA (C0 (E6 (Ec (a3 0)))) 0)) 0) (v:=.loc H.length) ⋯ ⋯ ⋯ (Ai (λz:Ab AO=>z.bind CW) at1) hn hx
 have eC:(ev 113).E A6 (ZH v l R G B s p H.length (some (.bool t))) ⟨HY H xs,b⟩ (Ec (a3 0))=some ⟨.bool t,⟨HY H xs,b⟩⟩:=
  ia (v2:=.int 7) ⋯ ⋯ eS ⋯ .Eq ⋯ (Ai some h7)
 have t1:(ev 114).T A6 (ZH v l R G B s p H.length (some (.bool t))) ⟨HY H xs,b⟩ (a3 0)=some ⟨false,⟨HY H xs,b⟩⟩:=
  K4 ⋯ ⋯ ⋯ eC .NotEq ⋯ Vm
 have eD:(ev 112).E A6 (ZH v l R G B s p H.length (some (.bool t))) ⟨HY H xs,b⟩ (Ec (a3 1))=some ⟨.bool t,⟨HY H xs,b⟩⟩:=
  ia (v2:=.int 2) ⋯ ⋯ (lV hp hs ⋯ ⋯ ⋯ ⋯ ⋯ ⋯ ⋯) ⋯ .Eq ⋯ (Ai some h2)
 have t2:(ev 113).T A6 (ZH v l R G B s p H.length (some (.bool t))) ⟨HY H xs,b⟩ (a3 1)=some ⟨false,⟨HY H xs,b⟩⟩:=
  K4 ⋯ ⋯ ⋯ eD .NotEq ⋯ Vm
 exact(K1 ⋯ (TOr ⋯ t1 t2)).trans ⋯
theorem b4{t:Aa}{H:List AO}(hp:p<7)(hs:s<7)(h2:KA l p s=KA l s p):
  (ev 116).X A6 (ZH v l R G B s p H.length (some (.bool t))) ⟨HY H xs,b⟩ (ib 4)=some ⟨.next,ZH v l R G B s p H.length (some (.bool t)),⟨HY H xs,b⟩⟩:=by
 have t1:(ev 115).T A6 (ZH v l R G B s p H.length (some (.bool t))) ⟨HY H xs,b⟩ (BU (ib 4))=some ⟨false,⟨HY H xs,b⟩⟩:=
  K4 ⋯ ⋯ (lV hp hs ⋯ ⋯ ⋯ ⋯ ⋯ ⋯ ⋯) (lV hs hp ⋯ ⋯ ⋯ ⋯ ⋯ ⋯ ⋯) .NotEq ⋯
   (Ai (λb=>some (!b)) (AU (Ai (λn:Nat=>(n:Int)) h2)))
 exact(K1 ⋯ t1).trans ⋯
structure Hy(l:B8)(R G B:List Nat)(TI:List AV)(p s:Nat)(t:Aa):Prop where
 xO:∀H,i7 H (.tup [.int p,.int s]) TI=some t
 nub:∃is,Nc (Le l R G B p s) []=some is/\decide ((is.length:Int)=7)=t
 two:decide ((KA l p s:Int)=2)=t
 sym:KA l p s=KA l s p
theorem r5{g:Ab (AV×(AV×AV×AV)×AV)}(W:lP (A1 l) R G B)(ho:o 19=.list TI)(P:Hy l R G B TI p s t)(hp:p<7)(hs:s<7):
  Xs (ev 116) A6 (Hx v l R G B s (some (.int p)) (g.map (·.1)) (g.map (·.2.1)) (g.map (·.2.2))) ⟨HZ o pt l R G B Z,b⟩ (B3 Vk)=some ⟨.next,ZH v l R G B s p (HZ o pt l R G B Z).length (some (.bool t)),⟨HY (HZ o pt l R G B Z) (Le l R G B p s),b⟩⟩:=by
 refine P.nub.elim λis hi=>?_
 have hx:(Le l R G B p s).length<1000:=CE (Lg (Lg (Lg (a:=2) (AP _) (GN W.lr)) (GN W.lg)) (GN W.lb)) ⋯
 exact(Ak ⋯ b0).trans ((Ak ⋯ (b1 W hp hs)).trans ((Ak ⋯ (b2 ho P.xO)).trans ((Ak ⋯ (b3 hp hs hi.1 hi.2 P.two hx)).trans ((Ak ⋯ (b4 hp hs P.sym)).trans ⋯))))
end
theorem rs0(s:Nat):E4 0 s 1=s:=by unfold E4;rw[Bh ⋯];split<;>lia
theorem X8(h:p<s):Src.at H p (.Gw 0 s 1)=some (some (.int p)):=
 (Ai (λz=>some (cond z (some (AV.int (0+1*(p:Int)))) none)) (AU (show(0:Int)<E4 0 s 1-p by rw[rs0];exact(pw [.t .p .q] (.T (.j 0) (.S (.n .q) (.n .p))) [] [_,_]) h))).trans (by show some (some (AV.int (0+1*(p:Int))))=_;rw[GU,Dn])
theorem ZI:Src.at H s (.Gw 0 s 1)=some none:=
 Ai (λz=>some (cond z (some (AV.int (0+1*(s:Int)))) none)) (Ct (show ¬ (0:Int)<E4 0 s 1-s by rw[rs0];exact(pw [] (.n (.T (.j 0) (.S (.n .p) (.n .p)))) [] [_])))
abbrev X5:=AV×AV×(AV×AV×AV)×AV
section
variable{o:Nat->AO}{pt:AO}{l:B8}{R G B:List Nat}{b:Aa}{v:Nat->AV}
def Tn(v:Nat->AV)(l:B8)(R G B:List Nat)(s:Nat)(x:Ab X5):Lo:=Hx v l R G B s (x.map (·.1)) (x.map (·.2.1)) (x.map (·.2.2.1)) (x.map (·.2.2.2))
theorem xP:HY (HZ o pt l R G B Z) xs=HZ o pt l R G B (Z++[.list xs,.raw 3]):=by unfold HY HZ;rw[FL,FL] at ⊢;rfl
theorem inner(W:lP (A1 l) R G B)(ho:o 19=.list TI)(hs:s<7)(P:∀p,p<s->∃t,Hy l R G B TI p s t):
  ∀(m p:Nat)(Z:List AO)(x:Ab X5),p+m=s->(x=none->p=0)->∃Z' x',forL (ev 116) A6 (.Gw 0 s 1) (BU Vk) (B3 Vk) (m+1+(79-s)) p (Tn v l R G B s x) ⟨HZ o pt l R G B Z,b⟩=some ⟨.next,Tn v l R G B s x',⟨HZ o pt l R G B Z',b⟩⟩/\(x'=none->s=0)/\Z'.length=Z.length+2*m
 |0,p,Z,x,h,hx=>⟨Z,x,by
   obtain rfl:p=s:=h
   rw[Ia,Ga 1]
   exact NH ZI,λe=>h▸hx e,rfl⟩
 |m+1,p,Z,x,h,hx=>by
  have hp:p<s:=(pw [.e (.A .p (.A .q (.k 1))) .r] (.t .p .r) [] [_,_,_]) h
  refine(P p hp).elim λt q=>?_
  have e:=B0 (k:=m+1+(79-s)) (lo:=Tn v l R G B s x) (lo1:=Hx v l R G B s (some (.int p)) ((x.map (·.2)).map (·.1)) ((x.map (·.2)).map (·.2.1)) ((x.map (·.2)).map (·.2.2))) (S:=⟨HZ o pt l R G B Z,b⟩) (S1:=⟨HZ o pt l R G B Z,b⟩) (t:=BU Vk) (X8 hp) (by cases x<;>kernel_rfl) (r5 W ho q (EH hp hs) hs)
  rw[xP] at e
  refine(inner W ho hs P m (p+1) (Z++[.list (Le l R G B p s),.raw 3]) (some (.int p,.loc (HZ o pt l R G B Z).length,liA l B p s,.bool t)) ((pw [.e (.A .p (.A .q (.k 1))) .r] (.e (.A (.A .p (.k 1)) .q) .r) [] [_,_,_]) h) nofun).elim λZ' z=>z.elim λx' z=>⟨Z',x',?_,z.2.1,z.2.2.trans (by rw[BO];exact(pw [] (.e (.A (.A .p (.k 2)) (.m 2 .q)) (.A .p (.m 2 (.A .q (.k 1))))) [] [_,_]))⟩
  exact(Ai (λk=>forL (ev 116) A6 (.Gw 0 s 1) (BU Vk) (B3 Vk) k p (Tn v l R G B s x) ⟨HZ o pt l R G B Z,b⟩) (show m+1+1+(79-s)=(m+1+(79-s))+1 by exact(pw [] (.e (.A (.A (.A .p (.k 1)) (.k 1)) (.S (.k 79) .q)) (.A (.A (.A .p (.k 1)) (.S (.k 79) .q)) (.k 1))) [] [_,_]))).trans (e.trans z.1)
def zb(i:Nat):Expr:=CA (C0 (BU (Bb (B3 Nq) 0))) i
def xQ:Expr:=CA (C0 (E6 (zb 0))) 0
theorem r6(hs:s<7)(h1:KA l s s=1):(ev 117).X A6 (Tn v l R G B s x) ⟨HZ o pt l R G B Z,b⟩ (Bb (B3 Nq) 0)=some ⟨.next,Tn v l R G B s x,⟨HZ o pt l R G B Z,b⟩⟩:=by
 have e1:(ev 113).E A6 (Tn v l R G B s x) ⟨HZ o pt l R G B Z,b⟩ xQ=some ⟨M6 l s,⟨HZ o pt l R G B Z,b⟩⟩:=
  Td (v:=.lst (oG l)) (k:=.int s) (S1:=⟨HZ o pt l R G B Z,b⟩) ⋯ ⋯ ⋯ ⋯ (MF (ig s hs) (Bn rfl))
 have e2:(ev 114).E A6 (Tn v l R G B s x) ⟨HZ o pt l R G B Z,b⟩ (E6 (zb 0))=some ⟨.int (7:Nat),⟨HZ o pt l R G B Z,b⟩⟩:=
  (CH ⋯ ⋯ ⋯ ⋯ (Dg ⋯ e1) ⋯).trans (MG rfl ⋯)
 have t1:(ev 115).T A6 (Tn v l R G B s x) ⟨HZ o pt l R G B Z,b⟩ (zb 0)=some ⟨false,⟨HZ o pt l R G B Z,b⟩⟩:=
  K4 (v2:=.int 7) ⋯ ⋯ e2 ⋯ .NotEq ⋯ rfl
 have t2:(ev 114).T A6 (Tn v l R G B s x) ⟨HZ o pt l R G B Z,b⟩ (zb 1)=some ⟨false,⟨HZ o pt l R G B Z,b⟩⟩:=
  K4 (v2:=.int 1) ⋯ ⋯ (lV hs hs ⋯ ⋯ ⋯ ⋯ ⋯ ⋯ ⋯) ⋯ .NotEq ⋯ (Ai (λb=>some (!b)) (AU (Ai (λn:Nat=>(n:Int)) h1)))
 exact(K1 ⋯ (TOr ⋯ t1 t2)).trans ⋯
def r7(v:Nat->AV)(l:B8)(R G B:List Nat)(n:Nat)(lo:Lo):Prop:=(n=0/\lo=h9 v l R G B)\/∃m x,n=m+1/\lo=Tn v l R G B m x/\(x=none->m=0)
theorem AbP:∀s,s<7->FR (ev 116) A6 (Tn v l R G B s x) ⟨HZ o pt l R G B Z,b⟩ (Cm Vk)=some ⟨.Gw 0 s 1,⟨HZ o pt l R G B Z,b⟩⟩:=
 VG ⋯ ⋯ ⋯ ⋯ ⋯ ⋯ ⋯
theorem lW(W:lP (A1 l) R G B)(ho:o 19=.list TI)(hs:s<7)(P:∀p,p<s->∃t,Hy l R G B TI p s t)(h1:KA l s s=1):
  ∃Z1 x1,Xs (ev 117) A6 (Tn v l R G B s x) ⟨HZ o pt l R G B Z,b⟩ (B3 Nq)=some ⟨.next,Tn v l R G B s x1,⟨HZ o pt l R G B Z1,b⟩⟩/\(x1=none->s=0)/\Z1.length=Z.length+2*s:=by
 refine(inner (pt:=pt) (v:=v) (b:=b) W ho hs P s 0 Z x (Ia s) λ_=>rfl).elim λZ1 z=>z.elim λx1 z=>⟨Z1,x1,?_,z.2⟩
 replace z:=z.1
 have hk:s+1+(79-s)=80:=(pw [.t .p (.k 7)] (.e (.A (.A .p (.k 1)) (.S (.k 79) .p)) (.k 80)) [] [_]) hs
 rw[hk] at z
 have hf:=
  Qn ⋯ (AbP s hs) ⋯ z
 refine(Ak ⋯ (r6 hs h1)).trans ((Ak ⋯ hf).trans ?_)
 kernel_rfl
theorem r8{lo:Lo}(W:lP (A1 l) R G B)(ho:o 19=.list TI)(hs:s<7)(P:∀p,p<s->∃t,Hy l R G B TI p s t)(h1:KA l s s=1)(hl:r7 v l R G B s lo):
  ∃Z1 lo1,forL (ev 117) A6 (.Gw 0 (7:Nat) 1) (BU Nq) (B3 Nq) (k+1) s lo ⟨HZ o pt l R G B Z,b⟩=forL (ev 117) A6 (.Gw 0 (7:Nat) 1) (BU Nq) (B3 Nq) k (s+1) lo1 ⟨HZ o pt l R G B Z1,b⟩/\r7 v l R G B (s+1) lo1/\Z1.length=Z.length+2*s:=by
 have ht:∃x,Jv A6 lo ⟨HZ o pt l R G B Z,b⟩ (BU Nq) (.int s)=some ⟨Tn v l R G B s x,⟨HZ o pt l R G B Z,b⟩⟩:=by
  refine hl.elim (λe=>?_) λe=>e.elim λs' e=>e.elim λx e=>?_
  ·rw[e.2];exact⟨none,by kernel_rfl⟩
  ·rw[e.2.1];exact⟨x,by kernel_rfl⟩
 exact ht.elim λx ht=>(lW W ho hs P h1).elim λZ1 z=>z.elim λx1 z=>⟨Z1,Tn v l R G B s x1,B0 (X8 hs) ht z.1,.inr ⟨s,x1,rfl,rfl,z.2.1⟩,z.2.2⟩
noncomputable def xR:Nat->Nat | 0=>0 | s+1=>xR s+2*s
theorem outer(W:lP (A1 l) R G B)(ho:o 19=.list TI)(P:∀s,s<7->∀p,p<s->∃t,Hy l R G B TI p s t)(h1:∀s,s<7->KA l s s=1)(m:Nat):
  ∀(s:Nat)(Z:List AO)(lo:Lo),s+m=7->r7 v l R G B s lo->∃Z' Bv,forL (ev 117) A6 (.Gw 0 (7:Nat) 1) (BU Nq) (B3 Nq) (73+m) s lo ⟨HZ o pt l R G B Z,b⟩=some ⟨.next,Bv,⟨HZ o pt l R G B Z',b⟩⟩/\(∃x,Bv=Tn v l R G B 6 (some x))/\Z'.length+xR s=Z.length+42:=by
 induction m with
 |zero=>
  intro s Z lo h hl
  obtain rfl:s=7:=h
  refine⟨Z,lo,NH ZI,hl.elim (λe=>AL e.1 ⋯) λe=>e.elim λm e=>e.elim λx e=>?_,rfl⟩
  obtain rfl:m=6:=(He e.1).symm
  cases x with
  |none=>exact AL (e.2.2 rfl) ⋯
  |some x=>exact⟨x,e.2.1⟩
 |succ m ih=>
  intro s Z lo h hl
  have hs:s<7:=(pw [.e (.A .p (.A .q (.k 1))) (.k 7)] (.t .p (.k 7)) [] [_,_]) h
  exact(r8 W ho hs (P s hs) (h1 s hs) hl).elim λZ1 z=>z.elim λlo1 z=>(ih (s+1) Z1 lo1 ((pw [.e (.A .p (.A .q (.k 1))) (.k 7)] (.e (.A (.A .p (.k 1)) .q) (.k 7)) [] [_,_]) h) z.2.1).elim λZ' q=>q.elim λBv q=>⟨Z',Bv,z.1.trans q.1,q.2.1,by have h1:=q.2.2;have h2:=z.2.2;exact(pw [.e .p (.A .q (.m 2 .r)),.e (.A .s (.A .t (.m 2 .r))) (.A .p (.k 42))] (.e (.A .s .t) (.A .q (.k 42))) [] [_,_,_,_,_]) h2 h1⟩
theorem X25(W:lP (A1 l) R G B)(ho:o 19=.list TI)(P:∀s,s<7->∀p,p<s->∃t,Hy l R G B TI p s t)(h1:∀s,s<7->KA l s s=1):
  ∃Z' x,(ev 118).X A6 (h9 v l R G B) ⟨HZ o pt l R G B [],b⟩ Nq=some ⟨.next,Tn v l R G B 6 (some x),⟨HZ o pt l R G B Z',b⟩⟩/\Z'.length=42:=
 (outer W ho P h1 7 0 [] (h9 v l R G B) rfl (.inl ⟨rfl,rfl⟩)).elim λZ' q=>q.elim λBv q=>q.2.1.elim λx e=>⟨Z',x,e▸Qn ⋯ ⋯ ⋯ q.1,q.2.2.trans (Ia _)⟩
end
end
section
set_option exponentiation.threshold 3000
open PySem.Float64
def Fn(x:Al):Prop:=∃a m e,J9 x=.fin a m e
noncomputable abbrev SS:Int:=2^1074
theorem r9(h:q<=2^53):∀k:Nat,∃t,V t=q*2^k:=by
 intro k
 induction k generalizing q with
 |zero=>exact⟨0*2^52+q,V_at h (.inr rfl)⟩
 |succ k ih=>
  by_cases hq: 2^52<=q
  ·exact⟨(k+1)*2^52+q,V_at h (.inl hq)⟩
  ·refine(ih (q:=2*q) ((pw [.n (.l (.k (2^52)) .p)] (.l (.m 2 .p) (.k (2^53))) [] [_]) hq)).elim λt ht=>⟨t,ht.trans ?_⟩
   rw[Nat.pow_succ];ac_rfl
theorem near{neg:Aa}(hr:Right r neg W D)(hD: 0<D)(hk:k<=1990)(hW:W<=D*2^k*2^53):Fn r/\∃t,val r=sgn neg t/\BN W (D*t)<=D*2^k/\∀t',BN W (D*t)<=BN W (D*V t'):=by
 refine hr.elim λt h=>?_
 have hp:D*2^k*2^53*2<D*((2^54-1)*2^2045):=by
  rw[Fg,Fg] at ⊢
  refine cy ?_ hD
  refine CE (Ef _ (cF ⋯ hk)) ?_
  decide +kernel
 have ht:=Nat.lt_of_le_of_ne h.2.1 λe=>AL (h.2.2.1.mp e) ((pw [.l .p (.R .q (2^53)),.t (.R (.R .q (2^53)) 2) .r] (.n (.l .r (.m 2 .p))) [] [_,_,_]) hW hp)
 have hn:=λt'=>(h.2.2.2 ht t').1
 refine⟨?_,V t,?_,?_,hn⟩
 ·rw[h.1];exact(decode_pack neg ht).elim λm q=>q.elim λe q=>⟨_,_,_,q.1⟩
 ·rw[h.1];exact val_pack neg ht
 ·have hq:=Nat.div_le_of_le_mul hW
  refine(r9 hq k).elim λt' e=>AA (hn t') ?_
  have hd:=Du W (D*2^k)
  have hm:=Dx W (Nat.mul_pos hD (EG k))
  rw[e,show D*(W/(D*2^k)*2^k)=D*2^k*(W/(D*2^k)) by ac_rfl]
  unfold BN
  generalize D*2^k*(W/(D*2^k))=z at*
  exact(pw [.t .p .q,.e (.A .r .p) .s] (.l (.A (.S .s .r) (.S .r .s)) .q) [] [_,_,_,_]) hm hd
theorem bq(b:Aa)(t:Nat):(b=true/\sgn b t = -(t:Int))\/(b=false/\sgn b t=t):=by cases b;exact .inr ⟨rfl,rfl⟩;exact .inl ⟨rfl,rfl⟩
theorem Vn(x y:Nat):((x:Int)-y).natAbs=BN y x:=by unfold BN;exact(pw [] (.e (.b (.S (.n .p) (.n .q))) (.A (.S .q .p) (.S .p .q))) [] [_,_])
theorem oJ(b:Aa)(x y:Nat):(sgn b x-sgn b y).natAbs=BN y x:=by
 cases b with
 |false=>exact Vn x y
 |true=>
  show(-(x:Int) - -(y:Int)).natAbs=_
  rw[show -(x:Int) - -(y:Int) = -((x:Int)-y) by rw[Int.neg_sub,Int.sub_neg,Int.add_comm,Int.sub_eq_add_neg],Int.natAbs_neg]
  exact Vn x y
theorem P6(b:Aa)(h:BN W (D*t)<=e):(sgn b t*D-sgn b W).natAbs<=e:=by
 rw[<-sgn_mul,oJ,Dv]
 exact h
theorem To(i:Int):sgn (decide (i<0)) i.natAbs=i:=by
 by_cases h:i<0
 ·rw[AU h];exact Int.neg_eq_comm.mp (bI (Ed h)).symm
 ·rw[Ct h];exact bO (DD.mp h)
theorem P7(h:BN N.natAbs (1*t)<=e):(sgn (decide (N<0)) t-N).natAbs<=e:=by
 have z:=P6 (decide (N<0)) h
 rw[To] at z
 exact(Fd (sgn (decide (N<0)) t))▸z
theorem val_zero(b:Aa):val (zero b)=0:=by cases b<;>decide +kernel
theorem NI(b:Aa):Fn (zero b):=(decode_pack b ⋯).elim λm q=>q.elim λe q=>⟨_,_,_,q.1⟩
theorem ij{k:Nat}(hx:Fn x)(hy:Fn y)(hk:k<=1990)(h:(val x+val y).natAbs<=2^k*2^53):Fn (add x y)/\(val (add x y)-(val x+val y)).natAbs<=2^k:=by
 refine hx.elim λa q=>q.elim λm q=>q.elim λe hx=>hy.elim λb q=>q.elim λn q=>q.elim λf hy=>?_
 have r:=add_right hx hy
 by_cases hz:val x+val y=0
 ·rw[r.1 hz,val_zero,hz];exact⟨NI _,Co _⟩
 ·have z:=near (r.2 hz) ⋯ hk (by rw[C3];exact h)
  refine⟨z.1,z.2.elim λt z=>?_⟩
  rw[z.1]
  exact P7 (by have:=z.2.1;rwa[C3 (2^k)] at this)
theorem iq{k:Nat}(hx:Fn x)(hy:Fn y)(hk:k<=1990)(h:(val x-val y).natAbs<=2^k*2^53):Fn (sub x y)/\(val (sub x y)-(val x-val y)).natAbs<=2^k:=by
 refine hx.elim λa q=>q.elim λm q=>q.elim λe hx=>hy.elim λb q=>q.elim λn q=>q.elim λf hy=>?_
 have r:=sub_right hx hy
 by_cases hz:val x-val y=0
 ·rw[r.1 hz,val_zero,hz];exact⟨NI _,Co _⟩
 ·have z:=near (r.2 hz) ⋯ hk (by rw[C3];exact h)
  refine⟨z.1,z.2.elim λt z=>?_⟩
  rw[z.1]
  exact P7 (by have:=z.2.1;rwa[C3 (2^k)] at this)
theorem Lh(h:J9 x=.fin a m e):val x=sgn a (val x).natAbs:=by rw[val_natAbs h];exact val_eq h
theorem Vo(a b:Aa)(m n:Nat):sgn a m*sgn b n=sgn (a !=b) (m*n):=by
 cases a<;>cases b<;>simp[sgn,Int.mul_neg,NY]
theorem CS:((2^1074:Nat):Int)=SS:=by rw[V2];rfl
theorem ir{k:Nat}(hx:Fn x)(hy:Fn y)(hk:k<=1990)(h:(val x*val y).natAbs<=2^1074*2^k*2^53):Fn (mul x y)/\(val (mul x y)*SS-val x*val y).natAbs<=2^1074*2^k:=by
 refine hx.elim λa q=>q.elim λm q=>q.elim λe hx=>hy.elim λb q=>q.elim λn q=>q.elim λf hy=>?_
 have z:=near (mul_right hx hy) (EG _) hk (by rw[<-CC];exact h)
 refine⟨z.1,z.2.elim λt z=>?_⟩
 have e:=P6 (a !=b) z.2.1
 rw[<-Vo,<-Lh hx,<-Lh hy,<-z.1,CS] at e
 exact e
theorem ZJ(hx:Fn x)(hy:Fn y)(h0:val y≠0)(hk:k<=1990)(h:(val x).natAbs*2^1074<=(val y).natAbs*2^k*2^53):Fn (div x y)/\(val (div x y)*val y-val x*SS).natAbs<=(val y).natAbs*2^k:=by
 refine hx.elim λa q=>q.elim λm q=>q.elim λe hx=>hy.elim λb q=>q.elim λn q=>q.elim λf hy=>?_
 have hn:n≠0:=λe=>h0 (by rw[val_eq hy,e,Ic];cases b<;>rfl)
 have z:=near (div_right hx hy hn) (NW.mpr h0) hk h
 refine⟨z.1,z.2.elim λt z=>?_⟩
 have e:=P6 (a !=b) z.2.1
 have c:∀s,sgn (a !=b) s=sgn a s*sgn b 1:=λs=>by rw[Vo,N8]
 have s1:sgn b 1*sgn b 1=1:=by cases b<;>rfl
 have e1:val (div x y)*val y-val x*SS=(sgn (a !=b) t*((val y).natAbs:Int)-sgn (a !=b) ((val x).natAbs*2^1074))*sgn b 1:=by
  have hy':val y=sgn b 1*(val y).natAbs:=by rw[HR];exact(Lh hy).trans (by cases b<;>simp[sgn])
  have hx':sgn (a !=b) ((val x).natAbs*2^1074)=val x*SS*sgn b 1:=by
   rw[c,sgn_mul,<-Lh hx,CS]
  rw[hx',z.1,Dj,Fc (val x*SS),s1,Fd]
  conv=>lhs;rw[hy']
  rw[Fc,HR ((val y).natAbs:Int) (sgn b 1),<-Fc]
 rw[e1,CC,show(sgn b 1).natAbs=1 by cases b<;>rfl,N8]
 exact e
theorem NJ{neg:Aa}(hr:Right r neg (q*2^k) 1)(hq:q<=2^53)(hk:k<=1990):Fn r/\val r=sgn neg (q*2^k):=by
 have z:=near hr ⋯ hk (by rw[C3,Dv];exact JA _ hq)
 refine⟨z.1,z.2.elim λt z=>(r9 hq k).elim λt' e=>?_⟩
 have d:=z.2.2 t'
 rw[e,C3,C3,show BN (q*2^k) (q*2^k)=0 by unfold BN;rw[Wo]] at d
 have ht:t=q*2^k:=by
  unfold BN at d
  exact Rp (cD (cJ.mp (Nat.le_zero.mp d)).2) (cD (cJ.mp (Nat.le_zero.mp d)).1)
 rw[z.1,ht]
theorem iw{i:Int}(h:i.natAbs<=2^53):Fn (BG i)/\val (BG i)=i*SS:=by
 have z:=NJ (ofInt_right i) h ⋯
 rw[sgn_mul,To,CS] at z
 exact z
theorem AbQ{i:Int}(h:i.natAbs<=2^53):Fn (ofFrac (decide (i<0) !=decide ((64:Int)<0)) i.natAbs 64)/\val (ofFrac (decide (i<0) !=decide ((64:Int)<0)) i.natAbs 64)=2^1068*i:=by
 have z:=NJ (ofFrac_right (neg:=decide (i<0) !=decide ((64:Int)<0)) (n:=i.natAbs) (d:=64) (W:=i.natAbs*2^1068) ⋯ (by rw[N8,Fg] at ⊢) ⋯) h ⋯
 have e:(decide (i<0) !=decide ((64:Int)<0))=decide (i<0):=Aa.bne_false _
 rw[e] at z ⊢
 rw[sgn_mul,To,HR,show((2^1068:Nat):Int)=2^1068 by rw[V2];rfl] at z
 exact z
end
section
set_option exponentiation.threshold 3000
open PySem.Float64 PySem
set_option genCtorIdx true in
inductive Fx where
 |v (i:Nat)
 |c (w:Al)
 |add (x y:Fx)
 |sub (x y:Fx)
 |mul (w:Al) (x:Fx)
 |half (x:Fx)
def Fx.f(ρ:Nat->Al):Fx->Al
 |.v i=>ρ i
 |.c w=>w
 |.add x y=>Dl (x.f ρ) (y.f ρ)
 |.sub x y=>Bg (x.f ρ) (y.f ρ)
 |.mul w x=>Cq w (x.f ρ)
 |.half x=>Cr (x.f ρ) (DH 2)
noncomputable def dot:List Int->List Int->Int
 |c::l,x::a=>c*x+dot l a
 |_,_=>0
noncomputable def P8:List Int->List Int->List Int
 |c::l,d::m=>(c+d)::P8 l m
 |[],m=>m
 |c::l,[]=>c::l
noncomputable def X9(l:List Int):List Int:=l.map λc => -c
noncomputable def mb:List Int->List Nat->Nat
 |c::l,x::a=>c.natAbs*x+mb l a
 |_,_=>0
noncomputable def uv:Nat->List Int
 |0=>[2^1068]
 |i+1=>0::uv i
def Fx.l:Fx->List Int
 |.v i=>uv (i+1)
 |.c w=>[val w]
 |.add x y=>P8 x.l y.l
 |.sub x y=>P8 x.l (X9 y.l)
 |.mul w x=>x.l.map λc=>c*val w/SS
 |.half x=>x.l.map λc=>c/2
noncomputable def UU:Nat:=2^1024
noncomputable def BB:List Nat:=[1,63,63,63,63,63,63]
def Fx.e:Fx->Nat
 |.v _=>0
 |.c _=>0
 |.add x y=>x.e+y.e+UU
 |.sub x y=>x.e+y.e+UU
 |.mul w x=>cond (Bf (val w).natAbs (2^1074)) x.e (2*x.e)+UU
 |.half x=>x.e+UU
def Fx.m(x:Fx):Aa:=Bf (mb x.l BB+x.e) (UU*2^53)
def Fx.ok:Fx->Aa
 |.v _=>true
 |.c w=>isFinite w
 |.add x y=>x.ok&&(y.ok&&Fx.m (.add x y))
 |.sub x y=>x.ok&&(y.ok&&Fx.m (.sub x y))
 |.mul w x=>(isFinite w&&Bf (val w).natAbs (2*2^1074))&&(x.ok&&((x.l.all λc=>decide (c*val w%SS=0))&&Fx.m (.mul w x)))
 |.half x=>x.ok&&((x.l.all λc=>decide (c%2=0))&&Bf (mb x.l BB+x.e) (UU*2^53))
theorem GO:∀(l m a:List Int),dot (P8 l m) a=dot l a+dot m a
 |[],m,a=>(Dn _).symm
 |c::l,[],a=>(Ej _).symm
 |c::l,d::m,[]=>rfl
 |c::l,d::m,x::a=>by
  show(c+d)*x+dot (P8 l m) a=c*x+dot l a+(d*x+dot m a)
  rw[GO l m a,F2];ac_rfl
theorem NK:∀(l a:List Int),dot (X9 l) a = -dot l a
 |[],a=>rfl
 |c::l,[]=>rfl
 |c::l,x::a=>by
  show -c*x+dot (X9 l) a = -(c*x+dot l a)
  rw[NK l a,NY,Int.neg_add]
theorem Tp:∀{l:List Int},(∀c,c∈l->f c*k=c*m)->∀a,dot (l.map f) a*k=dot l a*m
 |[],_,a=>(DW k).trans (DW m).symm
 |c::l,_,[]=>(DW k).trans (DW m).symm
 |c::l,h,x::a=>by
  show(f c*x+dot (l.map f) a)*k=(c*x+dot l a)*m
  rw[F2,F2,Tp (λc hc=>h c (.tail _ hc)) a,show f c*x*k=f c*k*x by ac_rfl,h c (.head _)]
  ac_rfl
def Wn:List Int->List Nat->Prop
 |x::a,n::b=>x.natAbs<=n/\Wn a b
 |[],[]=>True
 |_,_=>Cd
theorem ZK:∀(l a:List Int)(b:List Nat),Wn a b->(dot l a).natAbs<=mb l b
 |[],_,_,_=>Co _
 |c::l,[],_,_=>Co _
 |c::l,x::a,n::b,h=>by
  refine AA (E0 _ _) (B5 ?_ (ZK l a b h.2))
  rw[CC]
  exact JA _ h.1
theorem Kw(h:isFinite w=true):Fn w:=by
 unfold isFinite at h
 unfold Fn
 cases e:J9 w with
 |fin a m e=>exact⟨_,_,_,rfl⟩
 |nan=>rw[e] at h;nomatch h
 |inf _=>rw[e] at h;nomatch h
theorem Tq{x y z:Int}(h:(x-y).natAbs<=a)(g:(y-z).natAbs<=b):(x-z).natAbs<=a+b:=
 AA (by rw[show x-z=(x-y)+(y-z) by exact(pw [] (.E (.S .p .q) (.A (.S .p .r) (.S .r .q))) [_,_,_] [])];exact E0 _ _) (B5 h g)
theorem CQ{x y:Int}(h:(x-y).natAbs<=a)(g:y.natAbs<=b):x.natAbs<=b+a:=
 AA (AA (Bo (Ai Int.natAbs (show x=y+(x-y) by exact(pw [] (.E .p (.A .q (.S .p .q))) [_,_] [])))) (E0 _ _)) (B5 g h)
theorem Vp{x y p q:Int}(h:(x-p).natAbs<=a)(g:(y-q).natAbs<=b):(x+y-(p+q)).natAbs<=a+b:=
 AA (by rw[show x+y-(p+q)=(x-p)+(y-q) by exact(pw [] (.E (.S (.A .p .q) (.A .r .s)) (.A (.S .p .r) (.S .q .s))) [_,_,_,_] [])];exact E0 _ _) (B5 h g)
theorem Vq{x y p q:Int}(h:(x-p).natAbs<=a)(g:(y-q).natAbs<=b):(x-y-(p + -q)).natAbs<=a+b:=
 AA (by rw[show x-y-(p + -q)=(x-p)-(y-q) by exact(pw [] (.E (.S (.S .p .q) (.A .r (.g .s))) (.S (.S .p .r) (.S .q .s))) [_,_,_,_] [])];exact Q4 _ _) (B5 h g)
theorem bt(h:(a&&b)=true):a=true/\b=true:=Lw.mp h
theorem iz:∀(i:Nat)(a:List Int),dot (uv i) a=2^1068*a.getD i 0
 |0,[]=>rfl
 |0,x::a=>(Ai (2^1068*x + ·) (by cases a<;>rfl:dot [] a=0)).trans (Ej _)
 |i+1,[]=>rfl
 |i+1,x::a=>(Ai (· +dot (uv i) a) (DW x)).trans ((Dn _).trans (iz i a))
theorem F0{p q:Int}{k n:Nat}(hk: 0<k)(h:(p*k-q*k).natAbs<=n*k):(p-q).natAbs<=n:=by
 rw[<-Dj,CC,Ly] at h
 exact We h hk
theorem Fx.near{ρ:Nat->Al}(hW:Wn a BB)(hv:∀i,Fn (ρ i)/\val (ρ i)=2^1068*a.getD (i+1) 0)(h1:∀w:Int,dot [w] a=w):∀x:Fx,x.ok=true->Fn (x.f ρ)/\(val (x.f ρ)-dot x.l a).natAbs<=x.e:=by
 have mg:∀{l:List Int}{e:Nat}{z:Int},Bf (mb l BB+e) (UU*2^53)=true->(z-dot l a).natAbs<=e->z.natAbs<=UU*2^53:=λh g=>AA (CQ g (ZK _ _ _ hW)) (Bn h)
 intro x
 induction x with
 |v i=>intro _;refine⟨(hv i).1,?_⟩;rw[show Fx.l (.v i)=uv (i+1) from rfl,iz,<-(hv i).2];show(val (ρ i)-val (ρ i)).natAbs<=0;rw[V5];exact AP _
 |c w=>intro h;refine⟨Kw h,?_⟩;rw[show Fx.l (.c w)=[val w] from rfl,h1 (val w)];show(val w-val w).natAbs<=0;rw[V5];exact AP _
 |add x y ihx ihy=>
  intro h
  have hx:=ihx (bt h).1;have hy:=ihy (bt (bt h).2).1
  have d:=Vp hx.2 hy.2
  have q:=ij hx.1 hy.1 ⋯ (mg (l:=P8 x.l y.l) (bt (bt h).2).2 (by rw[GO];exact AA d (BF _ _)))
  refine⟨q.1,?_⟩
  show(val (Dl (x.f ρ) (y.f ρ))-dot (P8 x.l y.l) a).natAbs<=x.e+y.e+UU
  rw[GO,Ga _ UU]
  exact Tq q.2 d
 |sub x y ihx ihy=>
  intro h
  have hx:=ihx (bt h).1;have hy:=ihy (bt (bt h).2).1
  have d:=Vq hx.2 hy.2
  have q:=iq hx.1 hy.1 ⋯ (mg (l:=P8 x.l (X9 y.l)) (bt (bt h).2).2 (by rw[GO,NK];exact AA d (BF _ _)))
  refine⟨q.1,?_⟩
  show(val (Bg (x.f ρ) (y.f ρ))-dot (P8 x.l (X9 y.l)) a).natAbs<=x.e+y.e+UU
  rw[GO,NK,Ga _ UU]
  exact Tq q.2 d
 |mul w x ih=>
  intro h
  have hw:=bt (bt h).1;have h':=bt (bt h).2;have h2:=bt h'.2
  have hx:=ih h'.1
  have ed:dot (Fx.l (.mul w x)) a*SS=dot x.l a*val w:=Tp (λc hc=>bP (bK (Bi (BV.mp h2.1 c hc)))) a
  have d:(val w*val (x.f ρ)-dot (Fx.l (.mul w x)) a*SS).natAbs<=cond (Bf (val w).natAbs (2^1074)) x.e (2*x.e)*2^1074:=by
   rw[ed,HR (dot x.l a),<-V7,CC]
   cases hc:Bf (val w).natAbs (2^1074) with
   |true=>exact AA (Wm (Bn hc) hx.2) (Bo (Dv _ _))
   |false=>exact AA (Wm (Bn hw.2) hx.2) (Bo (show(2*2^1074)*x.e=2*x.e*2^1074 by ac_rfl))
  have y0:=h2.2
  rw[show Fx.m (.mul w x)=Bf (mb (Fx.l (.mul w x)) BB+(cond (Bf (val w).natAbs (2^1074)) x.e (2*x.e)+UU)) (UU*2^53) from rfl] at y0
  rw[show Fx.e (.mul w x)=cond (Bf (val w).natAbs (2^1074)) x.e (2*x.e)+UU from rfl]
  generalize cond (Bf (val w).natAbs (2^1074)) x.e (2*x.e)=E at d y0 ⊢
  have q:=ir (Kw hw.1) hx.1 (k:=1024) ⋯ (by
   have m:=ZK (Fx.l (.mul w x)) a BB hW
   have b:=Bn y0
   refine AA (CQ d (by rw[CC];exact Ef _ m)) ?_
   rw[show(SS).natAbs=2^1074 by rw[<-CS];exact Ly _,<-LQ,Fg,Dv (2^1074)]
   exact Ef _ (AA (GW (BF _ UU) _) b))
  refine⟨q.1,?_⟩
  have t:=Tq q.2 d
  rw[show 2^1074*2^1024+E*2^1074=(E+UU)*2^1074 by unfold UU;rw[LQ] at ⊢;ac_rfl,<-CS] at t
  exact F0 (EG _) t
 |half x ih=>
  intro h
  have h':=bt (bt h).2
  have hx:=ih (bt h).1
  have ed:dot (Fx.l (.half x)) a*2=dot x.l a*1:=Tp (λc hc=>by rw[Fd];exact bP (bK (Bi (BV.mp h'.1 c hc)))) a
  have r2:=iw (i:=2) ⋯
  have n2:(val (DH 2)).natAbs=2*2^1074:=by rw[r2.2,<-CS,CC,Ly];rfl
  have q:=ZJ hx.1 r2.1 (k:=1024) (λe=>by rw[e] at n2;exact AL n2 ⋯) ⋯ (by
   rw[n2,show 2*2^1074*2^1024*2^53=2^1024*2^53*2*2^1074 by ac_rfl] at ⊢
   exact Ef _ (AA (mg h'.2 hx.2) (Rm _ ⋯)))
  refine⟨q.1,?_⟩
  have d:=q.2
  rw[n2,r2.2,<-CS,<-Fc,show 2*2^1074*2^1024=2*UU*2^1074 by unfold UU;ac_rfl] at d
  have d:=F0 (EG _) d
  have t:=Tq d hx.2
  rw[Fd] at ed
  rw[<-ed] at t
  show(val (Cr (x.f ρ) (DH 2))-dot (Fx.l (.half x)) a).natAbs<=x.e+UU
  refine F0 (k:=2) ⋯ (AA t ?_)
  exact(pw [] (.l (.A (.m 2 .p) .q) (.R (.A .q .p) 2)) [] [_,_])
end
section
set_option exponentiation.threshold 3000
open PySem.Float64 PySem
noncomputable def yX(r g b:Fx):Fx:=.add (.add (.mul 4599075939470750515 r) (.mul 4603489467105573601 g)) (.mul 4592590756007337001 b)
noncomputable def iX(r y b:Fx):Fx:=.sub (.mul 4604840546993784750 (.sub r y)) (.mul 4598535507515466056 (.sub b y))
noncomputable def qX(r y b:Fx):Fx:=.add (.mul 4602318531202457272 (.sub r y)) (.mul 4601057523306793533 (.sub b y))
noncomputable def iA:Fx:=.c 4602678819172646912
noncomputable def sd(o n g:Fx):Fx:=.add (.half (.sub n o)) g
def yA':Fx:=yX (.v 0) (.v 1) (.v 2)
def yB':Fx:=yX (.v 3) (.v 4) (.v 5)
def tU:Fx:=yX iA iA iA
def yS:Fx:=sd yA' yB' tU
def iS:Fx:=sd (iX (.v 0) yA' (.v 2)) (iX (.v 3) yB' (.v 5)) (iX iA tU iA)
def qS:Fx:=sd (qX (.v 0) yA' (.v 2)) (qX (.v 3) yB' (.v 5)) (qX iA tU iA)
def rX:Fx:=.add (.add yS (.mul 4606703976345377586 iS)) (.mul 4603791717925830846 qS)
def gX:Fx:=.sub (.sub yS (.mul 4598621754083818298 iS)) (.mul 4603901015759978483 qS)
def bX:Fx:=.add (.sub yS (.mul 4607671262177584182 iS)) (.mul 4610375502138591871 qS)
noncomputable def tV:Nat->List Int
 |0=>[2^1073,-2^1067,0,0,2^1067,0,0]
 |1=>[2^1073,0,-2^1067,0,0,2^1067,0]
 |_=>[2^1073,0,0,-2^1067,0,0,2^1067]
noncomputable def EE:Nat:=2^1032
def Tr(x:Fx)(k:Nat):Aa:=x.ok&&Bf (mb (P8 x.l (X9 (tV k))) BB+x.e) EE
theorem sf:Tr rX 0=true:=⋯
theorem sg:Tr gX 1=true:=⋯
theorem sj:Tr bX 2=true:=⋯
end
section
set_option exponentiation.threshold 3000
open PySem.Float64 PySem
def Ap(x:Al)(p:Int)(e:Nat):Prop:=Fn x/\(val x-p).natAbs<=e
theorem Tt{e:Nat}:x.natAbs<=e ↔ -(e:Int)<=x/\x<=e:=by lia
theorem Ap.add{x y:Al}{p q:Int}(hx:Ap x p a)(hy:Ap y q b)(h:(p+q).natAbs+(a+b)<=2^1024*2^53):Ap (Dl x y) (p+q) (UU+(a+b)):=
 have d:=Vp hx.2 hy.2
 have r:=ij hx.1 hy.1 ⋯ (AA (CQ d (AP _)) h)
 ⟨r.1,Tq r.2 d⟩
theorem Ap.sub{x y:Al}{p q:Int}(hx:Ap x p a)(hy:Ap y q b)(h:(p-q).natAbs+(a+b)<=2^1024*2^53):Ap (Bg x y) (p-q) (UU+(a+b)):=
 have d:=Vq hx.2 hy.2
 have r:=iq hx.1 hy.1 ⋯ (AA (CQ d (AP _)) h)
 ⟨r.1,Tq r.2 d⟩
theorem Ky{x y:Al}(hx:Fn x)(hy:Fn y):cmp x y=some (compare (val x) (val y)):=
 hx.elim λ_ q=>q.elim λ_ q=>q.elim λ_ hx=>hy.elim λ_ q=>q.elim λ_ q=>q.elim λ_ hy=>cmp_right hx hy
noncomputable def Yb(x m:Al):Al:=if cmp x m==some .gt then x else m
noncomputable def sk(x m:Al):Al:=if cmp x m==some .lt then x else m
theorem Yc{x m:Al}(hx:Fn x)(hm:Fn m):(Yb x m=x/\val m<=val x)\/(Yb x m=m/\val x<=val m):=by
 unfold Yb
 rw[Ky hx hm]
 by_cases h:val m<val x
 ·rw[NU.mpr h];exact .inl ⟨rfl,Ed h⟩
 ·refine .inr ⟨AD λe=>h (NU.mp ?_),DD.mp h⟩
  exact AQ (eq_of_beq e)
theorem Yd{x m:Al}(hx:Fn x)(hm:Fn m):(sk x m=x/\val x<=val m)\/(sk x m=m/\val m<=val x):=by
 unfold sk
 rw[Ky hx hm]
 by_cases h:val x<val m
 ·rw[JO.mpr h];exact .inl ⟨rfl,Ed h⟩
 ·refine .inr ⟨AD λe=>h (JO.mp ?_),DD.mp h⟩
  exact AQ (eq_of_beq e)
structure Top(r g b M:Al):Prop where
 or:M=r\/M=g\/M=b
 r:val r<=val M
 g:val g<=val M
 b:val b<=val M
structure Bot(r g b M:Al):Prop where
 or:M=r\/M=g\/M=b
 r:val M<=val r
 g:val M<=val g
 b:val M<=val b
theorem iB{r g b:Al}(hr:Fn r)(hg:Fn g)(hb:Fn b):Top r g b (Yb b (Yb g r)):=by
 rcases Yc hg hr with ⟨e,h⟩ | ⟨e,h⟩<;>rw[e]
 ·rcases Yc hb hg with ⟨e,k⟩ | ⟨e,k⟩<;>rw[e]
  ·exact⟨.inr (.inr rfl),BA h k,k,DC _⟩
  ·exact⟨.inr (.inl rfl),h,DC _,k⟩
 ·rcases Yc hb hr with ⟨e,k⟩ | ⟨e,k⟩<;>rw[e]
  ·exact⟨.inr (.inr rfl),k,BA h k,DC _⟩
  ·exact⟨.inl rfl,DC _,h,k⟩
theorem sq{r g b:Al}(hr:Fn r)(hg:Fn g)(hb:Fn b):Bot r g b (sk b (sk g r)):=by
 rcases Yd hg hr with ⟨e,h⟩ | ⟨e,h⟩<;>rw[e]
 ·rcases Yd hb hg with ⟨e,k⟩ | ⟨e,k⟩<;>rw[e]
  ·exact⟨.inr (.inr rfl),BA k h,k,DC _⟩
  ·exact⟨.inr (.inl rfl),h,DC _,k⟩
 ·rcases Yd hb hr with ⟨e,k⟩ | ⟨e,k⟩<;>rw[e]
  ·exact⟨.inr (.inr rfl),k,BA k h,DC _⟩
  ·exact⟨.inl rfl,DC _,h,k⟩
noncomputable abbrev TT:Int:=2^1067
def Q(s:Int):Int:=(64+s)*TT
theorem Jd{s t:Int}(h:s<=t):Q s<=Q t:=Qr (Int.add_le_add_left h 64) ⋯
theorem Ap.lo{x:Al}{p:Int}{e:Nat}(h:Ap x p e):p-e<=val x:=by have:=(Tt.mp h.2).1;exact(pw [.L (.g (.n .p)) (.S .p .q)] (.L (.S .q (.n .p)) .p) [_,_] [_]) this
theorem Ap.hi{x:Al}{p:Int}{e:Nat}(h:Ap x p e):val x<=p+e:=Int.le_add_of_sub_left_le (Tt.mp h.2).2
theorem Ap.mk'{x:Al}{p:Int}{e:Nat}(f:Fn x)(h:p-e<=val x)(g:val x<=p+e):Ap x p e:=⟨f,Tt.mpr ⟨(pw [.L (.S .p (.n .p)) .q] (.L (.g (.n .p)) (.S .q .p)) [_,_] [_]) h,(pw [.L .p (.A .q (.n .p))] (.L (.S .p .q) (.n .p)) [_,_] [_]) g⟩⟩
theorem Je:((2^1067:Nat):Int)=TT:=by rw[V2];rfl
theorem oK:SS=128*TT:=⋯
theorem AN{z w:Int}{n m:Nat}(h:z.natAbs<=n)(g:w.natAbs<=m):(z*w).natAbs<=n*m:=by rw[CC];exact Wm h g
theorem quot{x y:Al}{A B:Int}(hx:Ap x (A*TT) a)(hy:Ap y (B*TT) b)(h1: 1<=B)(h2:B<=256)(hA:A.natAbs<=2*B.natAbs)(ha:a<=2^1040)(hb:b<=2^1040):
  Fn (Cr x y)/\(val (Cr x y)*B-A*SS).natAbs<=512*UU+1152*b+128*a:=by
 have hT:(0:Int)<TT:=⋯
 have hP:TT<=B*TT:=by have:=Qr h1 (Ed hT);rwa[GU] at this
 have hQ:=Qr h2 (Ed hT)
 have hAT:(A*TT).natAbs<=2*(B*TT).natAbs:=by rw[CC,CC,<-Fg];exact Ef _ hA
 have y1:=hy.lo;have y2:=hy.hi
 have x1:=CQ hx.2 hAT
 have c1:(2:Nat)^1040*4<=2^1067:=⋯
 have vy: 0<val y:=by have:=Je;exact(pw [.l .p (.k (2^1040)),.L .p .q,.L (.S .q (.n .p)) .r,.E (.n (.k (2^1067))) .p] (.T (.j 0) .r) [_,_,_] [_]) hb hP y1 this
 have v1: 2*(B*TT).natAbs+a<=8*(val y).natAbs:=by have:=Je;exact(pw [.l .p (.k (2^1040)),.l .q (.k (2^1040)),.L .p .q,.L (.S .q (.n .q)) .r,.E (.n (.k (2^1067))) .p] (.l (.A (.m 2 (.b .q)) .p) (.m 8 (.b .r))) [_,_,_] [_,_]) ha hb hP y1 this
 have v2:(val y).natAbs<=512*2^1067:=by have:=Je;exact(pw [.l .p (.k (2^1040)),.L .p (.l 256 .q),.L .r (.A .p (.n .p)),.T (.j 0) .r,.E (.n (.k (2^1067))) .q] (.l (.b .r) (.k (512*2^1067))) [_,_,_] [_]) hb hQ y2 vy this
 have q:=ZJ hx.1 hy.1 (λe=>by rw[e] at vy;exact AL vy ⋯) (k:=1024) ⋯ (by
  refine AA (Ef _ (AA x1 v1)) (Bo ?_)
  rw[show(8:Nat)=2^3 from rfl,show(val y).natAbs*2^1024*2^53=(val y).natAbs*(2^1024*2^53) by ac_rfl,show 2^3*(val y).natAbs*2^1074=(val y).natAbs*(2^3*2^1074) by ac_rfl,<-JX] at ⊢)
 refine⟨q.1,?_⟩
 generalize val (Cr x y)=z at q
 have hz:z.natAbs<=9*2^1074:=by
  have t:=CQ q.2 (AP _)
  rw[CC,CC,show(SS).natAbs=2^1074 by rw[<-CS];exact Ly _] at t
  have u:z.natAbs*(val y).natAbs<=9*2^1074*(val y).natAbs:=by
   refine AA t (AA (B5 (Ef _ (AA x1 v1)) (JA _ (show 2^1024<=2^1074 by decide +kernel))) (Bo ?_))
   rw[show 8*(val y).natAbs*2^1074=8*((val y).natAbs*2^1074) by ac_rfl,show 9*2^1074*(val y).natAbs=9*((val y).natAbs*2^1074) by ac_rfl] at ⊢
   exact(pw [] (.e (.A (.m 8 (.R (.b .p) (2^1074))) (.R (.b .p) (2^1074))) (.m 9 (.R (.b .p) (2^1074)))) [_] [])
  exact We u (NW.mpr λe=>by rw[e] at vy;exact AL vy ⋯)
 have e:(z*B)*((2^1067:Nat):Int)-(A*SS)*((2^1067:Nat):Int)=(z*val y-val x*SS)-z*(val y-B*TT)+(val x-A*TT)*SS:=by
  rw[Je,V7,Dj]
  generalize z*val y=p1;generalize val x*SS=p2
  rw[show z*B*TT=z*(B*TT) by ac_rfl,show A*SS*TT=A*TT*SS by ac_rfl]
  exact(pw [] (.E (.S .p .q) (.A (.S (.S .r .s) (.S .r .p)) (.S .s .q))) [_,_,_,_] [])
 refine F0 (k:=2^1067) (EG _) ?_
 rw[e]
 refine AA (E0 _ _) (AA (B5 (Q4 _ _) (AN hx.2 (Bo (show(SS).natAbs=128*2^1067 by decide +kernel)))) ?_)
 refine AA (Rn (B5 (AA q.2 (Ef _ v2)) (AN hz hy.2)) _) (Bo ?_)
 rw[show(9*2^1074*b:Nat)=1152*b*2^1067 by rw[show(2:Nat)^1074=128*2^1067 by decide +kernel];exact(pw [] (.e (.m (9*(128*2^1067)) .p) (.R (.m 1152 .p) (2^1067))) [] [_])]
 unfold UU
 generalize (2:Nat)^1024=u
 generalize (2:Nat)^1067=t
 rw[LQ,LQ]
 ac_rfl
end
section
set_option exponentiation.threshold 3000
open PySem.Float64 PySem
noncomputable def Cg:Al:=4607182418800017408
theorem NL:J9 Cg=.fin false (2^52) (-52):=by
 unfold J9
 have e:Cg.toNat=1023*2^52:=⋯
 rw[e];rfl
theorem sr:Fn Cg:=⟨_,_,_,NL⟩
theorem Li:val Cg=SS:=by rw[val_eq NL];decide +kernel
theorem QY(he: -1074<=e):(Iw m 1 e).1*2^1074=m*2^(e+1074).toNat*(Iw m 1 e).2:=shift_one m e 1074 he
theorem fmod_one(hx:Fn x)(h:(val x).natAbs<2^1074):Fn (ET x Cg)/\val (ET x Cg)=val x:=by
 refine hx.elim λa q=>q.elim λm q=>q.elim λe hx=>?_
 have he:=decode_ge hx
 have hv:=val_natAbs hx
 have hm:m<2^53:=by
  unfold J9 at hx
  simp only at hx
  split at hx
  ·split at hx<;>cases hx
  ·split at hx<;>cases hx<;>lia
 have hk:m*2^(e+1074).toNat<2^1074:=by rw[<-hv];exact h
 have hf:ET x Cg=ofBin a ((m*2^(e-min e (-52)).toNat:Nat)%(2^52*2^(-52-min e (-52)).toNat:Nat)) (min e (-52)):=by
  unfold ET
  rw[hx,NL]
  rfl
 have hp:m*2^(e-min e (-52)).toNat<2^52*2^(-52-min e (-52)).toNat:=by
  have h1:(e-min e (-52)).toNat+(min e (-52)+1074).toNat=(e+1074).toNat:=(pw [] (.e (.A (.d (.S .p (.min .p (.j (-52))))) (.d (.A (.min .p (.j (-52))) (.j 1074)))) (.d (.A .p (.j 1074)))) [_] [])
  have h2: 52+(-52-min e (-52)).toNat+(min e (-52)+1074).toNat=1074:=(pw [.L (.j (-1074)) .p] (.e (.A (.A (.k 52) (.d (.S (.j (-52)) (.min .p (.j (-52)))))) (.d (.A (.min .p (.j (-52))) (.j 1074)))) (.k 1074)) [_] []) he
  refine Rl (a:=2^(min e (-52)+1074).toNat) ?_
  rw[Fg,<-JX,h1,<-JX,<-JX,h2]
  exact hk
 rw[Nat.mod_eq_of_lt hp] at hf
 have hs:=QY (m:=m*2^(e-min e (-52)).toNat) (e:=min e (-52)) ((pw [.L (.j (-1074)) .p] (.L (.j (-1074)) (.min .p (.j (-52)))) [_] []) he)
 have e3:m*2^(e-min e (-52)).toNat*2^(min e (-52)+1074).toNat=m*2^(e+1074).toNat:=by rw[Fg,<-JX,show(e-min e (-52)).toNat+(min e (-52)+1074).toNat=(e+1074).toNat by exact(pw [] (.e (.A (.d (.S .p (.min .p (.j (-52))))) (.d (.A (.min .p (.j (-52))) (.j 1074)))) (.d (.A .p (.j 1074)))) [_] [])]
 rw[e3] at hs
 have hr:Right (ET x Cg) a (m*2^(e+1074).toNat) 1:=by
  rw[hf]
  exact ofFrac_right (shift_pos _ _ _ ⋯) (by rw[N8];exact hs) ⋯
 by_cases h0:m=0
 ·subst h0
  rw[Ic,<-Ic (2^0)] at hr
  have z:=NJ hr (Co _) ⋯
  refine⟨z.1,z.2.trans ?_⟩
  rw[val_eq hx,Ic,Ic]
 ·have z:=NJ hr (DY hm) (DY (BW ((Nat.pow_lt_pow_iff_right (by decide: 1<2)).mp (CE (cC _ (Nat.pos_of_ne_zero h0)) hk)) ⋯))
  exact⟨z.1,z.2.trans (val_eq hx).symm⟩
theorem sv(hx:Fn x)(h:(val x).natAbs<2^1074):Fn (divmod x Cg).2/\0<=val (divmod x Cg).2/\val (divmod x Cg).2<=SS/\(val (divmod x Cg).2=val x\/(val (divmod x Cg).2-(val x+SS)).natAbs<=2^1024):=by
 have hm:=fmod_one hx h
 have hS:=CS
 have e:(divmod x Cg).2=if Iv (ET x Cg) then copysign (zero false) Cg else if lt Cg (zero false) !=lt (ET x Cg) (zero false) then add (ET x Cg) Cg else ET x Cg:=by
  unfold divmod
  dsimp only
  by_cases z:Iv (ET x Cg)=true
  ·rw[Bh z,Bh z]
  ·rw[AD z,AD z]
   by_cases w:(lt Cg (zero false) !=lt (ET x Cg) (zero false))=true
   ·rw[Bh w,Bh w]
   ·rw[AD w,AD w]
 have l1:lt Cg (zero false)=false:=⋯
 rw[e,l1]
 generalize ET x Cg=y at hm
 rw[<-hm.2] at h ⊢
 by_cases hz:Iv y=true
 ·rw[Bh hz]
  have v0:val y=0:=by
   refine hm.1.elim λa q=>q.elim λm q=>q.elim λe hy=>?_
   unfold Iv at hz
   rw[hy] at hz
   cases m with
   |zero=>rw[val_eq hy,Ic];cases a<;>rfl
   |succ _=>nomatch hz
  have c:copysign (zero false) Cg=zero false:=⋯
  rw[c,val_zero,v0]
  exact⟨NI _,DC _,by decide +kernel,.inl rfl⟩
 ·rw[AD hz]
  have l2:lt y (zero false)=decide (val y<0):=by
   unfold lt
   rw[Ky hm.1 (NI _),val_zero]
   by_cases q:val y<0
   ·rw[JO.mpr q,AU q];rfl
   ·rw[Ct q];exact Gx.mpr λw=>q (JO.mp (AQ (eq_of_beq w)))
  rw[l2]
  by_cases q:val y<0
  ·rw[AU q]
   show Fn (add y Cg)/\0<=val (add y Cg)/\val (add y Cg)<=SS/\(val (add y Cg)=val y\/(val (add y Cg)-(val y+SS)).natAbs<=2^1024)
   have n0:val y+val Cg≠0:=by rw[Li];exact(pw [.E (.n (.k (2^1074))) .p,.t (.b .q) (.k (2^1074))] (.n (.E (.A .q .p) (.j 0))) [_,_] []) hS h
   have n1:(val y+val Cg).natAbs<=2^1074:=by rw[Li];exact(pw [.E (.n (.k (2^1074))) .p,.t (.b .q) (.k (2^1074)),.T .q (.j 0)] (.l (.b (.A .q .p)) (.k (2^1074))) [_,_] []) hS h q
   have n2:¬ val y+val Cg<0:=by rw[Li];exact(pw [.E (.n (.k (2^1074))) .p,.t (.b .q) (.k (2^1074))] (.n (.T (.A .q .p) (.j 0))) [_,_] []) hS h
   refine hm.1.elim λa q=>q.elim λm q=>q.elim λe hy=>?_
   have z:=near (k:=1024) ((add_right hy NL).2 n0) ⋯ ⋯ (by rw[C3];exact AA n1 ⋯)
   refine⟨z.1,z.2.elim λt z=>?_⟩
   have w:=P7 z.2.1
   rw[<-z.1,Li,C3] at w
   have ht:val (add y Cg)=t:=z.1.trans (by rw[Ct n2];rfl)
   refine(r9 (q:=1) ⋯ 1074).elim λt' e=>?_
   have d:=z.2.2 t'
   rw[e,C3,C3,C3] at d
   refine⟨ht▸HF t,?_,.inr w⟩
   rw[ht,<-CS]
   unfold BN at d
   exact DM.mpr ((pw [.l (.b (.A .p .q)) (.k (2^1074)),.l (.A (.S (.b (.A .p .q)) .p) (.S .p (.b (.A .p .q)))) (.A (.S (.b (.A .p .q)) (.k (2^1074))) (.S (.k (2^1074)) (.b (.A .p .q))))] (.l .p (.k (2^1074))) [_,_] [_]) n1 d)
  ·rw[Ct q]
   exact⟨hm.1,DD.mp q,by show val y<=SS;exact(pw [.E (.n (.k (2^1074))) .p,.t (.b .q) (.k (2^1074))] (.L .q .p) [_,_] []) hS h,.inl rfl⟩
theorem lX(hd: 0<d)(hn:BN n (d*h)<=BN n (d*j))(hj: 2*BN n (d*j)<d):h=j:=by
 have h1:BN (d*h) (d*j)<d:=by unfold BN at *;omega
 rw[dist_mul] at h1
 have h2:BN h j<1:=(Nat.mul_lt_mul_left hd).mp (by rw[N8];exact h1)
 unfold BN at h2
 omega
theorem P9(hx:Fn x)(h: 2*(val x-K*SS).natAbs<2^1074):EW Ow x=K:=by
 refine hx.elim λa q=>q.elim λm q=>q.elim λe hx=>?_
 have he:=decode_ge hx
 have hs:=QY (m:=m) he
 rw[<-val_natAbs hx] at hs
 have hd:=shift_pos m 1 e ⋯
 have hn:=halfEven_nearest (Iw m 1 e).1 (Iw m 1 e).2 hd
 have e1:EW Ow x=sgn a (halfEven (Iw m 1 e).1 (Iw m 1 e).2):=by unfold EW;rw[hx];rfl
 have sx:=Lh hx
 rw[e1]
 generalize (Iw m 1 e).1=n at*
 generalize (Iw m 1 e).2=d at*
 have hK:sgn a K.natAbs=K:=by
  rw[sx,<-CS] at h
  rcases bq a (val x).natAbs with ⟨q,w⟩ | ⟨q,w⟩<;>rw[w] at h<;>rw[q]
  ·show -(K.natAbs:Int)=K
   by_cases k:K<=0
   ·exact(pw [.L .p (.j 0)] (.E (.g (.n (.b .p))) .p) [_] []) k
   ·have:((2^1074:Nat):Int)<=K*((2^1074:Nat):Int):=by
     have:=Qr (show 1<=K by exact(pw [.n (.L .p (.j 0))] (.L (.j 1) .p) [_] []) k) (HF (2^1074));rwa[GU] at this
    lia
  ·show(K.natAbs:Int)=K
   by_cases k: 0<=K
   ·exact(pw [.L (.j 0) .p] (.E (.n (.b .p)) .p) [_] []) k
   ·have:K*((2^1074:Nat):Int) <= -((2^1074:Nat):Int):=by
     have:=Qr (show K <= -1 by exact(pw [.n (.L (.j 0) .p)] (.L .p (.j (-1))) [_] []) k) (HF (2^1074));rwa[NY,GU] at this
    lia
 have hj: 2*BN n (d*K.natAbs)<d:=by
  have t:(val x-K*SS).natAbs=BN (K.natAbs*2^1074) (val x).natAbs:=by
   conv=>lhs;rw[sx,<-hK]
   rw[<-CS,<-sgn_mul,oJ]
  rw[t] at h
  have t2:BN n (d*K.natAbs)*2^1074=d*BN (K.natAbs*2^1074) (val x).natAbs:=by
   rw[<-dist_mul,Dv _ (2^1074),<-dist_mul,Dv (2^1074) n,hs] at ⊢
   unfold BN
   rw[show 2^1074*(d*K.natAbs)=d*(K.natAbs*2^1074) by ac_rfl,Dv (val x).natAbs d,Ga]
  refine Rl (a:=2^1074) ?_
  rw[Fg,t2,<-Fg,Dv 2 d,Fg] at ⊢
  exact cy h hd
 rw[lX hd (hn _) hj]
 exact hK
end
section
set_option exponentiation.threshold 3000
open PySem.Float64 PySem
def Aq(x:Al)(A B:Int)(e:Nat):Prop:=Fn x/\(val x*B-A*SS).natAbs<=e
theorem Jf:(SS).natAbs=2^1074:=by rw[<-CS];exact Ly _
theorem iC{x:Al}{i:Int}{k:Nat}(hx:Fn x)(hi:i.natAbs<=2^53)(hk:k<=1990)(h:(val x*i).natAbs<=2^k*2^53):Fn (mul x (BG i))/\(val (mul x (BG i))-val x*i).natAbs<=2^k:=by
 have r:=iw hi
 have e:val x*val (BG i)=val x*i*SS:=by rw[r.2,Fc]
 have q:=ir hx r.1 hk (by rw[e,CC,Jf,Dv (2^1074),Wh];exact Ef _ h)
 refine⟨q.1,F0 (EG 1074) ?_⟩
 have w:=q.2
 rw[e,Dv] at w
 rw[CS]
 exact w
theorem Ye{x:Al}{i:Int}{k:Nat}(hx:Fn x)(hi:i.natAbs<=2^53)(hk:k<=1990)(h:(val x*i).natAbs<=2^k*2^53):Fn (mul (BG i) x)/\(val (mul (BG i) x)-val x*i).natAbs<=2^k:=by
 have r:=iw hi
 have e:val (BG i)*val x=val x*i*SS:=by rw[r.2];ac_rfl
 have q:=ir r.1 hx hk (by rw[e,CC,Jf,Dv (2^1074),Wh];exact Ef _ h)
 refine⟨q.1,F0 (EG 1074) ?_⟩
 have w:=q.2
 rw[e,Dv] at w
 rw[CS]
 exact w
theorem Aq.abs{x:Al}{A B:Int}{e n:Nat}(h:Aq x A B e)(hB: 1<=B)(hA:A.natAbs<=n*B.natAbs):(val x).natAbs<=n*2^1074+e:=by
 have hb: 1<=B.natAbs:=NW.mpr λz=>by rw[z] at hB;exact AL hB ⋯
 have t:=CQ h.2 (AN hA (Bo Jf))
 rw[CC] at t
 refine We (AA t ?_) hb
 rw[LQ,Wh] at ⊢
 exact GW (Rm _ hb) _
theorem Aq.sub{x y:Al}{A C B:Int}{a c:Nat}(hx:Aq x A B a)(hy:Aq y C B c)(hm:(val x).natAbs+(val y).natAbs<=2^1024*2^53)(hB:B.natAbs<=128):Aq (Bg x y) (A-C) B (128*UU+(a+c)):=by
 have r:=iq hx.1 hy.1 ⋯ (AA (Q4 _ _) hm)
 refine⟨r.1,?_⟩
 have e:val (Bg x y)*B-(A-C)*SS=(val (Bg x y)-(val x-val y))*B+((val x*B-A*SS)-(val y*B-C*SS)):=by rw[Dj,Dj,Dj];exact(pw [] (.E (.S .p (.S .q .r)) (.A (.S .p (.S .s .t)) (.S (.S .s .q) (.S .t .r)))) [_,_,_,_,_] [])
 rw[e]
 exact AA (E0 _ _) (B5 (AA (AN r.2 hB) (Bo (Dv _ _))) (AA (Q4 _ _) (B5 hx.2 hy.2)))
theorem Aq.add{x y:Al}{A C B:Int}{a c:Nat}(hx:Aq x A B a)(hy:Aq y C B c)(hm:(val x).natAbs+(val y).natAbs<=2^1024*2^53)(hB:B.natAbs<=128):Aq (Dl x y) (A+C) B (128*UU+(a+c)):=by
 have r:=ij hx.1 hy.1 ⋯ (AA (E0 _ _) hm)
 refine⟨r.1,?_⟩
 have e:val (Dl x y)*B-(A+C)*SS=(val (Dl x y)-(val x+val y))*B+((val x*B-A*SS)+(val y*B-C*SS)):=by rw[Dj,F2,F2];exact(pw [] (.E (.S .p (.A .q .r)) (.A (.S .p (.A .s .t)) (.A (.S .s .q) (.S .t .r)))) [_,_,_,_,_] [])
 rw[e]
 exact AA (E0 _ _) (B5 (AA (AN r.2 hB) (Bo (Dv _ _))) (AA (E0 _ _) (B5 hx.2 hy.2)))
noncomputable def Lj:Al:=4611686018427387904
noncomputable def Vr:Al:=4616189618054758400
noncomputable def Vs:Al:=4618441417868443648
theorem Yg:Fn Lj:=Kw ⋯
theorem lY:Fn Vr:=Kw ⋯
theorem sz:Fn Vs:=Kw ⋯
theorem NM:val Lj=2*SS:=⋯
theorem Vu:val Vr=4*SS:=⋯
theorem ZL:val Vs=6*SS:=⋯
theorem Aq.lit{x:Al}{n B:Int}(h:Fn x)(e:val x=n*SS):Aq x (n*B) B 0:=⟨h,by rw[e,show n*SS*B-n*B*SS=0 by rw[Int.mul_right_comm,V5]];exact AP _⟩
theorem Aq.six{h:Al}{K B:Int}{e:Nat}(hh:Aq h K B e)(hB:B.natAbs<=128)(hm:(val h).natAbs<=2^1024*2^53):Aq (Cr h Vs) K (6*B) (768*UU+e):=by
 have n6:(val Vs).natAbs=6*2^1074:=by rw[ZL,CC,Jf];rfl
 have q:=ZJ hh.1 sz (λz=>by rw[z] at n6;exact AL n6 ⋯) (k:=1024) ⋯ (by
  rw[n6,show 6*2^1074*2^1024*2^53=6*(2^1024*2^53)*2^1074 by ac_rfl] at ⊢
  exact Ef _ (AA hm (cC _ ⋯)))
 have d:(val (Cr h Vs)*6-val h).natAbs<=6*UU:=by
  refine F0 (EG 1074) ?_
  have w:=q.2
  rw[n6,ZL,<-Fc] at w
  rw[CS]
  exact AA w (Bo (by unfold UU;ac_rfl))
 refine⟨q.1,?_⟩
 rw[show val (Cr h Vs)*(6*B)-K*SS=(val (Cr h Vs)*6-val h)*B+(val h*B-K*SS) by rw[Dj,Fc];exact(pw [] (.E (.S .p .q) (.A (.S .p .r) (.S .r .q))) [_,_,_] [])]
 exact AA (E0 _ _) (B5 (AA (AN d hB) (Bo ((pw [] (.e (.R (.m 6 .p) 128) (.m 768 .p)) [] [_])))) hh.2)
theorem Aq.hue{x:Al}{K B:Int}{e:Nat}(hx:Aq x K (6*B) e)(h1: 1<=B)(hB:B.natAbs<=128)(hK:K.natAbs<=5*B.natAbs)(he:e<=2^1060):∃j:Int,Aq (divmod x Cg).2 (K+6*B*j) (6*B) (768*UU+e)/\0<=val (divmod x Cg).2/\val (divmod x Cg).2<=SS:=by
 have b1: 1<=B.natAbs:=NW.mpr λz=>by rw[z] at h1;exact AL h1 ⋯
 have hs:(val x).natAbs<2^1074:=by
  have t:=CQ hx.2 (AN hK (Bo Jf))
  rw[CC,CC] at t
  refine Rl (a:=B.natAbs) ?_
  have u:=CE he (BW (show 2^1060<2^1074 by decide +kernel) (Rm _ b1))
  have v: 5*B.natAbs*2^1074=5*(2^1074*B.natAbs):=by ac_rfl
  have w:(val x).natAbs*((6:Int).natAbs*B.natAbs)=6*((val x).natAbs*B.natAbs):=by rw[show(6:Int).natAbs=6 from rfl];ac_rfl
  rw[v,w] at t
  generalize (val x).natAbs*B.natAbs=z at*
  generalize 2^1074*B.natAbs=y at*
  exact(pw [.t .p .q,.l (.m 6 .r) (.A (.m 5 .q) .p)] (.t .r .q) [] [_,_,_]) u t
 have r:=sv hx.1 hs
 refine r.2.2.2.elim (λz=>⟨0,⟨r.1,?_⟩,r.2.1,r.2.2.1⟩) λz=>⟨1,⟨r.1,?_⟩,r.2.1,r.2.2.1⟩
 ·rw[z,V6,Ej];exact AA hx.2 (H8 _ _)
 ·rw[show val (divmod x Cg).2*(6*B)-(K+6*B*1)*SS=(val (divmod x Cg).2-(val x+SS))*(6*B)+(val x*(6*B)-K*SS) by
   rw[Fd,F2,Dj,F2,HR SS];exact(pw [] (.E (.S .p (.A .q .r)) (.A (.S .p (.A .s .r)) (.S .s .q))) [_,_,_,_] [])]
  exact AA (E0 _ _) (B5 (AA (AN z (by rw[CC];exact JA _ hB)) (Bo (Dv _ _))) hx.2)
theorem Aq.turn{h:Al}{K B:Int}{e:Nat}(hh:Aq h K (6*B) e)(h0: 0<=val h)(hS:val h<=SS)(hB:B.natAbs<=128)(he:e<=2^1050):
  Fn (mul (mul (BG 6) h) (BG (2^20*B)))/\EW Ow (mul (mul (BG 6) h) (BG (2^20*B)))=2^20*K:=by
 have ha:(val h).natAbs<=2^1074:=by have:=CS;exact(pw [.L (.j 0) .p,.L .p .q,.E (.n (.k (2^1074))) .q] (.l (.b .p) (.k (2^1074))) [_,_] []) h0 hS this
 have t1:=Ye hh.1 (i:=6) ⋯ (k:=1024) ⋯ (AA (AN ha (AP _)) ⋯)
 have hw:((2:Int)^20*B).natAbs<=2^27:=by rw[CC];exact JA _ hB
 have a1:(val (mul (BG 6) h)).natAbs<=7*2^1074:=AA (CQ t1.2 (AN ha (AP _))) ⋯
 have t2:=iC t1.1 (AA hw ⋯) (k:=1052) ⋯ (AA (AN a1 hw) ⋯)
 refine⟨t2.1,P9 t2.1 ?_⟩
 generalize val (mul (mul (BG 6) h) (BG (2^20*B)))=z2 at*
 generalize val (mul (BG 6) h)=z1 at*
 rw[show z2-2^20*K*SS=(z2-z1*(2^20*B))+((z1-val h*6)*(2^20*B)+(val h*(6*B)-K*SS)*2^20) by
  rw[Dj,Dj,show val h*6*(2^20*B)=val h*(6*B)*2^20 by ac_rfl,show K*SS*2^20=2^20*K*SS by ac_rfl];exact(pw [] (.E (.S .p .q) (.A (.S .p .r) (.A (.S .r (.Q .s (2^20))) (.S (.Q .s (2^20)) .q)))) [_,_,_,_] [])]
 have b:=AA (E0 _ _) (B5 t2.2 (AA (E0 _ _) (B5 (AN t1.2 hw) (AN hh.2 (AP ((2:Int)^20).natAbs)))))
 refine CE (JA 2 (AA b (GW (GW (Ef _ he) _) _))) ?_
 decide +kernel
end
section
set_option exponentiation.threshold 3000
open PySem.Float64 PySem
def tM(r g b:Al):Al:=Yb b (Yb g r)
def tm(r g b:Al):Al:=sk b (sk g r)
def dR(r g b:Al):Al:=Bg (tM r g b) (tm r g b)
def dS(r g b:Al):Al:=Dl (tM r g b) (tm r g b)
def lgt(r g b:Al):Al:=Cr (dS r g b) Lj
noncomputable def M7:Al:=4602678819172646912
def sA(x y:Al):Aa:=oLt (cmp x y)||oEq (cmp x y)
noncomputable def ZM(x y:Al):Aa:=cmp x y==some .eq
def den(r g b:Al):Al:=cond (sA (lgt r g b) M7) (dS r g b) (Bg (Bg Lj (tM r g b)) (tm r g b))
def sat(r g b:Al):Al:=Cr (dR r g b) (den r g b)
def ZO(r g b c:Al):Al:=Cr (Bg (tM r g b) c) (dR r g b)
def zc(r g b:Al):Al:=cond (ZM r (tM r g b)) (Bg (ZO r g b b) (ZO r g b g)) (cond (ZM g (tM r g b)) (Bg (Dl Lj (ZO r g b r)) (ZO r g b b)) (Bg (Dl Vr (ZO r g b g)) (ZO r g b r)))
def HO(r g b:Al):Al:=(divmod (Cr (zc r g b) Vs) Cg).2
def E1:Nat:=UU+(EE+EE)
def E2:Nat:=512*UU+1152*E1+128*E1
def E3:Nat:=128*UU+(128*UU+(0+E2)+E2)
def E5:Nat:=768*UU+(768*UU+E3)
structure tW(s0 s1 s2 mo le:Int):Prop where
 h0:le<=s0/\s0<=mo
 h1:le<=s1/\s1<=mo
 h2:le<=s2/\s2<=mo
 top:mo=s0\/mo=s1\/mo=s2
 bot:le=s0\/le=s1\/le=s2
 lt:le<mo
 hi:mo<=63
 lo: -63<=le
structure Sn(r g b:Al)(s0 s1 s2:Int):Prop where
 r:Ap r (Q s0) EE
 g:Ap g (Q s1) EE
 b:Ap b (Q s2) EE
theorem iD(a c:Int):Q a-Q c=(a-c)*TT:=by unfold Q;rw[<-Dj];congr 1;exact(pw [] (.E (.S (.A (.j 64) .p) (.A (.j 64) .q)) (.S .p .q)) [_,_] [])
theorem oL(a c:Int):Q a+Q c=(128+a+c)*TT:=by unfold Q;rw[<-F2];congr 1;exact(pw [] (.E (.A (.A (.j 64) .p) (.A (.j 64) .q)) (.A (.A (.j 128) .p) .q)) [_,_] [])
theorem MJ:(TT).natAbs=2^1067:=by rw[<-Je];exact Ly _
section
variable{r g b:Al}{s0 s1 s2 mo le:Int}(H:tW s0 s1 s2 mo le)(S:Sn r g b s0 s1 s2)
include H S
theorem tX:Ap (tM r g b) (Q mo) EE:=by
 have t:=iB S.r.1 S.g.1 S.b.1
 have f:Fn (tM r g b):=t.or.elim (λe=>by unfold tM;rw[e];exact S.r.1) λe=>e.elim (λe=>by unfold tM;rw[e];exact S.g.1) λe=>by unfold tM;rw[e];exact S.b.1
 refine .mk' f ?_ ?_
 ·exact H.top.elim (λe=>e▸BA S.r.lo t.r) λe=>e.elim (λe=>e▸BA S.g.lo t.g) λe=>e▸BA S.b.lo t.b
 ·exact t.or.elim (λe=>by unfold tM;rw[e];exact BA S.r.hi (VY (Jd H.h0.2) _)) λe=>e.elim (λe=>by unfold tM;rw[e];exact BA S.g.hi (VY (Jd H.h1.2) _)) λe=>by unfold tM;rw[e];exact BA S.b.hi (VY (Jd H.h2.2) _)
theorem xS:Ap (tm r g b) (Q le) EE:=by
 have t:=sq S.r.1 S.g.1 S.b.1
 have f:Fn (tm r g b):=t.or.elim (λe=>by unfold tm;rw[e];exact S.r.1) λe=>e.elim (λe=>by unfold tm;rw[e];exact S.g.1) λe=>by unfold tm;rw[e];exact S.b.1
 refine .mk' f ?_ ?_
 ·exact t.or.elim (λe=>by unfold tm;rw[e];exact BA (VZ (Jd H.h0.1) _) S.r.lo) λe=>e.elim (λe=>by unfold tm;rw[e];exact BA (VZ (Jd H.h1.1) _) S.g.lo) λe=>by unfold tm;rw[e];exact BA (VZ (Jd H.h2.1) _) S.b.lo
 ·exact H.bot.elim (λe=>e▸BA t.r S.r.hi) λe=>e.elim (λe=>e▸BA t.g S.g.hi) λe=>e▸BA t.b S.b.hi
omit S in
theorem sC(h:le<=c/\c<=mo):(mo-c).natAbs<=1*(mo-le).natAbs/\(mo-c).natAbs<=126:=by have VJ:=H.hi;have:=H.lo;exact(pw [.a (.L .p .q) (.L .q .r),.L .r (.j 63),.L (.j (-63)) .p] (.a (.l (.b (.S .r .q)) (.m 1 (.b (.S .r .p)))) (.l (.b (.S .r .q)) (.k 126))) [_,_,_] []) h VJ this
omit S in
theorem wB: 1<=mo-le/\mo-le<=256/\(mo-le).natAbs<=128:=by have VK:=H.hi;have gZ:=H.lo;have:=H.lt;exact(pw [.L .p (.j 63),.L (.j (-63)) .q,.T .q .p] (.a (.L (.j 1) (.S .p .q)) (.a (.L (.S .p .q) (.j 256)) (.l (.b (.S .p .q)) (.k 128)))) [_,_] []) VK gZ this
omit H S in
theorem mag(h:a.natAbs<=n)(hn:n<=512):(a*TT).natAbs+(EE+EE)<=2^1024*2^53:=
 AA (Rn (AN (AA h hn) (Bo MJ)) _) ⋯
theorem apN(hc:Ap c (Q s) EE)(h:le<=s/\s<=mo):Ap (Bg (tM r g b) c) ((mo-s)*TT) E1:=by
 have q:=Ap.sub (tX H S) hc (by rw[iD];exact mag (sC H h).2 ⋯)
 rw[iD] at q
 exact q
theorem apR:Ap (dR r g b) ((mo-le)*TT) E1:=apN H S (xS H S) ⟨DC _,Ed H.lt⟩
theorem zd(hc:Ap c (Q s) EE)(h:le<=s/\s<=mo):Aq (ZO r g b c) (mo-s) (mo-le) E2:=
 quot (apN H S hc h) (apR H S) (wB H).1 (wB H).2.1 (AA (sC H h).1 (Ef _ ⋯)) ⋯ ⋯
theorem abC(hc:Ap c (Q s) EE)(h:le<=s/\s<=mo):(val (ZO r g b c)).natAbs<=1*2^1074+E2:=(zd H S hc h).abs (wB H).1 (sC H h).1
omit H S in
theorem Yh(hx:Fn x)(hy:Fn y):ZM x y=decide (val x=val y):=by
 unfold ZM
 rw[Ky hx hy]
 by_cases h:val x=val y
 ·rw[h,AU rfl,Q5.mpr rfl];rfl
 ·rw[Ct h];exact Gx.mpr λw=>h (Q5.mp (AQ (eq_of_beq w)))
omit H S in
theorem Jt(hx:Ap x (Q a) EE)(hy:Ap y (Q c) EE)(e:val x=val y):a=c:=by
 have t:=Tq (by rw[<-e,<-Int.natAbs_neg,Int.neg_sub];exact hx.2) hy.2
 rw[iD,CC,MJ] at t
 have u:(a-c).natAbs<1:=Rl (CE t ⋯)
 exact(pw [.t (.b (.S .p .q)) (.k 1)] (.E .p .q) [_,_] []) u
def KK(s0 s1 s2 mo B K:Int):Prop:=(mo=s0/\K=s1-s2)\/(mo=s1/\K=2*B+s2-s0)\/(mo=s2/\K=4*B+s0-s1)
omit H S in
theorem Aq.mono(h:Aq x A B e)(c:A=C)(g:e<=f):Aq x C B f:=⟨h.1,c▸AA h.2 g⟩
theorem xT:∃K,KK s0 s1 s2 mo (mo-le) K/\Aq (zc r g b) K (mo-le) E3/\K.natAbs<=5*(mo-le).natAbs:=by
 have cr:=zd H S S.r H.h0;have cg:=zd H S S.g H.h1;have cb:=zd H S S.b H.h2
 have ar:=abC H S S.r H.h0;have ag:=abC H S S.g H.h1;have ab:=abC H S S.b H.h2
 have B:=wB H
 have wr:=(sC H H.h0).1;have wg:=(sC H H.h1).1;have wb:=(sC H H.h2).1
 have M:=tX H S
 unfold zc
 rw[Yh S.r.1 M.1,Yh S.g.1 M.1]
 by_cases h0:val r=val (tM r g b)
 ·rw[AU h0]
  have q:=cb.sub cg (AA (B5 ab ag) ⋯) B.2.2
  have e:=Jt S.r M h0
  refine⟨s1-s2,.inl ⟨e.symm,rfl⟩,q.mono ((pw [] (.E (.S (.S .p .q) (.S .p .r)) (.S .r .q)) [_,_,_] [])) ⋯,?_⟩
  have bE:=H.h1;have:=H.h2;exact(pw [.a (.L .p .q) (.L .q .r),.a (.L .p .s) (.L .s .r)] (.l (.b (.S .q .s)) (.m 5 (.b (.S .r .p)))) [_,_,_,_] []) bE this
 ·rw[Ct h0]
  by_cases h1:val g=val (tM r g b)
  ·rw[AU h1]
   have p:=(Aq.lit Yg NM).add cr (AA (B5 (Bo (show _=2*2^1074 by rw[NM,CC,Jf];rfl)) ar) ⋯) B.2.2
   have pa:=p.abs B.1 ((pw [.l (.b (.S .p .q)) (.m 1 (.b (.S .p .r)))] (.l (.b (.A (.l 2 (.S .p .r)) (.S .p .q))) (.m 3 (.b (.S .p .r)))) [_,_,_] []) wr)
   have q:=p.sub cb (AA (B5 pa ab) ⋯) B.2.2
   have e:=Jt S.g M h1
   refine⟨2*(mo-le)+s2-s0,.inr (.inl ⟨e.symm,rfl⟩),q.mono ((pw [] (.E (.S (.A (.l 2 (.S .p .q)) (.S .p .r)) (.S .p .s)) (.S (.A (.l 2 (.S .p .q)) .s) .r)) [_,_,_,_] [])) (AP _),?_⟩
   have jf:=H.h0;have:=H.h2;exact(pw [.a (.L .p .q) (.L .q .r),.a (.L .p .s) (.L .s .r)] (.l (.b (.S (.A (.l 2 (.S .r .p)) .s) .q)) (.m 5 (.b (.S .r .p)))) [_,_,_,_] []) jf this
  ·rw[Ct h1]
   have p:=(Aq.lit lY Vu).add cg (AA (B5 (Bo (show _=4*2^1074 by rw[Vu,CC,Jf];rfl)) ag) ⋯) B.2.2
   have pa:=p.abs B.1 ((pw [.l (.b (.S .p .q)) (.m 1 (.b (.S .p .r)))] (.l (.b (.A (.l 4 (.S .p .r)) (.S .p .q))) (.m 5 (.b (.S .p .r)))) [_,_,_] []) wg)
   have q:=p.sub cr (AA (B5 pa ar) ⋯) B.2.2
   have e:s2=mo:=by
    have t:=(iB S.r.1 S.g.1 S.b.1).or
    exact Jt S.b M (t.elim (λz=>AL (Ai val z.symm) h0) λz=>z.elim (λz=>AL (Ai val z.symm) h1) λz=>Ai val z.symm)
   refine⟨4*(mo-le)+s0-s1,.inr (.inr ⟨e.symm,rfl⟩),q.mono (by lia) (AP _),?_⟩
   have lS:=H.h0;have:=H.h1;lia
theorem sD:∃K j:Int,KK s0 s1 s2 mo (mo-le) K/\Aq (HO r g b) (K+6*(mo-le)*j) (6*(mo-le)) E5/\0<=val (HO r g b)/\val (HO r g b)<=SS:=
 (xT H S).elim λK z=>(Aq.hue (z.2.1.six (wB H).2.2 (AA (z.2.1.abs (wB H).1 z.2.2) ⋯)) (wB H).1 (wB H).2.2 z.2.2 ⋯).elim λj w=>⟨K,j,z.1,w⟩
end
end
section
set_option exponentiation.threshold 3000
open PySem.Float64 PySem
def E1b:Nat:=UU+((UU+(0+EE))+EE)
def E2b:Nat:=512*UU+1152*E1b+128*E1
noncomputable def Nn(m:Int):Int:=128-(if m<0 then -m else m)
theorem sE(hx:Fn x)(hy:Fn y):sA x y=decide (val x<=val y):=by
 unfold sA
 rw[Ky hx hy]
 rcases V1 (val x) (val y) with h | h | h
 ·rw[JO.mpr h,AU (Ed h)];rfl
 ·rw[h,Q5.mpr rfl,AU (DC _)];rfl
 ·rw[NU.mpr h,Ct (Fe.mpr h)];rfl
theorem oM(h:val x≠0):Iv x=false:=by
 unfold Iv
 unfold val at h
 cases e:J9 x with
 |fin a m e'=>
  cases m with
  |zero=>rw[e] at h;exact AL (by show sgn a (0*_)=0;rw[Ic];cases a<;>rfl) h
  |succ m=>rfl
 |nan=>rfl
 |inf _=>rfl
theorem lZ:Fn M7:=Kw ⋯
theorem Vv: 2*val M7=128*TT:=⋯
section
variable{r g b:Al}{s0 s1 s2 mo le:Int}(H:tW s0 s1 s2 mo le)(S:Sn r g b s0 s1 s2)
include H S
theorem apS:Ap (dS r g b) ((128+mo+le)*TT) E1:=by
 have q:=Ap.add (tX H S) (xS H S) (by rw[oL];exact mag (n:=254) (by have VJ:=H.hi;have VK:=H.lo;have:=H.lt;exact(pw [.L .p (.j 63),.L (.j (-63)) .q,.T .q .p] (.l (.b (.A (.A (.j 128) .p) .q)) (.k 254)) [_,_] []) VJ VK this) ⋯)
 rw[oL] at q
 exact q
theorem iE:Fn (lgt r g b)/\(val (lgt r g b)*2-(128+mo+le)*TT).natAbs<=2*UU+E1:=by
 have s:=apS H S
 have n2:(val Lj).natAbs=2*2^1074:=by rw[NM,CC,Jf];rfl
 have q:=ZJ s.1 Yg (λz=>by rw[z] at n2;exact AL n2 ⋯) (k:=1024) ⋯ (by
  rw[n2,show 2*2^1074*2^1024*2^53=2*(2^1024*2^53)*2^1074 by ac_rfl] at ⊢
  exact Ef _ (AA (CQ s.2 (AN (n:=254) (by have gZ:=H.hi;have bE:=H.lo;have:=H.lt;exact(pw [.L .p (.j 63),.L (.j (-63)) .q,.T .q .p] (.l (.b (.A (.A (.j 128) .p) .q)) (.k 254)) [_,_] []) gZ bE this) (Bo MJ))) ⋯))
 refine⟨q.1,Tq (F0 (EG 1074) ?_) s.2⟩
 have w:=q.2
 rw[n2,NM,<-Fc] at w
 rw[CS]
 exact AA w (Bo (by unfold UU;ac_rfl))
theorem iF:Ap (den r g b) (Nn (mo+le)*TT) E1b:=by
 have l:=iE H S
 have c:=Tt.mp l.2
 have hT:=Je
 have c1:(((2*UU+E1:Nat):Int))<TT:=⋯
 have hp:(128+mo+le)*TT=128*TT+(mo+le)*TT:=by rw[<-F2];congr 1;exact(pw [] (.E (.A (.A (.j 128) .p) .q) (.A (.j 128) (.A .p .q))) [_,_] [])
 rw[hp] at c
 unfold den Nn
 rw[sE l.1 lZ]
 by_cases h:val (lgt r g b)<=val M7
 ·rw[AU h]
  have k:mo+le<1:=bJ (by have:=Vv;rw[GU];exact(pw [.a (.L (.g (.n (.A (.m 2 .p) .q))) (.S (.Q .p 2) (.A (.l 128 .q) .r))) (.L (.S (.Q .p 2) (.A (.l 128 .q) .r)) (.n (.A (.m 2 .p) .q))),.T (.n (.A (.m 2 .p) .q)) .q,.L .p .s,.E (.l 2 .s) (.l 128 .q)] (.T .r .q) [_,_,_,_] [_,_]) c c1 h this) ⋯
  have s:=apS H S
  refine⟨s.1,AA ?_ (show E1<=E1b by decide +kernel)⟩
  rw[show(128-if mo+le<0 then -(mo+le) else mo+le)=128+mo+le by split<;>lia]
  exact s.2
 ·rw[Ct h]
  have k: -1<mo+le:=bJ (by have:=Vv;rw[NY,GU];exact(pw [.a (.L (.g (.n (.A (.m 2 .p) .q))) (.S (.Q .p 2) (.A (.l 128 .q) .r))) (.L (.S (.Q .p 2) (.A (.l 128 .q) .r)) (.n (.A (.m 2 .p) .q))),.T (.n (.A (.m 2 .p) .q)) .q,.n (.L .p .s),.E (.l 2 .s) (.l 128 .q)] (.T (.g .q) .r) [_,_,_,_] [_,_]) c c1 h this) ⋯
  have t:Ap Lj (256*TT) 0:=⟨Yg,by decide +kernel⟩
  have q1:=Ap.sub t (tX H S) (by rw[show Q mo=(64+mo)*TT from rfl,<-Dj];exact AA (B5 (AN (n:=256) (by have jf:=H.hi;have lS:=H.lo;have:=H.lt;exact(pw [.L .p (.j 63),.L (.j (-63)) .q,.T .q .p] (.l (.b (.S (.j 256) (.A (.j 64) .p))) (.k 256)) [_,_] []) jf lS this) (Bo MJ)) (AP _)) ⋯)
  have q2:=Ap.sub q1 (xS H S) (by rw[show Q mo=(64+mo)*TT from rfl,show Q le=(64+le)*TT from rfl,<-Dj,<-Dj];exact AA (B5 (AN (n:=256) (by have Tu:=H.hi;have xU:=H.lo;have:=H.lt;exact(pw [.L .p (.j 63),.L (.j (-63)) .q,.T .q .p] (.l (.b (.S (.S (.j 256) (.A (.j 64) .p)) (.A (.j 64) .q))) (.k 256)) [_,_] []) Tu xU this) (Bo MJ)) (AP _)) ⋯)
  have e: 256*TT-Q mo-Q le=(128-if mo+le<0 then -(mo+le) else mo+le)*TT:=by
   rw[show Q mo=(64+mo)*TT from rfl,show Q le=(64+le)*TT from rfl,<-Dj,<-Dj]
   congr 1
   split<;>lia
  rw[e] at q2
  exact q2
omit S in
theorem ZP: 1<=Nn (mo+le)/\Nn (mo+le)<=256/\(mo-le).natAbs<=1*(Nn (mo+le)).natAbs/\(Nn (mo+le)).natAbs<=128:=by
 have th9:=H.hi;have xV:=H.lo;have:=H.lt
 unfold Nn
 split<;>lia
theorem sG:Aq (sat r g b) (mo-le) (Nn (mo+le)) E2b:=
 have N:=ZP H
 quot (apR H S) (iF H S) N.1 N.2.1 (AA N.2.2.1 (Ef _ ⋯)) ⋯ ⋯
theorem l0:Fn (mul (BG (2^20)) (lgt r g b))/\EW Ow (mul (BG (2^20)) (lgt r g b))=2^12*(128+mo+le):=by
 have l:=iE H S
 have hl:(val (lgt r g b)).natAbs<=2^1076:=by
  have t:=CQ l.2 (AN (n:=254) (by have sH:=H.hi;have AbY:=H.lo;have:=H.lt;exact(pw [.L .p (.j 63),.L (.j (-63)) .q,.T .q .p] (.l (.b (.A (.A (.j 128) .p) .q)) (.k 254)) [_,_] []) sH AbY this) (Bo MJ))
  rw[CC] at t
  exact AA (Rm _ ⋯) (AA t ⋯)
 have q:=Ye l.1 (i:=2^20) ⋯ (k:=1044) ⋯ (AA (AN hl (AP _)) ⋯)
 refine⟨q.1,P9 q.1 ?_⟩
 generalize val (mul (BG (2^20)) (lgt r g b))=z at q ⊢
 have e:(z-2^12*(128+mo+le)*SS)*2=(z-val (lgt r g b)*2^20)*2+(val (lgt r g b)*2-(128+mo+le)*TT)*2^20:=by
  rw[oK,Dj,Dj,Dj,show val (lgt r g b)*2^20*2=val (lgt r g b)*2*2^20 by ac_rfl,show 2^12*(128+mo+le)*(128*TT)*2=(128+mo+le)*TT*(2^12*128*2) by ac_rfl]
  exact(pw [] (.E (.S (.Q .p 2) (.Q .q (2^12*128*2))) (.A (.S (.Q .p 2) (.Q (.Q .r 2) (2^20))) (.S (.Q (.Q .r 2) (2^20)) (.Q .q (2^20))))) [_,_,_] [])
 have w:=AA (E0 _ _) (B5 (AN q.2 (AP (2:Int).natAbs)) (AN l.2 (AP ((2:Int)^20).natAbs)))
 rw[<-e,CC,Dv] at w
 exact CE w ⋯
theorem l3:Fn (mul (mul (BG (2^20)) (sat r g b)) (BG (Nn (mo+le))))/\EW Ow (mul (mul (BG (2^20)) (sat r g b)) (BG (Nn (mo+le))))=2^20*(mo-le):=by
 have N:=ZP H
 have s:=sG H S
 have a0:=AA (s.abs N.1 N.2.2.1) (show 1*2^1074+E2b<=2^1075 by decide +kernel)
 have q1:=Ye s.1 (i:=2^20) ⋯ (k:=1044) ⋯ (AA (AN a0 (AP _)) ⋯)
 have a1:=AA (CQ q1.2 (AN a0 (AP _))) (show 2^1075*((2:Int)^20).natAbs+2^1044<=2^1096 by decide +kernel)
 have q2:=iC q1.1 (AA N.2.2.2 ⋯) (k:=1052) ⋯ (AA (AN a1 N.2.2.2) ⋯)
 refine⟨q2.1,P9 q2.1 ?_⟩
 generalize val (mul (mul (BG (2^20)) (sat r g b)) (BG (Nn (mo+le))))=z2 at*
 generalize val (mul (BG (2^20)) (sat r g b))=z1 at*
 rw[show z2-2^20*(mo-le)*SS=(z2-z1*Nn (mo+le))+((z1-val (sat r g b)*2^20)*Nn (mo+le)+(val (sat r g b)*Nn (mo+le)-(mo-le)*SS)*2^20) by
  rw[Dj,Dj,show val (sat r g b)*2^20*Nn (mo+le)=val (sat r g b)*Nn (mo+le)*2^20 by ac_rfl,show(mo-le)*SS*2^20=2^20*(mo-le)*SS by ac_rfl];exact(pw [] (.E (.S .p .q) (.A (.S .p .r) (.A (.S .r (.Q .s (2^20))) (.S (.Q .s (2^20)) .q)))) [_,_,_,_] [])]
 have w:=AA (E0 _ _) (B5 q2.2 (AA (E0 _ _) (B5 (AN q1.2 N.2.2.2) (AN s.2 (AP ((2:Int)^20).natAbs)))))
 exact CE (JA 2 w) ⋯
theorem sI:ZM (tm r g b) (tM r g b)=false/\Iv (dR r g b)=false/\Iv (den r g b)=false:=by
 have c:∀{x:Al}{A:Int}{e:Nat},Ap x (A*TT) e->e<2^1067->1<=A->val x≠0:=λ{x A e} h he hA z=>by
  have:=h.lo
  have:=Qr hA (show(0:Int)<=TT by decide +kernel)
  have:=Je
  rw[z] at*
  lia
 refine⟨?_,oM (c (apR H S) ⋯ (wB H).1),oM (c (iF H S) ⋯ (ZP H).1)⟩
 rw[Yh (xS H S).1 (tX H S).1]
 exact Ct λe=>AL (Jt (xS H S) (tX H S) e) (by have:=H.lt;exact(pw [.T .p .q] (.n (.E .p .q)) [_,_] []) this)
end
end
section
set_option exponentiation.threshold 3000
open PySem.Float64 PySem
def Qa(l m:Nat->Nat)(i:Nat):Al:=OM ([(l 0:Int),l 1,l 2,m 0,m 1,m 2].getD i 0) 64
noncomputable def aV(l m:Nat->Nat):List Int:=[1,l 0,l 1,l 2,m 0,m 1,m 2]
theorem Yi(hl:∀k,l k<=63)(hm:∀k,m k<=63)(h:Tr x k=true):Fn (x.f (Qa l m))/\(val (x.f (Qa l m))-dot (tV k) (aV l m)).natAbs<=EE:=by
 have n:∀i,([(l 0:Int),l 1,l 2,m 0,m 1,m 2].getD i 0).natAbs<=2^53:=λi=>by
  match i with
  |0=>exact AA (hl 0) ⋯
  |1=>exact AA (hl 1) ⋯
  |2=>exact AA (hl 2) ⋯
  |3=>exact AA (hm 0) ⋯
  |4=>exact AA (hm 1) ⋯
  |5=>exact AA (hm 2) ⋯
  |_+6=>exact Co _
 have W:Wn (aV l m) BB:=⟨AP _,hl 0,hl 1,hl 2,hm 0,hm 1,hm 2,trivial⟩
 have z:=Fx.near W (λi=>AbQ (n i)) (λw=>by show w*1+0=w;rw[Fd,Ej]) x (bt h).1
 refine⟨z.1,?_⟩
 have q:=ZK (P8 x.l (X9 (tV k))) (aV l m) BB W
 rw[GO,NK] at q
 have t:=Tq z.2 (Int.sub_eq_add_neg▸q)
 rw[Ga] at t
 exact AA t (Bn (bt h).2)
theorem iG(a b:Int):(2:Int)^1073+(-TT*a+TT*b)=Q (b-a):=by
 rw[show(2:Int)^1073=64*TT by decide +kernel]
 unfold Q
 generalize TT=t
 grind
theorem seen(hl:∀k,l k<=63)(hm:∀k,m k<=63):Sn (rX.f (Qa l m)) (gX.f (Qa l m)) (bX.f (Qa l m)) (m 0-l 0) (m 1-l 1) (m 2-l 2):=by
 have hr:=Yi hl hm sf;have hg:=Yi hl hm sg;have hb:=Yi hl hm sj
 have e0:dot (tV 0) (aV l m)=Q (m 0-l 0):=by
  rw[<-iG]
  show 2^1073*1+(-TT*(l 0:Int)+(0*_+(0*_+(TT*(m 0:Int)+(0*_+(0*_+0))))))=_
  simp only[DW,Dn,Ej,Fd]
 have e1:dot (tV 1) (aV l m)=Q (m 1-l 1):=by
  rw[<-iG]
  show 2^1073*1+(0*_+(-TT*(l 1:Int)+(0*_+(0*_+(TT*(m 1:Int)+(0*_+0))))))=_
  simp only[DW,Dn,Ej,Fd]
 have e2:dot (tV 2) (aV l m)=Q (m 2-l 2):=by
  rw[<-iG]
  show 2^1073*1+(0*_+(0*_+(-TT*(l 2:Int)+(0*_+(0*_+(TT*(m 2:Int)+0))))))=_
  simp only[DW,Dn,Ej,Fd]
 rw[e0] at hr;rw[e1] at hg;rw[e2] at hb
 exact⟨hr,hg,hb⟩
noncomputable def FH(a b:Int):Int:=if b<a then b else a
noncomputable def GP(a b:Int):Int:=if a<b then b else a
theorem l4(a b:Int):FH a b<=a/\FH a b<=b/\(FH a b=a\/FH a b=b):=by
 unfold FH;split
 ·exact⟨Ed ‹b<a›,DC b,.inr rfl⟩
 ·exact⟨DC a,DD.mp ‹¬b<a›,.inl rfl⟩
theorem l6(a b:Int):a<=GP a b/\b<=GP a b/\(GP a b=a\/GP a b=b):=by
 unfold GP;split
 ·exact⟨Ed ‹a<b›,DC b,.inr rfl⟩
 ·exact⟨DC a,DD.mp ‹¬a<b›,.inl rfl⟩
noncomputable def xW(a:Int):Int:=if a<0 then -a else a
noncomputable def VL(X w:Int)(lamp:Nat):Int:=(X-2*(lamp:Int)*w).fmod (6*w)
def Lk(X w:Int)(lamp:Nat):Aa:=decide (2*FH (VL X w lamp) (6*w-VL X w lamp)<w)
def shr(X w:Int)(lamp:Nat):Int:=FH w (GP 0 (xW (VL X w lamp-3*w)-w))
theorem sJ(hB: 1<=B):VL (2^20*(K+6*B*j)) (2^20*B) lamp=2^20*((K-2*(lamp:Int)*B)%(6*B)):=by
 unfold VL
 rw[NS _ (by exact(pw [.L (.j 1) .p] (.L (.j 0) (.l 6 (.l (2^20) .p))) [_] []) hB),show 2^20*(K+6*B*j)-2*(lamp:Int)*(2^20*B)=2^20*((K-2*(lamp:Int)*B)+(6*B)*j) by grind,
  show 6*(2^20*B)=2^20*(6*B) by ac_rfl,Int.mul_emod_mul_of_pos _ _ ⋯,Int.add_mul_emod_self_left]
def tY(y B:Int):Aa:=decide (2*FH y (6*B-y)<B)
def tZ(y B:Int):Int:=FH B (GP 0 (xW (y-3*B)-B))
theorem l7(h:VL X w lamp=2^20*y)(hw:w=2^20*B):Lk X w lamp=tY y B/\shr X w lamp=2^20*tZ y B:=by
 have mn:∀a b:Int,FH (2^20*a) (2^20*b)=2^20*FH a b:=λa b=>by unfold FH;split<;>split<;>lia
 have mx:∀b:Int,GP 0 (2^20*b)=2^20*GP 0 b:=λb=>by unfold GP;split<;>split<;>lia
 have ab:∀a:Int,xW (2^20*a)=2^20*xW a:=λa=>by unfold xW;split<;>split<;>lia
 have s:∀a b:Int,2^20*a-2^20*b=2^20*(a-b):=λa b=>(V7 _ _ _).symm
 have m:∀k:Int,k*(2^20*B)=2^20*(k*B):=λk=>Int.mul_left_comm _ _ _
 unfold Lk shr tY tZ
 rw[h,hw,m,m,s,s,mn,ab,s,mx,mn]
 refine⟨OE.mpr ?_,rfl⟩
 lia
noncomputable def yy(K B:Int)(lamp:Nat):Int:=(K-2*(lamp:Int)*B)%(6*B)
def l8(s0 s1 s2 le B K:Int):Aa:=(tY (yy K B 0) B==(decide (s1<0)&&decide (s2<0))&&(tY (yy K B 1) B==(decide (s0<0)&&decide (s2<0))&&tY (yy K B 2) B==(decide (s0<0)&&decide (s1<0))))&&
 (tZ (yy K B 0) B==s0-le&&(tZ (yy K B 1) B==s1-le&&tZ (yy K B 2) B==s2-le))
def xX(s0 s1 s2:Int):Aa:=
 let mo:=GP (GP s0 s1) s2
 let le:=FH (FH s0 s1) s2
 cond (decide (le<mo)) ((!decide (mo=s0)||l8 s0 s1 s2 le (mo-le) (s1-s2))&&((!decide (mo=s1)||l8 s0 s1 s2 le (mo-le) (2*(mo-le)+s2-s0))&&(!decide (mo=s2)||l8 s0 s1 s2 le (mo-le) (4*(mo-le)+s0-s1)))) true
def AbZ:Aa:=(Cn 73).all λa=>(Cn 73).all λb=>cond (Bf 36 (a+b)&&Bf (a+b) 108) (xX ((a:Int)-36) ((b:Int)-36) (72-a-b)) true
theorem l9:AbZ=true:=⋯
theorem ma(H:tW s0 s1 s2 mo le)(hz:s0+s1+s2=0)(h0: -36<=s0/\s0<=36)(h1: -36<=s1/\s1<=36)(h2: -36<=s2/\s2<=36)(hK:KK s0 s1 s2 mo (mo-le) K):l8 s0 s1 s2 le (mo-le) K=true:=by
 have c:=BV.mp (BV.mp l9 (s0+36).toNat (Ff.mpr ((pw [.a (.L (.j (-36)) .p) (.L .p (.j 36))] (.t (.d (.A .p (.j 36))) (.k 73)) [_] []) h0))) (s1+36).toNat (Ff.mpr ((pw [.a (.L (.j (-36)) .p) (.L .p (.j 36))] (.t (.d (.A .p (.j 36))) (.k 73)) [_] []) h1))
 rw[Lw.mpr ⟨JT (by exact(pw [.E (.A (.A .p .q) .r) (.j 0),.a (.L (.j (-36)) .r) (.L .r (.j 36))] (.l (.k 36) (.A (.d (.A .p (.j 36))) (.d (.A .q (.j 36))))) [_,_,_] []) hz h2),JT (by exact(pw [.E (.A (.A .p .q) .r) (.j 0),.a (.L (.j (-36)) .q) (.L .q (.j 36)),.a (.L (.j (-36)) .r) (.L .r (.j 36))] (.l (.A (.d (.A .p (.j 36))) (.d (.A .q (.j 36)))) (.k 108)) [_,_,_] []) hz h1 h2)⟩] at c
 have e0:(((s0+36).toNat:Nat):Int)-36=s0:=(pw [.a (.L (.j (-36)) .p) (.L .p (.j 36))] (.E (.S (.n (.d (.A .p (.j 36)))) (.j 36)) .p) [_] []) h0
 have e1:(((s1+36).toNat:Nat):Int)-36=s1:=(pw [.a (.L (.j (-36)) .p) (.L .p (.j 36))] (.E (.S (.n (.d (.A .p (.j 36)))) (.j 36)) .p) [_] []) h1
 have e2:(72:Int)-((s0+36).toNat:Nat)-((s1+36).toNat:Nat)=s2:=(pw [.E (.A (.A .p .q) .r) (.j 0),.E (.S (.n (.d (.A .p (.j 36)))) (.j 36)) .p,.E (.S (.n (.d (.A .q (.j 36)))) (.j 36)) .q] (.E (.S (.S (.j 72) (.n (.d (.A .p (.j 36))))) (.n (.d (.A .q (.j 36))))) .r) [_,_,_] []) hz e0 e1
 rw[e0,e1,e2] at c
 have c:=c
 have em:GP (GP s0 s1) s2=mo:=by
  have VJ:=H.h0;have VK:=H.h1;have gZ:=H.h2;have:=H.top
  unfold GP;split<;>split<;>lia
 have el:FH (FH s0 s1) s2=le:=by
  have bE:=H.h0;have jf:=H.h1;have lS:=H.h2;have:=H.bot
  unfold FH;split<;>split<;>lia
 unfold xX at c
 dsimp only at c
 rw[em,el,AU H.lt] at c
 have c:=bt c
 have d:=bt c.2
 have u:∀{p:Prop} [Sj p] {q:Aa},(!decide p||q)=true->p->q=true:=λh hp=>by rw[AU hp] at h;exact h
 exact hK.elim (λh=>h.2▸u c.1 h.1) λh=>h.elim (λh=>h.2▸u d.1 h.1) λh=>h.2▸u d.2 h.1
structure Vw(X w:Int)(s0 s1 s2 le:Int):Prop where
 n0:Lk X w 0=(decide (s1<0)&&decide (s2<0))
 n1:Lk X w 1=(decide (s0<0)&&decide (s2<0))
 n2:Lk X w 2=(decide (s0<0)&&decide (s1<0))
 h0:shr X w 0=2^20*(s0-le)
 h1:shr X w 1=2^20*(s1-le)
 h2:shr X w 2=2^20*(s2-le)
theorem md(H:tW s0 s1 s2 mo le)(hz:s0+s1+s2=0)(h0: -36<=s0/\s0<=36)(h1: -36<=s1/\s1<=36)(h2: -36<=s2/\s2<=36)(hK:KK s0 s1 s2 mo (mo-le) K):Vw (2^20*(K+6*(mo-le)*j)) (2^20*(mo-le)) s0 s1 s2 le:=by
 have c:=bt (ma H hz h0 h1 h2 hK)
 have a:=bt c.1;have a':=bt a.2;have b:=bt c.2;have b':=bt b.2
 have n:∀lamp:Nat,Lk (2^20*(K+6*(mo-le)*j)) (2^20*(mo-le)) lamp=tY (yy K (mo-le) lamp) (mo-le)/\shr (2^20*(K+6*(mo-le)*j)) (2^20*(mo-le)) lamp=2^20*tZ (yy K (mo-le) lamp) (mo-le):=λlamp=>l7 (sJ (Int.le_sub_left_of_add_le H.lt)) rfl
 exact⟨(n 0).1.trans (eq_of_beq a.1),(n 1).1.trans (eq_of_beq a'.1),(n 2).1.trans (eq_of_beq a'.2),(n 0).2.trans (Ai (2^20 * ·) (eq_of_beq b.1)),(n 1).2.trans (Ai (2^20 * ·) (eq_of_beq b'.1)),(n 2).2.trans (Ai (2^20 * ·) (eq_of_beq b'.2))⟩
end
section
open PySem PySem.W PyProof.Rows
def Ab0:FI:=jd (FT 85)
def MK:FI:=jd (FT 92)
def s92(i:Nat):Az:=Bb (E9 MK.body) i
noncomputable def rY(y i q:Al):Al:=Dl (Dl y (Cq 4606703976345377586 i)) (Cq 4603791717925830846 q)
noncomputable def gY(y i q:Al):Al:=Bg (Bg y (Cq 4598621754083818298 i)) (Cq 4603901015759978483 q)
noncomputable def bY(y i q:Al):Al:=Dl (Bg y (Cq 4607671262177584182 i)) (Cq 4610375502138591871 q)
noncomputable def xY(y i q r g b:Al):Lo:=[("y",.AS y),("i",.AS i),("q",.AS q),("r",.AS r),("g",.AS g),("b",.AS b)]
def sM(x:Al):Prop:=oLt (Em x 0)=false/\yF (Em x Cg)=false
theorem Vx{lo:Lo}(h:s=.If (BU s) (B3 s) (lO s) (bB s))(hT:(ev n).T fr lo S (BU s)=some ⟨t,S⟩)(ht:t=false)(hB:lO s=[]):(ev (n+1)).X fr lo S s=some ⟨.next,lo,S⟩:=
 (K1 (b:=false) h (ht▸hT)).trans (Ai (Xs (ev n) fr lo S) hB)
section
variable{k wr n:Nat}{y i q r g b:Al}{H:List AO}{ob:Aa}
theorem f85(hr:sM (rY y i q))(hg:sM (gY y i q))(hb:sM (bY y i q)):A9 (ev (k+6)) wr (.val (.ref 85)) [.AS y,.AS i,.AS q] [] ⟨H,ob⟩=some ⟨.tup [.AS (rY y i q),.AS (gY y i q),.AS (bY y i q)],⟨H,ob⟩⟩:=by
 refine(show A9 (ev (k+6)) wr (.val (.ref 85)) [.AS y,.AS i,.AS q] [] ⟨H,ob⟩=CM (ev (k+6)) Ab0 [.AS y,.AS i,.AS q] [] wr ⟨H,ob⟩ from ⋯).trans ?_
 refine Jq (binds:=[("y",.AS y),("i",.AS i),("q",.AS q)]) (lo:=[("y",.AS y),("i",.AS i),("q",.AS q)]) (Bv:=xY y i q (rY y i q) (gY y i q) (bY y i q)) (fl:=.ret (.tup [.AS (rY y i q),.AS (gY y i q),.AS (bY y i q)])) ⋯ ⋯ ⋯ ⋯ ⋯ ?_ rfl rfl
 refine(Ak (lo1:=[("y",.AS y),("i",.AS i),("q",.AS q),("r",.AS (rY y i q))]) (S1:=⟨H,ob⟩) ⋯ ⋯).trans ((Ak (lo1:=[("y",.AS y),("i",.AS i),("q",.AS q),("r",.AS (rY y i q)),("g",.AS (gY y i q))]) (S1:=⟨H,ob⟩) ⋯ ⋯).trans ((Ak (lo1:=xY y i q (rY y i q) (gY y i q) (bY y i q)) (S1:=⟨H,ob⟩) ⋯ ⋯).trans ?_))
 generalize rY y i q=r at*
 generalize gY y i q=g at*
 generalize bY y i q=b at*
 refine(Ak ⋯ (Vx ⋯ ⋯ hr.1 ⋯)).trans ((Ak ⋯ (Vx ⋯ ⋯ hg.1 ⋯)).trans ((Ak ⋯ (Vx ⋯ ⋯ hb.1 ⋯)).trans ?_))
 refine(Ak ⋯ (Vx ⋯ ⋯ hr.2 ⋯)).trans ((Ak ⋯ (Vx ⋯ ⋯ hg.2 ⋯)).trans ((Ak ⋯ (Vx ⋯ ⋯ hb.2 ⋯)).trans ?_))
 kernel_rfl
noncomputable def me(r g b M m su ra l:Al):Lo:=[("r",.AS r),("g",.AS g),("b",.AS b),("maxc",.AS M),("minc",.AS m),("sumc",.AS su),("rangec",.AS ra),("l",.AS l)]
def QZ(r g b M m su ra l s:Al):Lo:=A8 (me r g b M m su ra l) [("s",.AS s)]
def ZQ(r g b M m su ra l s c1 c2 c3:Al):Lo:=A8 (QZ r g b M m su ra l s) [("rc",.AS c1),("gc",.AS c2),("bc",.AS c3)]
def iH(r g b M m su ra l s c1 c2 c3 h:Al):Lo:=A8 (ZQ r g b M m su ra l s c1 c2 c3) [("h",.AS h)]
theorem p92:Xs (ev (k+10)) (Au MK n wr) [("r",.AS r),("g",.AS g),("b",.AS b)] ⟨H,ob⟩ ((E9 MK.body).take 5)=some ⟨.next,me r g b (tM r g b) (tm r g b) (dS r g b) (dR r g b) (lgt r g b),⟨H,ob⟩⟩:=⋯
theorem q92(hz:Gg (cond (sA l M7) su (Bg (Bg Lj M) m))=false):(ev (k+10)).X (Au MK n wr) (me r g b M m su ra l) ⟨H,ob⟩ (s92 6)=some ⟨.next,QZ r g b M m su ra l (Cr ra (cond (sA l M7) su (Bg (Bg Lj M) m))),⟨H,ob⟩⟩:=by
 refine(K1 (b:=sA l M7) (S1:=⟨H,ob⟩) ⋯ ⋯).trans ?_
 cases h:sA l M7 with
 |true=>
  rw[h] at hz
  refine(show _=some (⟨.next,QZ r g b M m su ra l (Cr ra su),⟨H,!Float64.isZero su&&ob⟩⟩ :Rx) from ⋯).trans ?_
  rw[show Gg su=false from hz];rfl
 |false=>
  rw[h] at hz
  refine(show _=some (⟨.next,QZ r g b M m su ra l (Cr ra (Bg (Bg Lj M) m)),⟨H,!Float64.isZero (Bg (Bg Lj M) m)&&ob⟩⟩ :Rx) from ⋯).trans ?_
  rw[show Gg (Bg (Bg Lj M) m)=false from hz];rfl
def hhC(r g M c1 c2 c3:Al):Al:=cond (ZM r M) (Bg c3 c2) (cond (ZM g M) (Bg (Dl Lj c1) c3) (Bg (Dl Vr c2) c1))
theorem h92:(ev (k+10)).X (Au MK n wr) (ZQ r g b M m su ra l s c1 c2 c3) ⟨H,ob⟩ (s92 10)=some ⟨.next,iH r g b M m su ra l s c1 c2 c3 (hhC r g M c1 c2 c3),⟨H,ob⟩⟩:=by
 refine(K1 (b:=ZM r M) (S1:=⟨H,ob⟩) ⋯ ⋯).trans ?_
 unfold hhC
 cases ZM r M with
 |true=>kernel_rfl
 |false=>
  refine(Ak (lo1:=iH r g b M m su ra l s c1 c2 c3 (cond (ZM g M) (Bg (Dl Lj c1) c3) (Bg (Dl Vr c2) c1))) (S1:=⟨H,ob⟩) ⋯ ?_).trans ⋯
  refine(K1 (b:=ZM g M) (S1:=⟨H,ob⟩) ⋯ ⋯).trans ?_
  cases ZM g M with
  |true=>kernel_rfl
  |false=>kernel_rfl
theorem c92(hz:Gg ra=false):Xs (ev (k+10)) (Au MK n wr) (QZ r g b M m su ra l s) ⟨H,ob⟩ (((E9 MK.body).drop 7).take 3)=some ⟨.next,ZQ r g b M m su ra l s (Cr (Bg M r) ra) (Cr (Bg M g) ra) (Cr (Bg M b) ra),⟨H,ob⟩⟩:=by
 refine(show _=some (⟨.next,ZQ r g b M m su ra l s (Cr (Bg M r) ra) (Cr (Bg M g) ra) (Cr (Bg M b) ra),⟨H,!Float64.isZero ra&&(!Float64.isZero ra&&(!Float64.isZero ra&&ob))⟩⟩ :Rx) from ⋯).trans ?_
 rw[hz];rfl
theorem f92(h1:ZM (tm r g b) (tM r g b)=false)(h2:Gg (dR r g b)=false)(h3:Gg (den r g b)=false):A9 (ev (k+10)) wr (.val (.ref 92)) [.AS r,.AS g,.AS b] [] ⟨H,ob⟩=some ⟨.tup [.AS (HO r g b),.AS (lgt r g b),.AS (sat r g b)],⟨H,ob⟩⟩:=by
 refine(show A9 (ev (k+10)) wr (.val (.ref 92)) [.AS r,.AS g,.AS b] [] ⟨H,ob⟩=CM (ev (k+10)) MK [.AS r,.AS g,.AS b] [] wr ⟨H,ob⟩ from ⋯).trans ?_
 have w:Xs (ev (k+10)) (Au MK H.length wr) (me r g b (tM r g b) (tm r g b) (dS r g b) (dR r g b) (lgt r g b)) ⟨H,ob⟩ ((E9 MK.body).drop 5)=some ⟨.ret (.tup [.AS (HO r g b),.AS (lgt r g b),.AS (sat r g b)]),iH r g b (tM r g b) (tm r g b) (dS r g b) (dR r g b) (lgt r g b) (sat r g b) (ZO r g b r) (ZO r g b g) (ZO r g b b) (HO r g b),⟨H,ob⟩⟩:=by
  refine(Ak ⋯ (Vx ⋯ ⋯ h1 ⋯)).trans ?_
  refine(Ak ⋯ (q92 h3)).trans ?_
  refine Hd (show _=Xs (ev (k+10)) (Au MK H.length wr) (QZ r g b (tM r g b) (tm r g b) (dS r g b) (dR r g b) (lgt r g b) (sat r g b)) ⟨H,ob⟩ (((E9 MK.body).drop 7).take 3++((E9 MK.body).drop 7).drop 3) by rw[H4];kernel_rfl) ((Jb (c92 h2)).trans ?_)
  refine(Ak ⋯ (h92)).trans ?_
  generalize tM r g b=M;generalize tm r g b=m;generalize dS r g b=su;generalize dR r g b=ra
  unfold HO
  generalize zc r g b=hh;generalize sat r g b=sa;generalize lgt r g b=li;generalize ZO r g b r=c1;generalize ZO r g b g=c2;generalize ZO r g b b=c3
  kernel_rfl
 refine Jq (binds:=[("r",.AS r),("g",.AS g),("b",.AS b)]) ⋯ ⋯ ⋯ ⋯ ⋯ (Hd (Ai (Xs (ev (k+10)) _ _ _) (H4 5 _).symm) ((Jb p92).trans w)) rfl rfl
end
def Qb:FI:=jd (FT 289)
def Ll(i:Nat):Az:=Bb (E9 Qb.body) i
abbrev N4(n:Nat):Prop:=n=69\/n=70\/n=71\/n=72
noncomputable def ZN(z:Nat->AO)(n:Nat):List AO:=(Cn n).map z
def HV(z:Nat->AO)(n:Nat)(c d e f:Ab AV)(rs:List AO):List AO:=ZN z n++(.cell c::.cell d::.cell e::.cell f::rs)
structure T3(α:Type) where
 a:α
 b:α
 c:α
def T3.i(t:T3 Int):AV:=.lst [.int t.a,.int t.b,.int t.c]
def T3.f(t:T3 Al):AV:=.tup [.AS t.a,.AS t.b,.AS t.c]
def xZ(l m:T3 Int)(o n g:T3 Al):Lo:=[("light",l.i),("other",m.i),("own",o.f),("beyond",n.f),("grey",g.f)]
def Eo(l m:T3 Int):T3 Int:=⟨m.a-l.a,m.b-l.b,m.c-l.c⟩
def T3.mo(t:T3 Int):Int:=GP (GP t.a t.b) t.c
def T3.le(t:T3 Int):Int:=FH (FH t.a t.b) t.c
def Tv(l m:T3 Int)(o n g:T3 Al)(s:T3 Int)(mo:Int):Lo:=A8 (xZ l m o n g) [("steps",s.i),("most",.int mo)]
def De(n:Nat):FD:=Au Qb n n
noncomputable def sO(o n g:Al):Al:=Dl (Cr (Bg n o) (DH 2)) g
def Qc(o n g:T3 Al):T3 Al:=⟨sO o.a n.a g.a,sO o.b n.b g.b,sO o.c n.c g.c⟩
def sP(l m:T3 Int)(o n g:T3 Al)(s:T3 Int)(mo:Int)(y:T3 Al):Lo:=A8 (Tv l m o n g s mo) [("y",.AS y.a),("i",.AS y.b),("q",.AS y.c)]
def sQ(l m:T3 Int)(o n g:T3 Al)(s:T3 Int)(mo:Int)(y r:T3 Al):Lo:=A8 (sP l m o n g s mo y) [("red",.AS r.a),("green",.AS r.b),("blue",.AS r.c)]
def Yj(l m:T3 Int)(o n g:T3 Al)(s:T3 Int)(mo:Int)(y r:T3 Al)(li sa:Al):Lo:=A8 (sQ l m o n g s mo y r) [("lightness",.AS li),("saturation",.AS sa)]
noncomputable def r2:List AO:=[.raw 2]
noncomputable def r3:List AO:=[.raw 2,.raw 3]
theorem oN{lo:Lo}(h:s=.Assign [.Tuple (C0 (BU s)) (y9 (BU s)) (Jy (BU s))] (Cm s) (bB s))(ht:aa (Cm s)=none)(hE:(ev k).E fr lo S (Cm s)=some ⟨v,S1⟩)(hv:jC v=some vs):(ev (k+1)).X fr lo S s=Hl (KH fr lo S1 (C0 (BU s)) vs):=by
 refine(Ai ((ev (k+1)).X fr lo S) h).trans ?_
 show d8 (ev k) fr lo S (C0 (BU s)) (Cm s)=_
 unfold d8
 rw[ht]
 rw[hE]
 show(jC v).bind (λvs=>Hl (KH fr lo S1 (C0 (BU s)) vs))=_
 rw[hv]
 rfl
section
variable{z:Nat->AO}{n:Nat}{l m s:T3 Int}{ow be gr y r:T3 Al}{ob:Aa}{mo le w:Int}{hu li sa:Al}
theorem v1(hn:N4 n):Xs (ev 115) (De n) (xZ l m ow be gr) ⟨HV z n none none none none [],ob⟩ ((E9 Qb.body).take 3)=some ⟨.next,Tv l m ow be gr (Eo l m) (Eo l m).mo,⟨HV z n (some (.int (Eo l m).le)) (some (.int (2^20*((Eo l m).mo-(Eo l m).le)))) none none r2,obs [AM ((Eo l m).mo-(Eo l m).le)] ob⟩⟩:=by
 rcases hn with rfl | rfl | rfl | rfl<;>kernel_rfl
theorem v3(hn:N4 n)(hw:w≠0):(ev 115).X (De n) (Tv l m ow be gr s mo) ⟨HV z n (some (.int le)) (some (.int w)) none none r2,ob⟩ (Ll 3)=some ⟨.next,Tv l m ow be gr s mo,⟨HV z n (some (.int le)) (some (.int w)) none none r2,ob⟩⟩:=by
 refine Vx ⋯ ?_ (Ct hw) ⋯
 rcases hn with rfl | rfl | rfl | rfl<;>kernel_rfl
theorem v4(hn:N4 n):(ev 115).X (De n) (Tv l m ow be gr s mo) ⟨HV z n (some (.int le)) (some (.int w)) none none r2,ob⟩ (Ll 4)=some ⟨.next,sP l m ow be gr s mo (Qc ow be gr),⟨HV z n (some (.int le)) (some (.int w)) none none r3,ob⟩⟩:=by
 rcases hn with rfl | rfl | rfl | rfl<;>kernel_rfl
def iI(y:T3 Al):T3 Al:=⟨rY y.a y.b y.c,gY y.a y.b y.c,bY y.a y.b y.c⟩
theorem v5(hr:sM (iI y).a)(hg:sM (iI y).b)(hb:sM (iI y).c):(ev 115).X (De n) (sP l m ow be gr s mo y) ⟨HV z n (some (.int le)) (some (.int w)) none none r3,ob⟩ (Ll 5)=some ⟨.next,sQ l m ow be gr s mo y (iI y),⟨HV z n (some (.int le)) (some (.int w)) none none r3,ob⟩⟩:=
 (oN ⋯ ⋯ ((CH (S1:=⟨HV z n (some (.int le)) (some (.int w)) none none r3,ob⟩) (S2:=⟨HV z n (some (.int le)) (some (.int w)) none none r3,ob⟩) ⋯ ⋯ ⋯ ⋯ ⋯ ⋯).trans (f85 hr hg hb)) rfl).trans ⋯
theorem v6(hn:N4 n)(h1:ZM (tm r.a r.b r.c) (tM r.a r.b r.c)=false)(h2:Gg (dR r.a r.b r.c)=false)(h3:Gg (den r.a r.b r.c)=false):
  (ev 115).X (De n) (sQ l m ow be gr s mo y r) ⟨HV z n (some (.int le)) (some (.int w)) none none r3,ob⟩ (Ll 6)=some ⟨.next,Yj l m ow be gr s mo y r (lgt r.a r.b r.c) (sat r.a r.b r.c),⟨HV z n (some (.int le)) (some (.int w)) (some (.AS (HO r.a r.b r.c))) none r3,ob⟩⟩:=by
 refine(oN ⋯ ⋯ ((CH (S1:=⟨HV z n (some (.int le)) (some (.int w)) none none r3,ob⟩) (S2:=⟨HV z n (some (.int le)) (some (.int w)) none none r3,ob⟩) ⋯ ⋯ ⋯ ⋯ ⋯ ⋯).trans (f92 h1 h2 h3)) rfl).trans ?_
 generalize HO r.a r.b r.c=hu;generalize lgt r.a r.b r.c=li;generalize sat r.a r.b r.c=sa
 rcases hn with rfl | rfl | rfl | rfl<;>kernel_rfl
noncomputable def XX(hu:Al)(w:Int):Int:=EW Mf (Cq (Cq (DH 6) hu) (DH w))
def x3(hu:Al)(w:Int):List Aa:=[0,1,2].flatMap λ_:Nat=>[DJ w,Iu (Cq (Cq (DH 6) hu) (DH w)),AM w,AM w,decide (6*w≠0)]
def trV(X w:Int):AV:=.lst [.int (VL X w 0),.int (VL X w 1),.int (VL X w 2)]
theorem v7(hn:N4 n):(ev 115).X (De n) (Yj l m ow be gr s mo y r li sa) ⟨HV z n (some (.int le)) (some (.int w)) (some (.AS hu)) none r3,ob⟩ (Ll 7)=some ⟨.next,Yj l m ow be gr s mo y r li sa,⟨HV z n (some (.int le)) (some (.int w)) (some (.AS hu)) (some (trV (XX hu w) w)) r3,obs (x3 hu w) ob⟩⟩:=by
 rcases hn with rfl | rfl | rfl | rfl<;>kernel_rfl
end
section
variable{n:Nat}{fr:FD}{lo lo1:Lo}{S S1 S2:St}
theorem iJ(h:s=.Assign [.Name (Bw (BU s)) (Jy (BU s))] (Cm s) (bB s))(h':Cm s=.ListComp (XZ (Cm s)) [⟨VH (Cm s),bg (Cm s),TM (Cm s),0⟩] (FG (Cm s)) (y8 (Cm s)))
  (hc:MQ (ev n) fr lo S (XZ (Cm s)) [⟨VH (Cm s),bg (Cm s),TM (Cm s),0⟩] (FG (Cm s))=some ⟨v,S1⟩):(ev (n+1)).X fr lo S s=Hl (putN fr lo S1 (Bw (BU s)) v):=by
 refine(Ai ((ev (n+1)).X fr lo S) h).trans ?_
 show OX (ev n) fr lo S (Bw (BU s)) (Cm s)=_
 unfold OX
 rw[Ai MP h']
 show(MQ (ev n) fr lo S (XZ (Cm s)) [⟨VH (Cm s),bg (Cm s),TM (Cm s),0⟩] (FG (Cm s))).bind (λv=>Hl (putN fr lo v.S (Bw (BU s)) v.v))=_
 rw[hc]
 rfl
theorem yb(h:e=.BoolOp .And [CA (C0 e) 0,CA (C0 e) 1] (Jy e))(h1:(ev n).E fr lo S (CA (C0 e) 0)=some ⟨.bool true,S1⟩):(ev (n+1)).E fr lo S e=(ev n).E fr lo S1 (CA (C0 e) 1):=
 (Ai ((ev (n+1)).E fr lo S) h).trans (Ai (λo:Ab (Rt AV)=>o.bind λx=>(boolOf x.v).bind λb=>cond b ((ev n).E fr lo x.S (CA (C0 e) 1)) (some ⟨.bool false,x.S⟩)) h1)
theorem Ab1(h:s=.Return (some (Cm s)) (bB s))(hE:(ev n).E fr lo S (Cm s)=some ⟨v,S1⟩):(ev (n+1)).X fr lo S s=some ⟨.ret v,lo,S1⟩:=
 (Ai ((ev (n+1)).X fr lo S) h).trans (Ai (λo:Ab (Rt AV)=>o.bind λx=>some (⟨.ret x.v,lo,x.S⟩ :Rx)) hE)
theorem Ab2(h:e=.Tuple (C0 e) (y9 e) (Jy e))(hn:noStar 200 (C0 e)=true)(ha:Ji (ev n) fr lo S (C0 e)=some ⟨vs,S1⟩):(ev (n+1)).E fr lo S e=some ⟨.tup vs,S1⟩:=
 (Ai ((ev (n+1)).E fr lo S) h).trans ((Ai (λz=>Af z ((Ji (ev n) fr lo S (C0 e)).bind λx=>some (⟨.tup x.v,x.S⟩ :Rt AV))) hn).trans (Ai (λo:Ab (Rt (List AV))=>o.bind λx=>some (⟨.tup x.v,x.S⟩ :Rt AV)) ha))
end
theorem mf{s:Nat}(H:List AO)(i:Nat):Src.at H i (.Gw 0 s 1)=some ((Cn s).map λ(q:Nat)=>AV.int q)[i]?:=by
 by_cases h:i<s
 ·rw[X8 h,F3,b7 h] at ⊢;rfl
 ·rw[H5 (by rw[AY,GV];exact N6 h)] at ⊢
  exact Ai (λz=>some (cond z (some (AV.int (0+1*(i:Int)))) none)) (Ct (show ¬ (0:Int)<E4 0 s 1-i by rw[rs0];exact(pw [.n (.t .p .q)] (.n (.T (.j 0) (.S (.n .q) (.n .p)))) [] [_,_]) h))
section
variable{z:Nat->AO}{n:Nat}{l m s:T3 Int}{ow be gr y r:T3 Al}{ob:Aa}{mo le w X:Int}{hu li sa:Al}{nr:AV}{sh:T3 Int}{W1 W2:Int}
def e8:Expr:=Cm (Ll 8)
def fc8(n:Nat):List (Str×Nat):=(Cy (De n) (FG e8).names []).getD []
abbrev HW(z:Nat->AO)(n:Nat)(le w:Int)(hu:Al)(X:Int):List AO:=HV z n (some (.int le)) (some (.int w)) (some (.AS hu)) (some (trV X w)) r3
theorem M8{P:Nat->Prop}(h0:P 0)(h1:P 1)(h2:P 2):∀p,p<3->P p
 |0,_=>h0 | 1,_=>h1 | 2,_=>h2
 |_+3,h=>AL (H8 3 _) (H7 h)
theorem sR{r:Ev}{lo:Lo}{l:List Expr}(h:l=[CA l 0])(hT:r.T fr lo S (CA l 0)=some ⟨b,S1⟩):SE r fr lo S l=some ⟨b,S1⟩:=by
 refine(Ai (SE r fr lo S) h).trans ((Ai (λo:Ab (Rt Aa)=>o.bind λx=>cond x.v (some (⟨true,x.S⟩ :Rt Aa)) (some x)) hT).trans ?_)
 rcases b with ⟨⟩<;>rfl
theorem t8(hn:N4 n){acc:List AV}:∀q:Nat,q<3->(ev 114).T (DK (De n) (n+6) (FG e8) (fc8 n)) [("lamp",.int q)] ⟨HW z n le w hu X++[.list acc],ob⟩ (CA (TM e8) 0)=some ⟨Lk X w q,⟨HW z n le w hu X++[.list acc],obs [AM w,AM (FH (VL X w q) (6*w-VL X w q))] ob⟩⟩:=by
 rcases hn with rfl | rfl | rfl | rfl<;>exact M8 ⋯ ⋯ ⋯
def nrV(X w:Int):AV:=.lst (([0,1,2].filter (Lk X w)).map λ(q:Nat)=>.int q)
theorem v8(hn:N4 n)(hs:∀q,q<3->AM w=true/\AM (FH (VL X w q) (6*w-VL X w q))=true):(ev 115).X (De n) (Yj l m ow be gr s mo y r li sa) ⟨HW z n le w hu X,ob⟩ (Ll 8)=some ⟨.next,A8 (Yj l m ow be gr s mo y r li sa) [("near",nrV X w)],⟨HW z n le w hu X,ob⟩⟩:=by
 have hl:(HW z n le w hu X).length=n+6:=by unfold HW HV ZN;rw[BO,AY,GV];rfl
 have c:=Ht (n:=114) (fr:=De n) (lo:=Yj l m ow be gr s mo y r li sa) (e:=e8) (S0:=⟨HW z n le w hu X,ob⟩) (H:=HW z n le w hu X) (b:=ob) (Q:=Cn 3) (w:=λq=>.int q) (fc:=fc8 n)
  ⋯ (by rcases hn with rfl | rfl | rfl | rfl<;>kernel_rfl) ⋯ (by rcases hn with rfl | rfl | rfl | rfl<;>kernel_rfl) ⋯ ⋯ (λi acc=>mf _ i) (λq _ lo acc h=>by obtain rfl | ⟨q',rfl⟩:=h<;>kernel_rfl)
  (λq hq acc=>by
   have hq:=Ff.mp hq
   have t:=t8 (z:=z) (le:=le) (w:=w) (hu:=hu) (X:=X) (ob:=ob) (acc:=acc) hn q hq
   rw[Es (AB (hs q hq).1 (AB (hs q hq).2 FZ))] at t
   rw[hl]
   exact sR ⋯ t) (λq _ _ acc=>⋯) (λq _ H'=>rfl)
 exact(iJ (n:=114) ⋯ ⋯ c).trans ⋯
def yc(l m:T3 Int)(o n g:T3 Al)(s:T3 Int)(mo:Int)(y r:T3 Al)(li sa:Al)(nr:AV):Lo:=A8 (Yj l m o n g s mo y r li sa) [("near",nr)]
def sS(l m:T3 Int)(o n g:T3 Al)(s:T3 Int)(mo:Int)(y r:T3 Al)(li sa:Al)(nr:AV)(sh:T3 Int):Lo:=A8 (yc l m o n g s mo y r li sa nr) [("shares",sh.i)]
def shT(X w:Int):T3 Int:=⟨shr X w 0,shr X w 1,shr X w 2⟩
theorem v9(hn:N4 n):(ev 115).X (De n) (yc l m ow be gr s mo y r li sa nr) ⟨HW z n le w hu X,ob⟩ (Ll 9)=some ⟨.next,sS l m ow be gr s mo y r li sa nr (shT X w),⟨HW z n le w hu X,obs [AM w,AM w,AM w] ob⟩⟩:=by
 rcases hn with rfl | rfl | rfl | rfl<;>kernel_rfl
def Qd(l m:T3 Int)(o n g:T3 Al)(s:T3 Int)(mo:Int)(y r:T3 Al)(li sa:Al)(nr:AV)(sh:T3 Int)(W1 W2:Int):Lo:=A8 (sS l m o n g s mo y r li sa nr sh) [("whole",.lst [.int W1,.int W2])]
noncomputable def ze(li:Al):Al:=Cq (DH (2^20)) li
def zf(sa:Al)(k:Int):Al:=Cq (Cq (DH (2^20)) sa) (DH (Nn k))
theorem v10(hn:N4 n):(ev 115).X (De n) (sS l m ow be gr s mo y r li sa nr sh) ⟨HW z n le w hu X,ob⟩ (Ll 10)=some ⟨.next,Qd l m ow be gr s mo y r li sa nr sh (EW Mf (ze li)) (EW Mf (zf sa (mo+le))),⟨HW z n le w hu X,obs [Iu (ze li),DJ (Nn (mo+le)),Iu (zf sa (mo+le))] ob⟩⟩:=by
 rcases hn with rfl | rfl | rfl | rfl<;>kernel_rfl
def zg(hu:Al):Aa:=yF (Gh hu 0)||oEq (Gh hu 0)
def zh(hu:Al):Aa:=oLt (Gh hu 1)||oEq (Gh hu 1)
def e11(i:Nat):Expr:=CA (C0 (Cm (Ll 11))) i
theorem v11(hn:N4 n)(h1:zg hu=true)(h2:zh hu=true)(hs:AM (128+mo+le)=true):(ev 115).X (De n) (Qd l m ow be gr s mo y r li sa nr sh (2^12*(128+mo+le)) w) ⟨HW z n le w hu X,ob⟩ (Ll 11)=some ⟨.next,A8 (Qd l m ow be gr s mo y r li sa nr sh (2^12*(128+mo+le)) w) [("exact",.bool true)],⟨HW z n le w hu X,ob⟩⟩:=by
 have a:(ev 113).E (De n) (Qd l m ow be gr s mo y r li sa nr sh (2^12*(128+mo+le)) w) ⟨HW z n le w hu X,ob⟩ (e11 0)=some ⟨.bool true,⟨HW z n le w hu X,ob⟩⟩:=by
  refine(show _=cond (zg hu) (some (⟨.bool (zh hu),⟨HW z n le w hu X,ob⟩⟩ :Rt AV)) (some ⟨.bool false,⟨HW z n le w hu X,ob⟩⟩) from by rcases hn with rfl | rfl | rfl | rfl<;>kernel_rfl).trans ?_
  rw[h1,h2];rfl
 have b:(ev 112).E (De n) (Qd l m ow be gr s mo y r li sa nr sh (2^12*(128+mo+le)) w) ⟨HW z n le w hu X,ob⟩ (Ec (e11 1))=some ⟨.lst [.int (2^12*(128+mo+le)),.int w],⟨HW z n le w hu X,ob⟩⟩:=by
  refine(show _=some (⟨.lst [.int (2^12*(128+mo+le)),.int w],⟨HW z n le w hu X,AM (128+mo+le)&&ob⟩⟩ :Rt AV) from by rcases hn with rfl | rfl | rfl | rfl<;>kernel_rfl).trans ?_
  rw[hs];rfl
 have c:(ev 113).E (De n) (Qd l m ow be gr s mo y r li sa nr sh (2^12*(128+mo+le)) w) ⟨HW z n le w hu X,ob⟩ (e11 1)=some ⟨.bool true,⟨HW z n le w hu X,ob⟩⟩:=
  ia (v1:=.lst [.int (2^12*(128+mo+le)),.int w]) ⋯ ⋯ ⋯ b .Eq ⋯
   (by show some (decide (2^12*(128+mo+le)=2^12*(128+mo+le))&&(decide (w=w)&&true))=_;rw[AU rfl,AU rfl];rfl)
 exact(oF ⋯ ⋯ ⋯ ⋯ ⋯ ⋯ ((yb ⋯ a).trans c)).trans ⋯
def Vy(l m:T3 Int)(o n g:T3 Al)(s:T3 Int)(mo:Int)(y r:T3 Al)(li sa:Al)(nr:AV)(sh:T3 Int)(W1 W2:Int):Lo:=A8 (Qd l m o n g s mo y r li sa nr sh W1 W2) [("exact",.bool true)]
def kL(i:Nat):Expr:=CA (C0 (Cm (Ll 12))) i
def TQ(s:T3 Int)(le:Int):T3 Int:=⟨2^20*(s.a-le),2^20*(s.b-le),2^20*(s.c-le)⟩
theorem v12(hn:N4 n)(hs:AM (s.a-le)=true/\AM (s.b-le)=true/\AM (s.c-le)=true):(ev 115).X (De n) (Vy l m ow be gr s mo y r li sa nr (TQ s le) W1 W2) ⟨HW z n le w hu X,ob⟩ (Ll 12)=some ⟨.ret (.tup [nr,.bool true]),Vy l m ow be gr s mo y r li sa nr (TQ s le) W1 W2,⟨HW z n le w hu X,ob⟩⟩:=by
 have b:(ev 111).E (De n) (Vy l m ow be gr s mo y r li sa nr (TQ s le) W1 W2) ⟨HW z n le w hu X,ob⟩ (Ec (CA (C0 (kL 1)) 1))=some ⟨(TQ s le).i,⟨HW z n le w hu X,ob⟩⟩:=by
  refine(show _=some (⟨(TQ s le).i,⟨HW z n le w hu X,obs [AM (s.a-le),AM (s.b-le),AM (s.c-le)] ob⟩⟩ :Rt AV) from by rcases hn with rfl | rfl | rfl | rfl<;>kernel_rfl).trans ?_
  rw[Es (AB hs.1 (AB hs.2.1 (AB hs.2.2 FZ)))]
 have c:(ev 112).E (De n) (Vy l m ow be gr s mo y r li sa nr (TQ s le) W1 W2) ⟨HW z n le w hu X,ob⟩ (CA (C0 (kL 1)) 1)=some ⟨.bool true,⟨HW z n le w hu X,ob⟩⟩:=
  ia (v1:=(TQ s le).i) ⋯ ⋯ ⋯ b .Eq ⋯
   (by show some (decide ((TQ s le).a=(TQ s le).a)&&(decide ((TQ s le).b=(TQ s le).b)&&(decide ((TQ s le).c=(TQ s le).c)&&true)))=_;rw[AU rfl,AU rfl,AU rfl];rfl)
 exact Ab1 ⋯ (Ab2 ⋯ ⋯ (CB (S1:=⟨HW z n le w hu X,ob⟩) ⋯ ⋯ (Dg ⋯ ((yb ⋯ ⋯).trans c))))
end
section
set_option exponentiation.threshold 3000
theorem bF(h:x.natAbs<=2^40):AM x=true:=AU (CE h ⋯)
theorem smF(h:x.natAbs<=2^40):DJ x=true:=AU (CE h ⋯)
theorem sT(h:Fn x):Iu x=true:=h.elim λ_ q=>q.elim λ_ q=>q.elim λ_ q=>by unfold Iu;rw[q]
theorem Yk(h:Ap x (Q s) EE)(h1: -63<=s)(h2:s<=63):sM x:=by
 have hT:=Je
 have a:TT<=Q s:=by have:=Jd h1;rw[show Q (-63)=TT by decide +kernel] at this;exact this
 have b:Q s<=127*TT:=by have:=Jd h2;rw[show Q 63=127*TT by decide +kernel] at this;exact this
 have c:((EE:Nat):Int)<TT:=⋯
 have lo:=h.lo;have hi:=h.hi
 have f0:Fn (0:Al):=Kw ⋯
 have v0:Mg (0:Al)=0:=⋯
 constructor
 ·rw[Ky h.1 f0,v0]
  refine Gx.mpr λw=>?_
  have:=JO.mp (AQ (eq_of_beq w))
  exact(pw [.L .p .q,.T (.n .p) .p,.L (.S .q (.n .p)) .r,.T .r (.j 0)] .f [_,_,_] [_]) a c lo this
 ·rw[Ky h.1 sr,Li,oK]
  refine Gx.mpr λw=>?_
  have:=NU.mp (AQ (eq_of_beq w))
  exact(pw [.L .p (.l 127 .q),.T (.n .p) .q,.L .r (.A .p (.n .p)),.T (.l 128 .q) .r] .f [_,_,_] [_]) b c hi this
theorem ZR(h:Fn x)(i:Int):Gh x i=some (compare (Mg x) (i*SS)):=h.elim λ_ q=>q.elim λ_ q=>q.elim λ_ q=>Float64.cmpInt_right q i
theorem sU(h:Fn x)(h0: 0<=Mg x):zg x=true:=by
 unfold zg
 rw[ZR h,DW]
 rcases V1 0 (Mg x) with q | q | q
 ·rw[NU.mpr q];rfl
 ·rw[<-q];rfl
 ·exact((pw [.L (.j 0) .p,.T .p (.j 0)] .f [_] []) h0 q).elim
theorem sV(h:Fn x)(h0:Mg x<=SS):zh x=true:=by
 unfold zh
 rw[ZR h,GU]
 rcases V1 (Mg x) SS with q | q | q
 ·rw[JO.mpr q];rfl
 ·rw[q,Q5.mpr rfl];rfl
 ·exact((pw [.L .p .q,.T .q .p] .f [_,_] []) h0 q).elim
theorem sW(hw: 0<w)(q:Nat): 0<=VL X w q/\VL X w q<6*w:=by
 unfold VL
 rw[NS _ (by exact(pw [.T (.j 0) .p] (.L (.j 0) (.l 6 .p)) [_] []) hw)]
 exact⟨Lz _ ((pw [.T (.j 0) .p] (.n (.E (.l 6 .p) (.j 0))) [_] []) hw),Lx _ ((pw [.T (.j 0) .p] (.T (.j 0) (.l 6 .p)) [_] []) hw)⟩
def Dm(a:Nat->Nat):T3 Al:=
 let r:=OM (a 0) 64;let g:=OM (a 1) 64;let b:=OM (a 2) 64
 let y:=Dl (Dl (Cq 4599075939470750515 r) (Cq 4603489467105573601 g)) (Cq 4592590756007337001 b)
 ⟨y,Bg (Cq 4604840546993784750 (Bg r y)) (Cq 4598535507515466056 (Bg b y)),Dl (Cq 4602318531202457272 (Bg r y)) (Cq 4601057523306793533 (Bg b y))⟩
def FF:T3 Al:=⟨tU.f λ_=>0,(iX iA tU iA).f λ_=>0,(qX iA tU iA).f λ_=>0⟩
noncomputable def AZ(a:Nat->Nat):T3 Int:=⟨a 0,a 1,a 2⟩
theorem iK(a b:Nat->Nat):iI (Qc (Dm a) (Dm b) FF)=⟨rX.f (Qa a b),gX.f (Qa a b),bX.f (Qa a b)⟩:=⋯
def M9(s:T3 Int):Nat->Aa
 |0=>decide (s.b<0)&&decide (s.c<0)
 |1=>decide (s.a<0)&&decide (s.c<0)
 |_=>decide (s.a<0)&&decide (s.b<0)
def DT(s:T3 Int):AV:=.lst (([0,1,2].filter (M9 s)).map λ(q:Nat)=>.int q)
structure mh(a b:Nat->Nat):Prop where
 ha:∀k,a k<=36
 hb:∀k,b k<=36
 sum:a 0+a 1+a 2=b 0+b 1+b 2
section
variable{z:Nat->AO}{n:Nat}{a b:Nat->Nat}{ob:Aa}{wr:Nat}
theorem oO(hn:N4 n)(hX:Xs (ev 115) (De n) (xZ l m o' b' g') ⟨HV z n none none none none [],ob⟩ (E9 Qb.body)=some ⟨.ret v,Bv,S2⟩)(hz:fz 6 n S2.H v=some v):A9 (ev 115) wr (.val (.ref 289)) [l.i,m.i,o'.f,b'.f,g'.f] [] ⟨ZN z n,ob⟩=some ⟨v,⟨ZN z n,S2.ob⟩⟩:=by
 refine(show A9 (ev 115) wr (.val (.ref 289)) [l.i,m.i,o'.f,b'.f,g'.f] [] ⟨ZN z n,ob⟩=CM (ev 115) Qb [l.i,m.i,o'.f,b'.f,g'.f] [] wr ⟨ZN z n,ob⟩ from ⋯).trans ?_
 have hf:Au Qb n wr=De n:=⋯
 exact X4 (binds:=xZ l m o' b' g') (Bv:=Bv) (by unfold ZN;rw[AY,GV]) ⋯ ⋯ ⋯ ⋯ (hf▸hX) rfl hz
theorem ZS:fz (k+3) n H (.tup [DT s,.bool true])=some (.tup [DT s,.bool true]):=by
 have e:fz (k+2) n H (DT s)=some (DT s):=by
  show(Gn (fz (k+1) n H) (([0,1,2].filter (M9 s)).map λ(q:Nat)=>AV.int q)).bind (λys=>some (AV.lst ys))=_
  rw[Th λx hx=>(CD.mp hx).elim λq hq=>hq.2▸rfl]
  rfl
 show((fz (k+2) n H (DT s)).bind λb=>some [b,AV.bool true]).bind (λys=>some (AV.tup ys))=_
 rw[e]
 rfl
theorem mm(a b c:Int):(FH (FH a b) c<=a/\a<=GP (GP a b) c)/\(FH (FH a b) c<=b/\b<=GP (GP a b) c)/\(FH (FH a b) c<=c/\c<=GP (GP a b) c):=
 have p:=l4 a b;have q:=l4 (FH a b) c;have r:=l6 a b;have s:=l6 (GP a b) c
 ⟨⟨BA q.1 p.1,BA r.1 s.1⟩,⟨BA q.1 p.2.1,BA r.2.1 s.1⟩,q.2.1,s.2.1⟩
theorem Ab7(a b c:Int):GP (GP a b) c=a\/GP (GP a b) c=b\/GP (GP a b) c=c:=
 (l6 (GP a b) c).2.2.elim (λe=>(l6 a b).2.2.elim (λf=>.inl (e.trans f)) λf=>.inr (.inl (e.trans f))) λe=>.inr (.inr e)
theorem Ab8(a b c:Int):FH (FH a b) c=a\/FH (FH a b) c=b\/FH (FH a b) c=c:=
 (l4 (FH a b) c).2.2.elim (λe=>(l4 a b).2.2.elim (λf=>.inl (e.trans f)) λf=>.inr (.inl (e.trans f))) λe=>.inr (.inr e)
theorem sX(L:mh a b)(h:(Eo (AZ a) (AZ b)).le<(Eo (AZ a) (AZ b)).mo):tW ((b 0:Int)-a 0) ((b 1:Int)-a 1) ((b 2:Int)-a 2) (Eo (AZ a) (AZ b)).mo (Eo (AZ a) (AZ b)).le:=by
 have a0:=L.ha 0;have a1:=L.ha 1;have a2:=L.ha 2;have b0:=L.hb 0;have b1:=L.hb 1;have b2:=L.hb 2
 change FH (FH ((b 0:Int)-a 0) ((b 1:Int)-a 1)) ((b 2:Int)-a 2)<GP (GP ((b 0:Int)-a 0) ((b 1:Int)-a 1)) ((b 2:Int)-a 2) at h
 show tW _ _ _ (GP (GP ((b 0:Int)-a 0) ((b 1:Int)-a 1)) ((b 2:Int)-a 2)) (FH (FH ((b 0:Int)-a 0) ((b 1:Int)-a 1)) ((b 2:Int)-a 2))
 generalize e0:(b 0:Int)-a 0=s0 at*
 generalize e1:(b 1:Int)-a 1=s1 at*
 generalize e2:(b 2:Int)-a 2=s2 at*
 have c0: -36<=s0/\s0<=36:=(pw [.l .p (.k 36),.l .q (.k 36),.E (.S (.n .q) (.n .p)) .p] (.a (.L (.j (-36)) .p) (.L .p (.j 36))) [_] [_,_]) a0 b0 e0
 have c1: -36<=s1/\s1<=36:=(pw [.l .p (.k 36),.l .q (.k 36),.E (.S (.n .q) (.n .p)) .p] (.a (.L (.j (-36)) .p) (.L .p (.j 36))) [_] [_,_]) a1 b1 e1
 have c2: -36<=s2/\s2<=36:=(pw [.l .p (.k 36),.l .q (.k 36),.E (.S (.n .q) (.n .p)) .p] (.a (.L (.j (-36)) .p) (.L .p (.j 36))) [_] [_,_]) a2 b2 e2
 have m:=mm s0 s1 s2;have tp:=Ab7 s0 s1 s2;have bo:=Ab8 s0 s1 s2
 generalize FH (FH s0 s1) s2=le at *;generalize GP (GP s0 s1) s2=mo at*
 exact⟨m.1,m.2.1,m.2.2,tp,bo,h,tp.elim (λe=>e▸BA c0.2 ⋯) λe=>e.elim (λe=>e▸BA c1.2 ⋯) λe=>e▸BA c2.2 ⋯,
  bo.elim (λe=>e▸BA ⋯ c0.1) λe=>e.elim (λe=>e▸BA ⋯ c1.1) λe=>e▸BA ⋯ c2.1⟩
theorem mj(hn:N4 n)(L:mh a b)(h:(Eo (AZ a) (AZ b)).le<(Eo (AZ a) (AZ b)).mo):
  A9 (ev 115) wr (.val (.ref 289)) [(AZ a).i,(AZ b).i,(Dm a).f,(Dm b).f,FF.f] [] ⟨ZN z n,ob⟩=some ⟨.tup [DT (Eo (AZ a) (AZ b)),.bool true],⟨ZN z n,ob⟩⟩:=by
 have H:=sX L h
 have S:=seen (λk=>AA (L.ha k) ⋯) (λk=>AA (L.hb k) ⋯)
 have eR:=iK a b
 generalize ho:Dm a=o';generalize yM:Dm b=be;generalize hg:FF=gr
 rw[ho,yM,hg] at eR
 generalize hs:Eo (AZ a) (AZ b)=s at*
 have sa:s.a=(b 0:Int)-a 0:=by rw[<-hs];rfl
 have sb:s.b=(b 1:Int)-a 1:=by rw[<-hs];rfl
 have sc:s.c=(b 2:Int)-a 2:=by rw[<-hs];rfl
 rw[<-sa,<-sb,<-sc] at H S
 have hz:s.a+s.b+s.c=0:=by have:=L.sum;exact(pw [.E .p (.S (.n .p) (.n .q)),.E .q (.S (.n .r) (.n .s)),.E .r (.S (.n .t) (.n .u)),.e (.A (.A .q .s) .u) (.A (.A .p .r) .t)] (.E (.A (.A .p .q) .r) (.j 0)) [_,_,_] [_,_,_,_,_,_]) sa sb sc this
 have bd:(-36<=s.a/\s.a<=36)/\(-36<=s.b/\s.b<=36)/\(-36<=s.c/\s.c<=36):=by
  have a0:=L.ha 0;have a1:=L.ha 1;have a2:=L.ha 2;have b0:=L.hb 0;have b1:=L.hb 1;have b2:=L.hb 2
  exact(pw [.E .p (.S (.n .p) (.n .q)),.E .q (.S (.n .r) (.n .s)),.E .r (.S (.n .t) (.n .u)),.l .q (.k 36),.l .s (.k 36),.l .u (.k 36),.l .p (.k 36),.l .r (.k 36),.l .t (.k 36)] (.a (.a (.L (.j (-36)) .p) (.L .p (.j 36))) (.a (.a (.L (.j (-36)) .q) (.L .q (.j 36))) (.a (.L (.j (-36)) .r) (.L .r (.j 36))))) [_,_,_] [_,_,_,_,_,_]) sa sb sc a0 a1 a2 b0 b1 b2
 generalize rX.f (Qa a b)=r at *;generalize gX.f (Qa a b)=g at *;generalize bX.f (Qa a b)=bl at*
 have rA:=Ai T3.a eR
 have rB:=Ai T3.b eR
 have rC:=Ai T3.c eR
 have mr:=Yk S.r ((pw [.a (.a (.L (.j (-36)) .p) (.L .p (.j 36))) (.a (.a (.L (.j (-36)) .q) (.L .q (.j 36))) (.a (.L (.j (-36)) .r) (.L .r (.j 36))))] (.L (.j (-63)) .p) [_,_,_] []) bd) ((pw [.a (.a (.L (.j (-36)) .p) (.L .p (.j 36))) (.a (.a (.L (.j (-36)) .q) (.L .q (.j 36))) (.a (.L (.j (-36)) .r) (.L .r (.j 36))))] (.L .p (.j 63)) [_,_,_] []) bd);have mg:=Yk S.g ((pw [.a (.a (.L (.j (-36)) .p) (.L .p (.j 36))) (.a (.a (.L (.j (-36)) .q) (.L .q (.j 36))) (.a (.L (.j (-36)) .r) (.L .r (.j 36))))] (.L (.j (-63)) .q) [_,_,_] []) bd) ((pw [.a (.a (.L (.j (-36)) .p) (.L .p (.j 36))) (.a (.a (.L (.j (-36)) .q) (.L .q (.j 36))) (.a (.L (.j (-36)) .r) (.L .r (.j 36))))] (.L .q (.j 63)) [_,_,_] []) bd);have mb:=Yk S.b ((pw [.a (.a (.L (.j (-36)) .p) (.L .p (.j 36))) (.a (.a (.L (.j (-36)) .q) (.L .q (.j 36))) (.a (.L (.j (-36)) .r) (.L .r (.j 36))))] (.L (.j (-63)) .r) [_,_,_] []) bd) ((pw [.a (.a (.L (.j (-36)) .p) (.L .p (.j 36))) (.a (.a (.L (.j (-36)) .q) (.L .q (.j 36))) (.a (.L (.j (-36)) .r) (.L .r (.j 36))))] (.L .r (.j 63)) [_,_,_] []) bd)
 have nz:=sI H S
 refine(sD H S).elim λK q=>q.elim λj q=>?_
 have V:=md (j:=j) H hz bd.1 bd.2.1 bd.2.2 q.1
 have B:=wB H;have N:=ZP H
 have tu:=Aq.turn q.2.1 q.2.2.1 q.2.2.2 B.2.2 ⋯
 have li:=l0 H S;have si:=l3 H S
 have hB: 0<2^20*(s.mo-s.le):=(pw [.a (.L (.j 1) (.S .p .q)) (.a (.L (.S .p .q) (.j 256)) (.l (.b (.S .p .q)) (.k 128)))] (.T (.j 0) (.l (2^20) (.S .p .q))) [_,_] []) B
 generalize hw: 2^20*(s.mo-s.le)=w at*
 have wb:w.natAbs<=2^27:=(pw [.a (.L (.j 1) .p) (.a (.L .p (.j 256)) (.a (.l (.b (.S .q .r)) (.m 1 (.b .p))) (.l (.b .p) (.k 128)))),.E (.l (2^20) (.S .q .r)) .s] (.l (.b .s) (.k (2^27))) [_,_,_,_] []) N hw
 have x1:=v1 (z:=z) (l:=AZ a) (m:=AZ b) (ow:=o') (be:=be) (gr:=gr) (ob:=ob) hn
 rw[hs,hw,Es (AB (bF (by exact(pw [.E (.l (2^20) (.S .p .q)) .r,.l (.b .r) (.k (2^27))] (.l (.b (.S .p .q)) (.k (2^40))) [_,_,_] []) hw wb)) FZ)] at x1
 have x5:=v5 (z:=z) (n:=n) (l:=AZ a) (m:=AZ b) (s:=s) (ow:=o') (be:=be) (gr:=gr) (y:=Qc o' be gr) (ob:=ob) (mo:=s.mo) (le:=s.le) (w:=w) (rA.symm▸mr) (rB.symm▸mg) (rC.symm▸mb)
 rw[eR] at x5
 have x6:=v6 (z:=z) (l:=AZ a) (m:=AZ b) (s:=s) (ow:=o') (be:=be) (gr:=gr) (y:=Qc o' be gr) (r:=⟨r,g,bl⟩) (ob:=ob) (mo:=s.mo) (le:=s.le) (w:=w) hn nz.1 nz.2.1 nz.2.2
 have x7:=v7 (z:=z) (l:=AZ a) (m:=AZ b) (s:=s) (ow:=o') (be:=be) (gr:=gr) (y:=Qc o' be gr) (r:=⟨r,g,bl⟩) (ob:=ob) (mo:=s.mo) (le:=s.le) (w:=w) (hu:=HO r g bl) (li:=lgt r g bl) (sa:=sat r g bl) hn
 have o7:obs (x3 (HO r g bl) w) ob=ob:=by
  have c1:=smF (x:=w) (AA wb ⋯);have c2:=sT tu.1;have c3:=bF (x:=w) (AA wb ⋯)
  have c4:decide (6*w≠0)=true:=AU (by exact(pw [.T (.j 0) .p] (.n (.E (.l 6 .p) (.j 0))) [_] []) hB)
  exact Es (AB c1 (AB c2 (AB c3 (AB c3 (AB c4 (AB c1 (AB c2 (AB c3 (AB c3 (AB c4 (AB c1 (AB c2 (AB c3 (AB c3 (AB c4 FZ)))))))))))))))
 rw[o7,show XX (HO r g bl) w=2^20*(K+6*(s.mo-s.le)*j) from tu.2] at x7
 generalize hX: 2^20*(K+6*(s.mo-s.le)*j)=X at*
 have x8:=v8 (z:=z) (l:=AZ a) (m:=AZ b) (s:=s) (ow:=o') (be:=be) (gr:=gr) (y:=Qc o' be gr) (r:=⟨r,g,bl⟩) (ob:=ob) (mo:=s.mo) (le:=s.le) (w:=w) (X:=X) (hu:=HO r g bl) (li:=lgt r g bl) (sa:=sat r g bl) hn (λq _=>⟨bF (AA wb ⋯),bF (by have:=sW (X:=X) hB q;unfold FH;split<;>lia)⟩)
 have e8:nrV X w=DT s:=by
  unfold nrV DT
  rw[show[0,1,2].filter (Lk X w)=[0,1,2].filter (M9 s) from List.filter_congr λq hq=>by
   simp only[Bc,N1,OF] at hq
   rcases hq with rfl | rfl | rfl
   ·exact V.n0
   ·exact V.n1
   ·exact V.n2]
 rw[e8] at x8
 have x9:=v9 (z:=z) (l:=AZ a) (m:=AZ b) (s:=s) (ow:=o') (be:=be) (gr:=gr) (y:=Qc o' be gr) (r:=⟨r,g,bl⟩) (ob:=ob) (mo:=s.mo) (le:=s.le) (w:=w) (X:=X) (hu:=HO r g bl) (li:=lgt r g bl) (sa:=sat r g bl) (nr:=DT s) hn
 have cw:=bF (x:=w) (AA wb ⋯)
 rw[Es (AB cw (AB cw (AB cw FZ))),show shT X w=TQ s s.le from by unfold shT TQ;rw[V.h0,V.h1,V.h2]] at x9
 have yd:=v10 (z:=z) (l:=AZ a) (m:=AZ b) (s:=s) (ow:=o') (be:=be) (gr:=gr) (y:=Qc o' be gr) (r:=⟨r,g,bl⟩) (ob:=ob) (mo:=s.mo) (le:=s.le) (w:=w) (X:=X) (hu:=HO r g bl) (li:=lgt r g bl) (sa:=sat r g bl) (nr:=DT s) (sh:=TQ s s.le) hn
 have o10:obs [Iu (ze (lgt r g bl)),DJ (Nn (s.mo+s.le)),Iu (zf (sat r g bl) (s.mo+s.le))] ob=ob:=Es (AB (sT li.1) (AB (smF (AA N.2.2.2 ⋯)) (AB (sT si.1) FZ)))
 rw[o10,show EW Mf (ze (lgt r g bl))=2^12*(128+s.mo+s.le) from li.2,show EW Mf (zf (sat r g bl) (s.mo+s.le))=w from si.2] at yd
 have x11:=v11 (z:=z) (l:=AZ a) (m:=AZ b) (s:=s) (ow:=o') (be:=be) (gr:=gr) (y:=Qc o' be gr) (r:=⟨r,g,bl⟩) (ob:=ob) (mo:=s.mo) (le:=s.le) (w:=w) (X:=X) (hu:=HO r g bl) (li:=lgt r g bl) (sa:=sat r g bl) (nr:=DT s) (sh:=TQ s s.le) hn (sU q.2.1.1 q.2.2.1) (sV q.2.1.1 q.2.2.2) (bF (by have VJ:=H.hi;have VK:=H.lo;have:=H.lt;exact(pw [.L .p (.j 63),.L (.j (-63)) .q,.T .q .p] (.l (.b (.A (.A (.j 128) .p) .q)) (.k (2^40))) [_,_] []) VJ VK this))
 have x12:=v12 (z:=z) (l:=AZ a) (m:=AZ b) (s:=s) (ow:=o') (be:=be) (gr:=gr) (y:=Qc o' be gr) (r:=⟨r,g,bl⟩) (ob:=ob) (mo:=s.mo) (le:=s.le) (w:=w) (X:=X) (hu:=HO r g bl) (li:=lgt r g bl) (sa:=sat r g bl) (nr:=DT s) (W1:=2^12*(128+s.mo+s.le)) (W2:=w) hn ⟨bF (by have gZ:=(sC H H.h0).2;have bE:=H.h0;have jf:=H.hi;have lS:=H.lo;exact(pw [.a (.L .p .q) (.L .q .r),.L .r (.j 63),.L (.j (-63)) .p] (.l (.b (.S .q .p)) (.k (2^40))) [_,_,_] []) bE jf lS),bF (by have Tu:=H.h1;have xU:=H.hi;have th9:=H.lo;exact(pw [.a (.L .p .q) (.L .q .r),.L .r (.j 63),.L (.j (-63)) .p] (.l (.b (.S .q .p)) (.k (2^40))) [_,_,_] []) Tu xU th9),bF (by have xV:=H.h2;have sH:=H.hi;have:=H.lo;exact(pw [.a (.L .p .q) (.L .q .r),.L .r (.j 63),.L (.j (-63)) .p] (.l (.b (.S .q .p)) (.k (2^40))) [_,_,_] []) xV sH this)⟩
 refine oO (Bv:=Vy (AZ a) (AZ b) o' be gr s s.mo (Qc o' be gr) ⟨r,g,bl⟩ (lgt r g bl) (sat r g bl) (DT s) (TQ s s.le) (2^12*(128+s.mo+s.le)) w) (S2:=⟨HW z n s.le w (HO r g bl) X,ob⟩) hn (Hd (Ai (Xs (ev 115) _ _ _) (H4 3 _).symm) ((Jb x1).trans ?_)) ZS
 refine(Ak ⋯ (v3 hn (by exact(pw [.T (.j 0) .p] (.n (.E .p (.j 0))) [_] []) hB))).trans ((Ak ⋯ (v4 hn)).trans ((Ak ⋯ x5).trans ((Ak ⋯ x6).trans ((Ak ⋯ x7).trans ((Ak ⋯ x8).trans ((Ak ⋯ x9).trans ((Ak ⋯ yd).trans ((Ak ⋯ x11).trans (Kt ⋯ x12 rfl)))))))))
theorem v3e(hn:N4 n):(ev 115).X (De n) (Tv l m ow be gr s mo) ⟨HV z n (some (.int le)) (some (.int 0)) none none r2,ob⟩ (Ll 3)=some ⟨.ret (.tup [.lst [],.bool true]),Tv l m ow be gr s mo,⟨HV z n (some (.int le)) (some (.int 0)) none none r2,ob⟩⟩:=
 (K1 (b:=true) (S1:=⟨HV z n (some (.int le)) (some (.int 0)) none none r2,ob⟩) ⋯ (by rcases hn with rfl | rfl | rfl | rfl<;>kernel_rfl)).trans ⋯
theorem ml(hn:N4 n)(L:mh a b)(h:¬ (Eo (AZ a) (AZ b)).le<(Eo (AZ a) (AZ b)).mo):
  A9 (ev 115) wr (.val (.ref 289)) [(AZ a).i,(AZ b).i,(Dm a).f,(Dm b).f,FF.f] [] ⟨ZN z n,ob⟩=some ⟨.tup [DT (Eo (AZ a) (AZ b)),.bool true],⟨ZN z n,ob⟩⟩:=by
 have e:Eo (AZ a) (AZ b)=⟨0,0,0⟩:=by
  have L:=L.sum
  change ¬ FH (FH ((b 0:Int)-a 0) ((b 1:Int)-a 1)) ((b 2:Int)-a 2)<GP (GP ((b 0:Int)-a 0) ((b 1:Int)-a 1)) ((b 2:Int)-a 2) at h
  have c:(b 0:Int)-a 0=0/\(b 1:Int)-a 1=0/\(b 2:Int)-a 2=0:=by
   have m:=mm ((b 0:Int)-a 0) ((b 1:Int)-a 1) ((b 2:Int)-a 2)
   have p5:(b 0:Int)-a 0+((b 1:Int)-a 1)+((b 2:Int)-a 2)=0:=(pw [.e (.A (.A .p .q) .r) (.A (.A .s .t) .u)] (.E (.A (.A (.S (.n .s) (.n .p)) (.S (.n .t) (.n .q))) (.S (.n .u) (.n .r))) (.j 0)) [] [_,_,_,_,_,_]) L
   generalize (b 0:Int)-a 0=s0 at *;generalize (b 1:Int)-a 1=s1 at *;generalize (b 2:Int)-a 2=s2 at*
   generalize FH (FH s0 s1) s2=le at *;generalize GP (GP s0 s1) s2=mo at*
   exact(pw [.E (.A (.A .p .q) .r) (.j 0),.n (.T .s .t),.a (.a (.L .s .p) (.L .p .t)) (.a (.a (.L .s .q) (.L .q .t)) (.a (.L .s .r) (.L .r .t)))] (.a (.E .p (.j 0)) (.a (.E .q (.j 0)) (.E .r (.j 0)))) [_,_,_,_,_] []) p5 h m
  show(⟨(b 0:Int)-a 0,(b 1:Int)-a 1,(b 2:Int)-a 2⟩ :T3 Int)=_
  rw[c.1,c.2.1,c.2.2]
 have x1:=v1 (z:=z) (l:=AZ a) (m:=AZ b) (ow:=Dm a) (be:=Dm b) (gr:=FF) (ob:=ob) hn
 rw[e] at x1 ⊢
 generalize Dm a=o' at *;generalize Dm b=be at *;generalize FF=gr at*
 have x1:Xs (ev 115) (De n) (xZ (AZ a) (AZ b) o' be gr) ⟨HV z n none none none none [],ob⟩ ((E9 Qb.body).take 3)=some ⟨.next,Tv (AZ a) (AZ b) o' be gr ⟨0,0,0⟩ 0,⟨HV z n (some (.int 0)) (some (.int 0)) none none r2,ob⟩⟩:=x1.trans ⋯
 exact oO (Bv:=Tv (AZ a) (AZ b) o' be gr ⟨0,0,0⟩ 0) hn (Hd (Ai (Xs (ev 115) _ _ _) (H4 3 _).symm) ((Jb x1).trans (Kt ⋯ (v3e hn) rfl))) ⋯
theorem sY(hn:N4 n)(L:mh a b):A9 (ev 115) wr (.val (.ref 289)) [(AZ a).i,(AZ b).i,(Dm a).f,(Dm b).f,FF.f] [] ⟨ZN z n,ob⟩=some ⟨.tup [DT (Eo (AZ a) (AZ b)),.bool true],⟨ZN z n,ob⟩⟩:=
 (DI ((Eo (AZ a) (AZ b)).le<(Eo (AZ a) (AZ b)).mo)).elim (mj hn L) (ml hn L)
end
end
structure t4 where
 pt:Ab AV
 tol:Ab AV
 gry:Ab AV
 vws:Ab AV
 lmp:Ab AV
def HS(q:Nat->AO)(wd:AV)(nm wl:List AV)(c:t4)(l:B8)(R G B:List Nat)(ζ:Nat->AO)(rs:List AO):List AO:=
 A8 [q 0,.cell (some wd),q 2,.cell (some (.lst nm)),.cell c.pt,.cell c.tol,.cell c.gry,.cell none,.cell c.vws,.cell c.lmp,.cell (some (.loc 14)),q 11,q 12,.list wl,.list (je (A1 l)),q 15,q 16,q 17,q 18,q 19,.list (CP R),.list (CP G),.list (bc (A1 l) B),.list (rL (A1 l) R G B)] (A8 ((Cn 42).map ζ) rs)
noncomputable def oS(q:Nat->AO)(wd:AV)(nm wl:List AV):Nat->AO
 |1=>.cell (some wd)
 |3=>.cell (some (.lst nm))
 |5=>.cell none
 |6=>.cell none
 |7=>.cell none
 |8=>.cell none
 |9=>.cell none
 |13=>.list wl
 |i=>q i
theorem yg(h:Z.length=42):HZ (oS q wd nm wl) (.cell (some (.int 6))) l R G B Z=HS q wd nm wl ⟨some (.int 6),none,none,none,none⟩ l R G B (λi=>Z.getD i .OI) []:=by
 have e:Z=(Cn 42).map λi=>Z.getD i .OI:=by
  refine Rh (by rw[AY,GV,h]) λi h1 h2=>?_
  rw[LI,Rd,HG,HU h1] at ⊢
  rfl
 unfold HZ
 conv=>lhs;rw[e]
 generalize (λi=>Z.getD i AO.OI)=ζ
 kernel_rfl
def Vz(l:B8):AV:=.lst ([0,1,2,3,4,5,6].map λp=>(Dm (l p)).f)
def yh(l:B8):List Aa:=[0,1,2,3,4,5,6].flatMap λp=>[DJ (l p 0:Nat)&&true,DJ (l p 1:Nat)&&true,DJ (l p 2:Nat)&&true]
section
variable{q:Nat->AO}{wd:AV}{nm wl:List AV}{l:B8}{R G B:List Nat}{ζ:Nat->AO}{b:Aa}{v:Nat->AV}{x:X5}
def zi(v:Nat->AV)(l:B8)(R G B:List Nat)(x:X5):Lo:=Tn v l R G B 6 (some x)
def yi(v:Nat->AV)(l:B8)(R G B:List Nat)(x:X5):Lo:=A8 (zi v l R G B x) [("exact",.loc 66)]
theorem X26:(ev 118).X A6 (zi v l R G B x) ⟨HS q wd nm wl ⟨some (.int 6),none,none,none,none⟩ l R G B ζ [],b⟩ (Bb Ck 26)=some ⟨.next,zi v l R G B x,⟨HS q wd nm wl ⟨some (.int 6),some (Vz l),none,none,none⟩ l R G B ζ [],obs (yh l) b⟩⟩:=⋯
theorem X27:(ev 118).X A6 (zi v l R G B x) ⟨HS q wd nm wl ⟨some (.int 6),some (Vz l),none,none,none⟩ l R G B ζ [],b⟩ (Bb Ck 27)=some ⟨.next,yi v l R G B x,⟨HS q wd nm wl ⟨some (.int 6),some (Vz l),some FF.f,none,none⟩ l R G B ζ [.list []],b⟩⟩:=⋯
end
def mq:Az:=Bb Ck 28
def pb(i:Nat):Az:=Bb (B3 mq) i
def eV:Expr:=Cm (pb 1)
def rs(i k:Nat):List AO:=.list (FP k (.bool true))::FP i (.raw 2)
abbrev X6:=AV×AV×AV×AV×AV×AV
def Tw(v:Nat->AV)(l:B8)(R G B:List Nat)(x:X5)(g:Ab X6):Lo:=A8 (yi v l R G B x) (g.elim [] λt=>[("head",t.1),("sign",t.2.1),("due",t.2.2.1),("lit",t.2.2.2.1),("ahead",t.2.2.2.2.1),("nearest",t.2.2.2.2.2)])
noncomputable def vF(v:Nat->AV):Nat->AV | 8=>.loc 13 | i=>v i
noncomputable def w4(wf:Nat->AV):List AV:=[wf 0,wf 1,wf 2,wf 3]
theorem VA{P:Nat->Prop}(h0:P 0)(h1:P 1)(h2:P 2)(h3:P 3):∀p,p<4->P p
 |0,_=>h0 | 1,_=>h1 | 2,_=>h2 | 3,_=>h3
 |_+4,h=>AL (H8 4 _) (H7 h)
theorem oP(H:List AO):H=ZN (λi=>H.getD i .OI) H.length:=by
 show H=(Cn H.length).map λi=>H.getD i .OI
 refine Rh (by rw[AY,GV]) λi h1 h2=>?_
 rw[LI,Rd,HG,HU h1] at ⊢
 rfl
theorem sZ(hH:H.length=n)(hn:N4 n)(L:mh a b):A9 (ev 115) wr (.val (.ref 289)) [(AZ a).i,(AZ b).i,(Dm a).f,(Dm b).f,FF.f] [] ⟨H,ob⟩=some ⟨.tup [DT (Eo (AZ a) (AZ b)),.bool true],⟨H,ob⟩⟩:=by
 have e:=sY (z:=λi=>H.getD i .OI) (wr:=wr) (ob:=ob) hn L
 rw[<-hH,<-oP] at e
 exact e
noncomputable def GS:List Nat:=[0,1,2,3,4,5,6]
def br(l:B8)(p:Nat):AV:=.lst (GS.map λq=>.tup [DT (Eo (AZ (l p)) (AZ (l q))),.bool true])
def iL(l:B8)(q:Nat):AV:=.tup [(AZ (l q)).i,(Dm (l q)).f]
def zj(l:B8):List Src:=[.loc 14,.lst (GS.map λp=>(Dm (l p)).f)]
section
variable{q:Nat->AO}{wd:AV}{nm:List AV}{wf:Nat->AV}{l:B8}{R G B:List Nat}{ζ:Nat->AO}{b:Aa}{v:Nat->AV}{x:X5}{g:Ab X6}{vws lmp:Ab AV}
noncomputable abbrev HP(q:Nat->AO)(wd:AV)(nm:List AV)(wf:Nat->AV)(l:B8)(R G B:List Nat)(ζ:Nat->AO)(p:Nat)(vws lmp:Ab AV)(i k:Nat):List AO:=HS q wd nm (w4 wf) ⟨some (.int p),some (Vz l),some FF.f,vws,lmp⟩ l R G B ζ (rs i k)
theorem p0:∀i,i<4->(ev 117).X A6 (Tw (vF v) l R G B x g) ⟨HP q wd nm wf l R G B ζ (i+3) vws lmp i (7*i),b⟩ (pb 0)=some ⟨.next,Tw (vF v) l R G B x g,⟨HP q (wf i) nm wf l R G B ζ (i+3) vws lmp i (7*i),b⟩⟩:=
 VA ⋯ ⋯ ⋯ ⋯
def fcV(n:Nat):List (Str×Nat):=(Cy A6 (FG eV).names []).getD []
abbrev HC(q:Nat->AO)(nm:List AV)(wf:Nat->AV)(l:B8)(R G B:List Nat)(ζ:Nat->AO)(vws lmp:Ab AV)(i:Nat):List AO:=HP q (wf i) nm wf l R G B ζ (i+3) vws lmp (i+1) (7*i)
theorem Ab9{acc:List AV}:∀i,i<4->∀j,j<7->Src.at (HC q nm wf l R G B ζ vws lmp i++[.list acc]) j (.zip (67+i) (zj l))=some (GS.map (iL l))[j]?:=
 VA (VG ⋯ ⋯ ⋯ ⋯ ⋯ ⋯ ⋯) (VG ⋯ ⋯ ⋯ ⋯ ⋯ ⋯ ⋯)
  (VG ⋯ ⋯ ⋯ ⋯ ⋯ ⋯ ⋯) (VG ⋯ ⋯ ⋯ ⋯ ⋯ ⋯ ⋯)
theorem zat{acc:List AV}(j:Nat):∀i,i<4->Src.at (HC q nm wf l R G B ζ vws lmp i++[.list acc]) j (.zip (67+i) (zj l))=some (GS.map (iL l))[j]?:=by
 by_cases h:j<7
 ·exact λi hi=>Ab9 i hi j h
 ·have e:(je (A1 l))[j]?=none:=H5 (N6 h)
  have e':(GS.map (iL l))[j]?=none:=H5 (N6 h)
  have ha:∀H:List AO,H[14]?=some (.list (je (A1 l)))->Src.i8 H j (zj l)=some none:=λH hH=>by
   show(((H[14]?).bind CW).bind λxs=>some xs[j]?).bind _=_
   rw[hH]
   show(some (je (A1 l))[j]?).bind _=_
   rw[e]
   rfl
  rw[e']
  exact VA (tT rfl rfl (ha _ rfl)) (tT rfl rfl (ha _ rfl)) (tT rfl rfl (ha _ rfl)) (tT rfl rfl (ha _ rfl))
def loT(l:B8)(q:Nat):Lo:=[("light",(AZ (l q)).i),("triple",(Dm (l q)).f)]
theorem Aca{n:Nat}(p:Nat):∀i,i<4->Ji (ev 115) (DK A6 (68+i) (FG eV) (fcV 0)) (loT l p) ⟨HC q nm wf l R G B ζ vws lmp i++[.list acc],b⟩ (C0 (XZ eV))=some ⟨[(AZ (l (i+3))).i,(AZ (l p)).i,(Dm (l (i+3))).f,(Dm (l p)).f,FF.f],⟨HC q nm wf l R G B ζ vws lmp i++[.list acc],b⟩⟩:=
 VA ⋯ ⋯ ⋯ ⋯
theorem p1(L:∀p q,mh (l p) (l q))(i:Nat)(hi:i<4):(ev 117).X A6 (Tw (vF v) l R G B x g) ⟨HP q (wf i) nm wf l R G B ζ (i+3) vws lmp i (7*i),b⟩ (pb 1)=some ⟨.next,Tw (vF v) l R G B x g,⟨HP q (wf i) nm wf l R G B ζ (i+3) (some (br l (i+3))) lmp (i+1) (7*i),b⟩⟩:=by
 have hl:∀i,i<4->(HC q nm wf l R G B ζ vws lmp i).length=68+i:=VA rfl rfl rfl rfl
 have hN:N4 (69+i):=by unfold N4;exact(pw [.t .p (.k 4)] (.o (.e (.A (.k 69) .p) (.k 69)) (.o (.e (.A (.k 69) .p) (.k 70)) (.o (.e (.A (.k 69) .p) (.k 71)) (.e (.A (.k 69) .p) (.k 72))))) [] [_]) hi
 have c:=Ht (g:=λ_=>true)
  ⋯ (VA (P:=λi=>FR (ev 116) A6 (Tw (vF v) l R G B x g) ⟨HP q (wf i) nm wf l R G B ζ (i+3) vws lmp i (7*i),b⟩ (bg eV)=some ⟨.zip (67+i) (zj l),⟨HC q nm wf l R G B ζ vws lmp i,b⟩⟩) ⋯ ⋯ ⋯ ⋯ i hi) ⋯ ⋯ ⋯ ⋯ (λj acc=>zat j i hi)
  (λq _ lo acc h=>by obtain rfl | ⟨q',rfl⟩:=h<;>kernel_rfl) (λq _ acc=>⋯)
  (λp _ _ acc=>by
   rw[hl i hi]
   refine(CH ⋯ ⋯ ⋯ ⋯ (Aca (n:=0) p i hi) ⋯).trans (sZ ?_ hN (L _ _))
   rw[BO,hl i hi];exact(pw [] (.e (.A (.A (.k 68) .p) (.k 1)) (.A (.k 69) .p)) [] [_])) (λq _ H'=>ZS)
 rw[K7] at c
 refine(iJ ⋯ ⋯ c).trans ?_
 exact VA (P:=λi=>Hl (putN A6 (Tw (vF v) l R G B x g) ⟨HC q nm wf l R G B ζ vws lmp i,b⟩ (Bw (BU (pb 1))) (br l (i+3)))=some ⟨.next,Tw (vF v) l R G B x g,⟨HP q (wf i) nm wf l R G B ζ (i+3) (some (br l (i+3))) lmp (i+1) (7*i),b⟩⟩) ⋯ ⋯ ⋯ ⋯ i hi
theorem p2:∀i,i<4->(ev 117).X A6 (Tw (vF v) l R G B x g) ⟨HP q (wf i) nm wf l R G B ζ (i+3) (some (br l (i+3))) lmp (i+1) (7*i),b⟩ (pb 2)=some ⟨.next,Tw (vF v) l R G B x g,⟨HP q (wf i) nm wf l R G B ζ (i+3) (some (br l (i+3))) lmp (i+1) (7*(i+1)),b⟩⟩:=
 VA ⋯ ⋯ ⋯ ⋯
end
def VB:Az:=Bb (B3 mq) 3
def db(i:Nat):Az:=Bb (B3 VB) i
noncomputable def Acb(t:bA)(c:Nat):bA:=match t with
 |[w,r,g,b]=>cond (Aw c 114) [w++[c],w,g,b] (cond (Aw c 103) [w++[c],r,w,b] [w++[c],r,g,w])
 |t=>t
def Lm(w:List Nat):bA:=w.foldl Acb [[],[82],[71],[66]]
noncomputable def Nr(lamp:Nat):List Nat:=[([114,103,98]:List Nat).getD lamp 0]
def VM(w:List Nat)(lamp:Nat):List Nat:=(Lm w).getD (lamp+1) []
def yj(x:List Nat):Aa:=Fq x [82]||(Fq x [71]||Fq x [66])
def ZT(w:List Nat)(lamp:Nat)(d:List Nat)(lit:Nat):List Nat:=cond (yj (VM w lit)) d (VM w lit++(Nr lit++([10]++(w.drop ((VM w lit).length+1)++Nr lamp))))
def ML(w:List Nat)(lamp h:Nat):List Nat:=ZT w lamp (ZT w lamp (w++(cond (Aw h 0) [] [10,32]++Nr lamp)) ((lamp+1)%3)) lamp
noncomputable def vD(v:Nat->AV)(qu:Int)(cf:Nat->AV):Nat->AV
 |4=>.int qu
 |8=>.loc 13
 |10=>.lst [cf 0,cf 1,cf 2,cf 3]
 |i=>v i
noncomputable def s6(cf:Nat->AV)(i:Nat)(t:AV):Nat->AV:=λj=>cond (Aw j i) t (cf j)
def MM(ns:Nat->AV):List AV:=[sL [82],sL [71],sL [66],ns 0,ns 1,ns 2,ns 3]
def loQ(v:Nat->AV)(l:B8)(R G B:List Nat)(x:X5)(h s:AV)(r:Ab (AV×AV×AV×AV)):Lo:=A8 (yi v l R G B x) (A8 [("head",h),("sign",s)] (r.elim [] λt=>[("due",t.1),("lit",t.2.1),("ahead",t.2.2.1),("nearest",t.2.2.2)]))
def bG(v:Nat->AV)(l:B8)(R G B:List Nat)(x:X5)(h s d li ah:AV)(n:Ab AV):Lo:=A8 (yi v l R G B x) (A8 [("head",h),("sign",s),("due",d),("lit",li),("ahead",ah)] (n.elim [] λt=>[("nearest",t)]))
noncomputable def W1:List (List Nat):=[[114],[103],[98]]
def W2:List (List Nat):=W1++(W1.flatMap λw=>[w++[114],w++[103],w++[98]])
def W3:List (List Nat):=W1++(W2.flatMap λw=>[w++[114],w++[103],w++[98]])
def WI:Nat->List (List Nat) | 0=>[[]] | 1=>W1 | 2=>W2 | _=>W3
section
variable{q:Nat->AO}{ns:Nat->AV}{wf cf:Nat->AV}{l:B8}{R G B:List Nat}{ζ:Nat->AO}{b:Aa}{v:Nat->AV}{x:X5}{g:Ab X6}{lmp:Ab AV}{qu:Int}{r:Ab (AV×AV×AV×AV)}
def HD(q:Nat->AO)(w:List Nat)(ns:Nat->AV)(wf:Nat->AV)(l:B8)(R G B:List Nat)(ζ:Nat->AO)(lamp i:Nat):List AO:=HP q (sL w) (MM ns) wf l R G B ζ (i+3) (some (br l (i+3))) (some (.int lamp)) (i+1) (7*(i+1))
def iM(q:Nat->AO)(ns wf cf:Nat->AV)(l:B8)(R G B:List Nat)(ζ:Nat->AO)(b:Aa)(v:Nat->AV)(x:X5)(qu:Int)(r:Ab (AV×AV×AV×AV))(i lamp h:Nat)(w:List Nat):Ab Rx:=
 Xs (ev 116) A6 (loQ (vD v qu (s6 cf i (I8 (Lm w)))) l R G B x (.int h) (sL (Nr lamp)) r) ⟨HD q w ns wf l R G B ζ lamp i,b⟩ (((B3 VB).drop 1).take 2)
def iN(q:Nat->AO)(ns wf cf:Nat->AV)(l:B8)(R G B:List Nat)(ζ:Nat->AO)(b:Aa)(v:Nat->AV)(x:X5)(qu:Int)(r:Ab (AV×AV×AV×AV))(i lamp h:Nat)(w:List Nat):Ab Rx:=
 some ⟨.next,bG (vD v qu (s6 cf i (I8 (Lm w)))) l R G B x (.int h) (sL (Nr lamp)) (sL (ML w lamp h)) (.int lamp) (sL (VM w lamp)) (r.map (·.2.2.2)),⟨HD q w ns wf l R G B ζ lamp i,b⟩⟩
def F5(q:Nat->AO)(ns wf cf:Nat->AV)(l:B8)(R G B:List Nat)(ζ:Nat->AO)(b:Aa)(v:Nat->AV)(x:X5)(qu:Int)(n:AV)(i lamp h:Nat)(w:List Nat):Ab Rx:=
 (ev 116).X A6 (bG (vD v qu (s6 cf i (I8 (Lm w)))) l R G B x (.int h) (sL (Nr lamp)) (sL (ML w lamp h)) (.int lamp) (sL (VM w lamp)) (some n)) ⟨HD q w ns wf l R G B ζ lamp i,b⟩ (db 5)
def G5(q:Nat->AO)(ns wf cf:Nat->AV)(l:B8)(R G B:List Nat)(ζ:Nat->AO)(b:Aa)(v:Nat->AV)(x:X5)(qu:Int)(n:AV)(i lamp h:Nat)(w:List Nat):Ab Rx:=
 some ⟨.next,bG (vD v qu (s6 cf i (I8 (Lm w)))) l R G B x (.int h) (sL (Nr lamp)) (sL (ML w lamp h)) (.int lamp) (sL (VM w lamp)) (some n),⟨HD q w ns wf l R G B ζ lamp i,b⟩⟩
end
section
variable{q:Nat->AO}{ns:Nat->AV}{wf:Nat->AV}{l:B8}{R G B:List Nat}{ζ:Nat->AO}{b:Aa}{v:Nat->AV}{x:X5}{g:Ab X6}{lmp:Ab AV}{qu:Int}{h s d li ah:AV}{n:Ab AV}{w:List Nat}
theorem d0:∀lamp:Nat,lamp<3->∃r,(ev 116).X A6 (Tw (vD v qu cf) l R G B x g) ⟨HD q w ns wf l R G B ζ lamp i,b⟩ (db 0)=some ⟨.next,loQ (vD v qu cf) l R G B x (.int ((qu+lamp).fmod 3)) (sL (Nr lamp)) r,⟨HD q w ns wf l R G B ζ lamp i,b⟩⟩/\(r=none->g=none):=by
 cases g with
 |none=>exact M8 ⟨none,by kernel_rfl,λ_=>rfl⟩ ⟨none,by kernel_rfl,λ_=>rfl⟩ ⟨none,by kernel_rfl,λ_=>rfl⟩
 |some t=>exact M8 ⟨some (t.2.2.1,t.2.2.2.1,t.2.2.2.2.1,t.2.2.2.2.2),by kernel_rfl,nofun⟩ ⟨some (t.2.2.1,t.2.2.2.1,t.2.2.2.2.1,t.2.2.2.2.2),by kernel_rfl,nofun⟩ ⟨some (t.2.2.1,t.2.2.2.1,t.2.2.2.2.1,t.2.2.2.2.2),by kernel_rfl,nofun⟩
theorem mu{s:T3 Int}:∀lamp:Nat,lamp<3->yG H (.int lamp) (DT s)=some (M9 s lamp):=by
 unfold DT
 cases h0:M9 s 0<;>cases h1:M9 s 1<;>cases h2:M9 s 2<;>simp only[List.filter,h0,h1,h2]<;>exact M8 (by rw[h0];rfl) (by rw[h1];rfl) (by rw[h2];rfl)
def eN:Expr:=Cm (db 3)
def fcN:List (Str×Nat):=(Cy A6 (FG eN).names []).getD []
noncomputable def GQ(R G B:List Nat):Nat->List Nat | 0=>R | 1=>G | _=>B
def s7(B:List Nat):Nat->Src | 0=>.loc 20 | 1=>.loc 21 | _=>.lst (CP B)
def jg(l:B8)(i lamp p:Nat):Aa:=M9 (Eo (AZ (l (i+3))) (AZ (l p))) lamp
theorem tN{acc:List AV}(lamp:Nat)(hl:lamp<3)(p:Nat)(hp:p<7):(ev 115).T (DK A6 N (FG eN) fcN) [("one",.int p)] ⟨HD q w ns wf l R G B ζ lamp i++[.list acc],b⟩ (CA (TM eN) 0)=some ⟨jg l i lamp p,⟨HD q w ns wf l R G B ζ lamp i++[.list acc],b⟩⟩:=by
 refine K4 (S1:=⟨HD q w ns wf l R G B ζ lamp i++[.list acc],b⟩) ⋯ ⋯ ⋯ ?_ .In ⋯ (mu lamp hl)
 exact VG (P:=λp=>(ev 114).E (DK A6 N (FG eN) fcN) [("one",.int p)] ⟨HD q w ns wf l R G B ζ lamp i++[.list acc],b⟩ (Ec (CA (TM eN) 0))=some ⟨DT (Eo (AZ (l (i+3))) (AZ (l p))),⟨HD q w ns wf l R G B ζ lamp i++[.list acc],b⟩⟩) ⋯ ⋯ ⋯ ⋯ ⋯ ⋯ ⋯ p hp
def nrW(l:B8)(R G B:List Nat)(i lamp:Nat):AV:=.lst (((GQ R G B lamp).filter (jg l i lamp)).map λ(p:Nat)=>.int p)
theorem d3(lamp:Nat)(hl:lamp<3)(h7:∀k,(GQ R G B k).length<80/\∀p,p∈GQ R G B k->p<7):(ev 116).X A6 (bG v l R G B x h s d li ah n) ⟨HD q w ns wf l R G B ζ lamp i,b⟩ (db 3)=some ⟨.next,bG v l R G B x h s d li ah (some (nrW l R G B i lamp)),⟨HD q w ns wf l R G B ζ lamp i,b⟩⟩:=by
 have hi:∀lamp,lamp<3->FR (ev 115) A6 (bG v l R G B x h s d li ah n) ⟨HD q w ns wf l R G B ζ lamp i,b⟩ (bg eN)=some ⟨s7 B lamp,⟨HD q w ns wf l R G B ζ lamp i,b⟩⟩:=M8 ⋯ ⋯ ⋯
 have ha:∀lamp,lamp<3->∀j acc,Src.at (HD q w ns wf l R G B ζ lamp i++[.list acc]) j (s7 B lamp)=some ((GQ R G B lamp).map λ(p:Nat)=>AV.int p)[j]?:=M8 (λj acc=>⋯) (λj acc=>⋯) (λj acc=>⋯)
 have hz:∀lamp,lamp<3->(SD (s7 B lamp) (VH eN)&&(Sx (FG eN)&&Qw (FG eN).names (FG eN).names))=true:=M8 ⋯ ⋯ ⋯
 have c:=Ht (w:=λp=>.int p)
  ⋯ (hi lamp hl) (hz lamp hl) ⋯ ⋯ (h7 lamp).1 (ha lamp hl) (λp _ lo acc h=>by obtain rfl | ⟨q',rfl⟩:=h<;>kernel_rfl) (λp hp acc=>sR ⋯ (tN lamp hl p ((h7 lamp).2 p hp))) (λp _ _ acc=>⋯) (λp _ H'=>rfl)
 refine(iJ ⋯ ⋯ c).trans ?_
 cases n<;>kernel_rfl
theorem mv(h1:IH xs=some ys)(h2:Qe y ys 0=some k)(hn:xs.length<1000):IM r wr (.bi .Hj) (.lst xs) [.str y] S=some ⟨.int k,S⟩:=
 (Ai (λo:Ab (List Str)=>o.bind λys=>(Qe y ys 0).bind λi=>Af (decide (xs.length<1000)) (some (⟨.int i,S⟩ :Rt AV))) h1).trans ((Ai (λo:Ab Nat=>o.bind λi=>Af (decide (xs.length<1000)) (some (⟨.int i,S⟩ :Rt AV))) h2).trans (Ai (λz=>Af z (some (⟨.int k,S⟩ :Rt AV))) (AU hn)))
def c4:Expr:=BU (db 4)
noncomputable def Ln(a:Nat)(r:List Nat):AV:=.lst ((a::r).map λ(p:Nat)=>.int p)
theorem d4(hr:r.length<900)(h1:IH (MM ns)=some ys)(h2:Qe ⟨y.toArray⟩ ys 0=some k):(ev 116).X A6 (bG v l R G B x h s d li (sL y) (some (Ln k r))) ⟨HD q w ns wf l R G B ζ lamp i,b⟩ (db 4)=some ⟨.next,bG v l R G B x h s d li (sL y) (some (Ln k r)),⟨HD q w ns wf l R G B ζ lamp i,b⟩⟩:=by
 have e1:(ev 114).E A6 (bG v l R G B x h s d li (sL y) (some (Ln k r))) ⟨HD q w ns wf l R G B ζ lamp i,b⟩ (E6 c4)=some ⟨.lst [.int k],⟨HD q w ns wf l R G B ζ lamp i,b⟩⟩:=by
  refine(show _=Af (decide (((k::r).map λ(p:Nat)=>AV.int p).length<100000)) (some (⟨.lst (OO ((k::r).map λ(p:Nat)=>AV.int p) none (some 1)),⟨HD q w ns wf l R G B ζ lamp i,b⟩⟩ :Rt AV)) from ⋯).trans ?_
  rw[AU (by rw[AY];exact(pw [.t .p (.k 900)] (.t (.A .p (.k 1)) (.k 100000)) [] [_]) hr)]
  have hc:DF ((k::r).map λ(p:Nat)=>AV.int p).length 1=1:=by
   unfold DF
   rw[AY]
   rw[AD ⋯]
   exact(pw [] (.e (.d (.max (.j 0) (.min (.j 1) (.n (.A .p (.k 1)))))) (.k 1)) [] [_])
  show some (⟨.lst ((((k::r).map λ(p:Nat)=>AV.int p).drop 0).take (DF ((k::r).map λ(p:Nat)=>AV.int p).length 1-0)),_⟩ :Rt AV)=_
  rw[hc]
  rfl
 have e2:(ev 114).E A6 (bG v l R G B x h s d li (sL y) (some (Ln k r))) ⟨HD q w ns wf l R G B ζ lamp i,b⟩ (Ec c4)=some ⟨.lst [.int k],⟨HD q w ns wf l R G B ζ lamp i,b⟩⟩:=
  Vg ⋯ ⋯ (Dg ⋯ ((I9 (S1:=⟨HD q w ns wf l R G B ζ lamp i,b⟩) ⋯ ⋯ ⋯ ⋯ ⋯ "index" ⋯ ⋯ ⋯).trans (mv h1 h2 (Bn rfl))))
 have t:(ev 115).T A6 (bG v l R G B x h s d li (sL y) (some (Ln k r))) ⟨HD q w ns wf l R G B ζ lamp i,b⟩ c4=some ⟨false,⟨HD q w ns wf l R G B ζ lamp i,b⟩⟩:=
  K4 ⋯ ⋯ e1 e2 .NotEq ⋯ (by show some (!(decide ((k:Int)=k)&&true))=_;rw[AU rfl];rfl)
 exact(K1 ⋯ t).trans ⋯
end
theorem iO(h:cf i=t):s6 cf i t=cf:=by
 funext j
 unfold s6
 cases e:Aw j i with
 |true=>rw[Cb e];exact h.symm
 |false=>rfl
section
variable{q:Nat->AO}{ns:Nat->AV}{wf cf:Nat->AV}{l:B8}{R G B:List Nat}{ζ:Nat->AO}{b:Aa}{v:Nat->AV}{x:X5}{g:Ab X6}{qu:Int}{w:List Nat}{i:Nat}
structure iP(q:Nat->AO)(ns wf cf:Nat->AV)(l:B8)(R G B:List Nat)(ζ:Nat->AO)(b:Aa)(v:Nat->AV)(x:X5)(qu:Int)(i:Nat)(w:List Nat):Prop where
 hc:cf i=I8 (Lm w)
 hw:wf i=sL w
 zk:∀lamp,lamp<3->∀h,h<3->∀r,(r=none->i=0)->iM q ns wf cf l R G B ζ b v x qu r i lamp h w=iN q ns wf cf l R G B ζ b v x qu r i lamp h w
 f5:∀lamp,lamp<3->∀h,h<3->∀n,F5 q ns wf cf l R G B ζ b v x qu n i lamp h w=G5 q ns wf cf l R G B ζ b v x qu n i lamp h w
 nm:∀lamp,lamp<3->∃k r ys,IH (MM ns)=some ys/\Qe ⟨(VM w lamp).toArray⟩ ys 0=some k/\(GQ R G B lamp).filter (jg l i lamp)=k::r
theorem iQ(P:iP q ns wf cf l R G B ζ b v x qu i w)(h7:∀k,(GQ R G B k).length<80/\∀p,p∈GQ R G B k->p<7)(hg:g=none->i=0)(lamp:Nat)(hl:lamp<3):
  ∃g',Xs (ev 116) A6 (Tw (vD v qu cf) l R G B x g) ⟨HD q w ns wf l R G B ζ lamp i,b⟩ (B3 VB)=some ⟨.next,Tw (vD v qu cf) l R G B x (some g'),⟨HD q w ns wf l R G B ζ lamp i,b⟩⟩:=by
 refine(d0 (q:=q) (ns:=ns) (wf:=wf) (l:=l) (R:=R) (G:=G) (B:=B) (ζ:=ζ) (b:=b) (v:=v) (x:=x) (g:=g) (qu:=qu) (w:=w) (cf:=cf) (i:=i) lamp hl).elim λr hr=>?_
 have hm: 0<=(qu+(lamp:Int)).fmod 3/\(qu+(lamp:Int)).fmod 3<3:=by
  rw[NS _ ⋯]
  exact⟨Lz _ ⋯,Lx _ ⋯⟩
 have hh:=(Q3 hm.1).symm
 have h3:((qu+(lamp:Int)).fmod 3).toNat<3:=(pw [.a (.L (.j 0) .p) (.T .p (.j 3))] (.t (.d .p) (.k 3)) [_] []) hm
 generalize ((qu+(lamp:Int)).fmod 3).toNat=h at hh h3
 rw[hh] at hr
 have kL:=P.zk lamp hl h h3 r λz=>hg (hr.2 z)
 unfold iM iN at kL
 rw[iO P.hc] at kL
 have e3:=d3 (q:=q) (ns:=ns) (wf:=wf) (l:=l) (R:=R) (G:=G) (B:=B) (ζ:=ζ) (b:=b) (v:=vD v qu cf) (x:=x) (w:=w) (i:=i) (h:=.int h) (s:=sL (Nr lamp)) (d:=sL (ML w lamp h)) (li:=.int lamp) (ah:=sL (VM w lamp)) (n:=r.map (·.2.2.2)) lamp hl h7
 refine(P.nm lamp hl).elim λk z=>z.elim λrr z=>z.elim λys z=>?_
 have en:nrW l R G B i lamp=Ln k rr:=by unfold nrW Ln;rw[z.2.2]
 rw[en] at e3
 have hlen:rr.length<900:=by
  have t:=bV (jg l i lamp) (GQ R G B lamp)
  rw[z.2.2] at t
  have:=(h7 lamp).1
  have t:rr.length+1<=(GQ R G B lamp).length:=t
  exact(pw [.t .p (.k 80),.l (.A .q (.k 1)) .p] (.t .q (.k 900)) [] [_,_]) this t
 have e4:=d4 (q:=q) (ns:=ns) (wf:=wf) (l:=l) (R:=R) (G:=G) (B:=B) (ζ:=ζ) (b:=b) (v:=vD v qu cf) (x:=x) (w:=w) (i:=i) (lamp:=lamp) (h:=.int h) (s:=sL (Nr lamp)) (d:=sL (ML w lamp h)) (li:=.int lamp) (r:=rr) hlen z.1 z.2.1
 have e5:=P.f5 lamp hl h h3 (Ln k rr)
 unfold F5 G5 at e5
 rw[iO P.hc] at e5
 refine⟨(.int h,sL (Nr lamp),sL (ML w lamp h),.int lamp,sL (VM w lamp),Ln k rr),?_⟩
 refine(Ak ⋯ hr.1).trans ?_
 refine Hd (Ai (Xs (ev 116) A6 _ _) (show(B3 VB).tail=((B3 VB).drop 1).take 2++((B3 VB).drop 1).drop 2 by rw[H4];kernel_rfl)) ((Jb kL).trans ?_)
 exact(Ak (l:=((B3 VB).drop 1).drop 2) ⋯ e3).trans ((Ak ⋯ e4).trans ((Ak ⋯ e5).trans ⋯))
theorem yk(P:iP q ns wf cf l R G B ζ b v x qu i w)(h7:∀k,(GQ R G B k).length<80/\∀p,p∈GQ R G B k->p<7)(hg:g=none->i=0):
  ∃g',(ev 117).X A6 (Tw (vD v qu cf) l R G B x g) ⟨HP q (sL w) (MM ns) wf l R G B ζ (i+3) (some (br l (i+3))) lmp (i+1) (7*(i+1)),b⟩ VB=some ⟨.next,Tw (vD v qu cf) l R G B x (some g'),⟨HD q w ns wf l R G B ζ 2 i,b⟩⟩:=by
 refine(iQ P h7 hg 0 ⋯).elim λg0 e0=>(iQ (g:=some g0) P h7 nofun 1 ⋯).elim λg1 e1=>(iQ (g:=some g1) P h7 nofun 2 ⋯).elim λg2 e2=>⟨g2,?_⟩
 refine Qn (src:=.Gw 0 3 1) (S1:=⟨HP q (sL w) (MM ns) wf l R G B ζ (i+3) (some (br l (i+3))) lmp (i+1) (7*(i+1)),b⟩) ⋯ ⋯ ⋯ ?_
 refine(B0 (w:=.int 0) ⋯ ⋯ e0).trans ?_
 refine(B0 (w:=.int 1) ⋯ ⋯ e1).trans ?_
 refine(B0 (w:=.int 2) ⋯ ⋯ e2).trans ?_
 kernel_rfl
theorem Tx(L:∀p q,mh (l p) (l q))(P:iP q ns wf cf l R G B ζ b v x qu i w)(hi:i<4)(h7:∀k,(GQ R G B k).length<80/\∀p,p∈GQ R G B k->p<7)(hg:g=none->i=0):
  ∃g',Xs (ev 117) A6 (Tw (vD v qu cf) l R G B x g) ⟨HP q wd (MM ns) wf l R G B ζ (i+3) vws lmp i (7*i),b⟩ (B3 mq)=some ⟨.next,Tw (vD v qu cf) l R G B x (some g'),⟨HD q w ns wf l R G B ζ 2 i,b⟩⟩:=by
 refine(yk (lmp:=lmp) P h7 hg).elim λg' e=>⟨g',?_⟩
 have a0:=p0 (q:=q) (wd:=wd) (nm:=MM ns) (wf:=wf) (l:=l) (R:=R) (G:=G) (B:=B) (ζ:=ζ) (b:=b) (v:=vD v qu cf) (x:=x) (g:=g) (vws:=vws) (lmp:=lmp) i hi
 have a1:=p1 (q:=q) (nm:=MM ns) (wf:=wf) (R:=R) (G:=G) (B:=B) (ζ:=ζ) (b:=b) (v:=vD v qu cf) (x:=x) (g:=g) (vws:=vws) (lmp:=lmp) L i hi
 have a2:=p2 (q:=q) (nm:=MM ns) (wf:=wf) (l:=l) (R:=R) (G:=G) (B:=B) (ζ:=ζ) (b:=b) (v:=vD v qu cf) (x:=x) (g:=g) (lmp:=lmp) i hi
 have hv:vF (vD v qu cf)=vD v qu cf:=by funext j;unfold vF;split<;>rfl
 rw[hv,P.hw] at a0 a1 a2
 exact(Ak ⋯ a0).trans ((Ak ⋯ a1).trans ((Ak ⋯ a2).trans ((Ak ⋯ e).trans ⋯)))
theorem X28{ws:Nat->List Nat}(L:∀p q,mh (l p) (l q))(P:∀i,i<4->iP q ns wf cf l R G B ζ b v x qu i (ws i))(h7:∀k,(GQ R G B k).length<80/\∀p,p∈GQ R G B k->p<7):
  ∃g',(ev 118).X A6 (yi (vD v qu cf) l R G B x) ⟨HS q wd (MM ns) (w4 wf) ⟨some (.int 6),some (Vz l),some FF.f,none,none⟩ l R G B ζ [.list []],b⟩ mq=some ⟨.next,Tw (vD v qu cf) l R G B x (some g'),⟨HD q (ws 3) ns wf l R G B ζ 2 3,b⟩⟩:=by
 refine(Tx (g:=none) (wd:=wd) (vws:=none) (lmp:=none) L (P 0 ⋯) ⋯ h7 λ_=>rfl).elim λg0 e0=>(Tx (g:=some g0) (wd:=sL (ws 0)) (vws:=some (br l 3)) (lmp:=some (.int 2)) L (P 1 ⋯) ⋯ h7 nofun).elim λg1 e1=>
  (Tx (g:=some g1) (wd:=sL (ws 1)) (vws:=some (br l 4)) (lmp:=some (.int 2)) L (P 2 ⋯) ⋯ h7 nofun).elim λg2 e2=>(Tx (g:=some g2) (wd:=sL (ws 2)) (vws:=some (br l 5)) (lmp:=some (.int 2)) L (P 3 ⋯) ⋯ h7 nofun).elim λg3 e3=>⟨g3,?_⟩
 refine Qn (src:=.Gw 3 7 1) (S1:=⟨HS q wd (MM ns) (w4 wf) ⟨some (.int 6),some (Vz l),some FF.f,none,none⟩ l R G B ζ [.list []],b⟩) ⋯ ⋯ ⋯ ?_
 refine(B0 (k:=79) (i:=0) (w:=.int 3) ⋯ ⋯ e0).trans ((B0 (k:=78) (i:=1) (w:=.int 4) ⋯ ⋯ e1).trans ((B0 (k:=77) (i:=2) (w:=.int 5) ⋯ ⋯ e2).trans ((B0 (k:=76) (i:=3) (w:=.int 6) ⋯ ⋯ e3).trans ?_)))
 kernel_rfl
end
def HT(q:Nat->AO)(wd:AV)(nm wl:List AV)(c:t4)(lgt:Ab AV)(l:B8)(R G B:List Nat)(ζ:Nat->AO)(rs:List AO):List AO:=
 A8 [q 0,.cell (some wd),q 2,.cell (some (.lst nm)),.cell c.pt,.cell c.tol,.cell c.gry,.cell lgt,.cell c.vws,.cell c.lmp,.cell (some (.loc 14)),q 11,q 12,.list wl,.list (je (A1 l)),q 15,q 16,q 17,q 18,q 19,.list (CP R),.list (CP G),.list (bc (A1 l) B),.list (rL (A1 l) R G B)] (A8 ((Cn 42).map ζ) rs)
theorem cnt_cons(P:Nat->Aa)(q:Nat)(t:List Nat):cnt P (q::t)=(cond (P q) 1 0)+cnt P t:=by
 show cond (P q) (cnt P t+1) (cnt P t)=_
 induction P q using Ei with
 |true=>exact Ga _ _
 |false=>exact(Ia _).symm
theorem ZU(P Q:Nat->Aa)(x:Nat):∀t:List Nat,cnt P (FC Q x t)=cnt P (x::t)
 |[]=>rfl
 |q::t=>by
  show cnt P (cond (Q q) (q::FC Q x t) (x::q::t))=_
  induction Q q using Ei with
  |true=>show cnt P (q::FC Q x t)=_;rw[cnt_cons,ZU P Q x t,cnt_cons,cnt_cons,cnt_cons];ac_rfl
  |false=>rfl
theorem Hz(P:Nat->Aa):∀t:List Nat,(t.filter P).length=cnt P t
 |[]=>rfl
 |q::t=>by
  rw[List.filter_cons]
  show _=cond (P q) (cnt P t+1) (cnt P t)
  induction P q using Ei with
  |true=>exact Ai (· +1) (Hz P t)
  |false=>exact Hz P t
theorem Tz(P:Nat->Aa)(Q:Nat->Nat->Aa):cnt P (row Q 7)=(GS.filter P).length:=by
 rw[Hz]
 unfold GS
 show cnt P (FC (Q 6) 6 (FC (Q 5) 5 (FC (Q 4) 4 (FC (Q 3) 3 (FC (Q 2) 2 (FC (Q 1) 1 (FC (Q 0) 0 [])))))))=_
 simp only[ZU,cnt_cons]
 ac_rfl
theorem yl{lo:Lo}(h:e=.BinOp (E6 e) .Add (Ec e) (Jy e))(h1:(ev n).E fr lo S (E6 e)=some ⟨a,S1⟩)(h2:(ev n).E fr lo S1 (Ec e)=some ⟨b,S2⟩)(h3:dI a b S2=some r):(ev (n+1)).E fr lo S e=some r:=
 (Ai ((ev (n+1)).E fr lo S) h).trans ((Ai (λo:Ab (Rt AV)=>o.bind λx=>((ev n).E fr lo x.S (Ec e)).bind λy=>dI x.v y.v y.S) h1).trans ((Ai (λo:Ab (Rt AV)=>o.bind λy=>dI a y.v y.S) h2).trans h3))
def Qo:Az:=Bb Ck 29
noncomputable def zl(i:Nat):Expr:=CA (C0 (Cm (Bb (B3 Qo) 0))) i
def t29:Expr:=BU (Bb (B3 Qo) 1)
def lE(e:Expr):Expr:=CA (C0 e) 0
def cE2:Expr:=CA (C0 (Ec (Ec t29))) 0
def MN(v:Nat->AV)(l:B8)(R G B:List Nat)(x:X5)(g:X6)(th:AV)(ct:Ab AV):Lo:=A8 (Tw v l R G B x (some g)) (A8 [("three",th)] (lU "counts" ct))
def zm(l:B8)(q:Nat):Lo:=[("one",(AZ (l q)).i)]
noncomputable def cP(l:B8)(k p:Nat)(q:Nat):Aa:=if k=0 then decide (A1 l q 0<A1 l p 0) else decide (A1 l q k<=A1 l p k)
section
variable{q:Nat->AO}{wd:AV}{nm wl:List AV}{c:t4}{l:B8}{R G B:List Nat}{ζ:Nat->AO}{r:List AO}{b:Aa}{v:Nat->AV}{x:X5}{g:X6}{th:AV}{ct:Ab AV}{lgt:Ab AV}
abbrev HL(q:Nat->AO)(wd:AV)(nm wl:List AV)(c:t4)(l:B8)(R G B:List Nat)(ζ:Nat->AO)(p:Nat)(r:List AO):List AO:=HT q wd nm wl c (some (AZ (l p)).i) l R G B ζ r
theorem s8{lo:Lo}(hl:lE e=.ListComp (XZ (lE e)) [⟨VH (lE e),bg (lE e),TM (lE e),0⟩] (FG (lE e)) (y8 (lE e)))
  (he:e=.Call (.Name (fnX e) (Jy (E6 e))) (C0 e) (U9 e) (Jy e))(hn:Hi A6 (fnX e) (C0 e) (U9 e)=none)(hs:noStar 200 (C0 e)=true)(hf:nameA A6 lo ⟨HL q wd nm wl c l R G B ζ p r,b⟩ (fnX e)=some (.val (.builtin "len")))(ha:C0 e=[lE e])(hk:U9 e=[])
  (hi:FR (ev m) A6 lo ⟨HL q wd nm wl c l R G B ζ p r,b⟩ (bg (lE e))=some ⟨.loc 14,⟨HL q wd nm wl c l R G B ζ p r,b⟩⟩)(hz:(Sx (FG (lE e))&&Qw (FG (lE e)).names (FG (lE e)).names)=true)(hc:Cy A6 (FG (lE e)).names []=some fc)(h0:AK (FG (lE e)).names=[])
  (h2:∀N q' (lo:Lo) acc,(lo=[]\/∃zo,lo=zm l zo)->Jv (DK A6 N (FG (lE e)) fc) lo ⟨HL q wd nm wl c l R G B ζ p r++[.list acc],b⟩ (VH (lE e)) (AZ (l q')).i=some ⟨zm l q',⟨HL q wd nm wl c l R G B ζ p r++[.list acc],b⟩⟩)
  (hF:TM (lE e)=[CA (TM (lE e)) 0])(h3:∀N q' acc,(ev m).T (DK A6 N (FG (lE e)) fc) (zm l q') ⟨HL q wd nm wl c l R G B ζ p r++[.list acc],b⟩ (CA (TM (lE e)) 0)=some ⟨cP l k p q',⟨HL q wd nm wl c l R G B ζ p r++[.list acc],b⟩⟩)
  (h4:∀N q' acc,(ev m).E (DK A6 N (FG (lE e)) fc) (zm l q') ⟨HL q wd nm wl c l R G B ζ p r++[.list acc],b⟩ (XZ (lE e))=some ⟨.int 1,⟨HL q wd nm wl c l R G B ζ p r++[.list acc],b⟩⟩):
  (ev (m+2)).E A6 lo ⟨HL q wd nm wl c l R G B ζ p r,b⟩ e=some ⟨.int (GS.filter (cP l k p)).length,⟨HL q wd nm wl c l R G B ζ p r,b⟩⟩:=by
 have cc:=Ht (Q:=GS)
  hl hi hz hc h0 ⋯ (λi acc=>by rfl) (λq' _ lo acc h=>h2 _ q' lo acc h) (λq' _ acc=>sR hF (h3 _ q' acc)) (λq' _ _ acc=>h4 _ q' acc) (λq _ H'=>rfl)
 have hlen:(GS.filter (cP l k p)).length<=7:=bV _ _
 refine(CH (S2:=⟨HL q wd nm wl c l R G B ζ p r,b⟩) (kv:=[]) he hn hs hf (ha▸CB (l:=[lE e]) rfl (ZA hl cc) rfl) (hk▸rfl)).trans ?_
 exact MG (Ai (λn:Nat=>some (n:Int)) (AY ..)) ((pw [.l .p (.k 7)] (.t .p (.k 1000)) [] [_]) hlen)
theorem n0:(ev 115).E A6 (MN v l R G B x g th ct) ⟨HL q wd nm wl c l R G B ζ p r,b⟩ (zl 0)=some ⟨.int (GS.filter (cP l 0 p)).length,⟨HL q wd nm wl c l R G B ζ p r,b⟩⟩:=
 s8 (fc:=(Cy A6 (FG (lE (zl 0))).names []).getD []) ⋯ ⋯ ⋯ ⋯ ⋯ ⋯ ⋯ ⋯ ⋯ ⋯ ⋯ (λN q' lo acc h=>by obtain rfl | ⟨zo,rfl⟩:=h<;>kernel_rfl) ⋯ (λN q' acc=>⋯) (λN q' acc=>⋯)
theorem n1:(ev 115).E A6 (MN v l R G B x g th ct) ⟨HL q wd nm wl c l R G B ζ p r,b⟩ (zl 1)=some ⟨.int (GS.filter (cP l 1 p)).length,⟨HL q wd nm wl c l R G B ζ p r,b⟩⟩:=
 s8 (fc:=(Cy A6 (FG (lE (zl 1))).names []).getD []) ⋯ ⋯ ⋯ ⋯ ⋯ ⋯ ⋯ ⋯ ⋯ ⋯ ⋯ (λN q' lo acc h=>by obtain rfl | ⟨zo,rfl⟩:=h<;>kernel_rfl) ⋯ (λN q' acc=>⋯) (λN q' acc=>⋯)
theorem n2{th ct:AV}:(ev 113).E A6 (MN v l R G B x g th (some ct)) ⟨HL q wd nm wl c l R G B ζ p r,b⟩ cE2=some ⟨.int (GS.filter (cP l 2 p)).length,⟨HL q wd nm wl c l R G B ζ p r,b⟩⟩:=
 s8 (fc:=(Cy A6 (FG (lE cE2)).names []).getD []) ⋯ ⋯ ⋯ ⋯ ⋯ ⋯ ⋯ ⋯ ⋯ ⋯ ⋯ (λN q' lo acc h=>by obtain rfl | ⟨zo,rfl⟩:=h<;>kernel_rfl) ⋯ (λN q' acc=>⋯) (λN q' acc=>⋯)
def n7(l:B8)(k p:Nat):AV:=.int (GS.filter (cP l k p)).length
def Tu(l:B8)(p:Nat):AV:=.lst [n7 l 0 p,n7 l 1 p,n7 l 2 p]
def ZV(l:B8)(p:Nat):AV:=.lst [n7 l 0 p,n7 l 1 p]
theorem s9:Xs (ev 117) A6 (MN v l R G B x g (Tu l p) ct) ⟨HL q wd nm wl c l R G B ζ p r,b⟩ (B3 Qo)=some ⟨.next,MN v l R G B x g (Tu l p) (some (ZV l p)),⟨HL q wd nm wl c l R G B ζ p r,b⟩⟩:=by
 have x0:(ev 117).X A6 (MN v l R G B x g (Tu l p) ct) ⟨HL q wd nm wl c l R G B ζ p r,b⟩ (Bb (B3 Qo) 0)=some ⟨.next,MN v l R G B x g (Tu l p) (some (ZV l p)),⟨HL q wd nm wl c l R G B ζ p r,b⟩⟩:=by
  refine(Ni ⋯ ⋯ (Vg ⋯ ⋯ (CB ⋯ n0 (Dg ⋯ n1)))).trans ?_
  cases ct<;>kernel_rfl
 have a:(ev 115).E A6 (MN v l R G B x g (Tu l p) (some (ZV l p))) ⟨HL q wd nm wl c l R G B ζ p r,b⟩ (Ec t29)=some ⟨Tu l p,⟨HL q wd nm wl c l R G B ζ p r,b⟩⟩:=
  yl (a:=ZV l p) (S2:=⟨HL q wd nm wl c l R G B ζ p r,b⟩) ⋯ ⋯ (Vg ⋯ ⋯ (Dg ⋯ n2)) ⋯
 have t:(ev 116).T A6 (MN v l R G B x g (Tu l p) (some (ZV l p))) ⟨HL q wd nm wl c l R G B ζ p r,b⟩ t29=some ⟨false,⟨HL q wd nm wl c l R G B ζ p r,b⟩⟩:=
  K4 (v1:=Tu l p) ⋯ ⋯ ⋯ a .NotEq ⋯
   (by
    show some (!(decide (((GS.filter (cP l 0 p)).length:Int)=(GS.filter (cP l 0 p)).length)&&(decide (((GS.filter (cP l 1 p)).length:Int)=(GS.filter (cP l 1 p)).length)&&(decide (((GS.filter (cP l 2 p)).length:Int)=(GS.filter (cP l 2 p)).length)&&true))))=_
    rw[AU rfl,AU rfl,AU rfl];rfl)
 exact(Ak ⋯ x0).trans ((Ak ⋯ (K1 ⋯ t)).trans ⋯)
end
section
variable{q:Nat->AO}{wd:AV}{nm wl:List AV}{c:t4}{l:B8}{ζ:Nat->AO}{r:List AO}{b:Aa}{v:Nat->AV}{x:X5}{g:X6}{th:AV}{ct:Ab AV}{lgt:Ab AV}
abbrev RR(l:B8):List Nat:=row (Pr (A1 l)) 7
abbrev Gv(l:B8):List Nat:=row (Pg (A1 l)) 7
abbrev FJ(l:B8):List Nat:=row (Pb (A1 l)) 7
theorem bh7(p:Nat):bh (A1 l) (RR l) (Gv l) (FJ l) p=Tu l p:=by
 have e0:cR (A1 l) (RR l) (A1 l p 0)=(GS.filter (cP l 0 p)).length:=Tz _ _
 have e1:cG (A1 l) (Gv l) (A1 l p 1)=(GS.filter (cP l 1 p)).length:=Tz _ _
 have e2:cB (A1 l) (FJ l) (A1 l p 2)=(GS.filter (cP l 2 p)).length:=Tz _ _
 unfold bh Tu n7
 rw[e0,e1,e2]
abbrev Lu(q:Nat->AO)(wd:AV)(nm wl:List AV)(c:t4)(lgt:Ab AV)(l:B8)(ζ:Nat->AO)(i:Nat):List AO:=HT q wd nm wl c lgt l (RR l) (Gv l) (FJ l) ζ (rs i 28)
theorem HA{lo:Lo}(h1:Src.at (Lu q wd nm wl c lgt l ζ 5) p (.zip 71 [.loc 14,.loc 23])=some (some (.tup [(AZ (l p)).i,bh (A1 l) (RR l) (Gv l) (FJ l) p])))
  (h2:∀th,Jv A6 lo ⟨Lu q wd nm wl c lgt l ζ 5,b⟩ (BU Qo) (.tup [(AZ (l p)).i,th])=some ⟨MN v l (RR l) (Gv l) (FJ l) x g th ct,⟨Lu q wd nm wl c (some (AZ (l p)).i) l ζ 5,b⟩⟩):
  forL (ev 117) A6 (.zip 71 [.loc 14,.loc 23]) (BU Qo) (B3 Qo) (k+1) p lo ⟨Lu q wd nm wl c lgt l ζ 5,b⟩=forL (ev 117) A6 (.zip 71 [.loc 14,.loc 23]) (BU Qo) (B3 Qo) k (p+1) (MN v l (RR l) (Gv l) (FJ l) x g (Tu l p) (some (ZV l p))) ⟨Lu q wd nm wl c (some (AZ (l p)).i) l ζ 5,b⟩:=by
 rw[bh7] at h1
 exact B0 h1 (h2 _) s9
theorem X29:(ev 118).X A6 (Tw v l (RR l) (Gv l) (FJ l) x (some g)) ⟨Lu q wd nm wl c none l ζ 4,b⟩ Qo=some ⟨.next,MN v l (RR l) (Gv l) (FJ l) x g (Tu l 6) (some (ZV l 6)),⟨Lu q wd nm wl c (some (AZ (l 6)).i) l ζ 5,b⟩⟩:=by
 refine Qn (src:=.zip 71 [.loc 14,.loc 23]) (S1:=⟨Lu q wd nm wl c none l ζ 5,b⟩) ⋯ ⋯ ⋯ ?_
 refine(HA (v:=v) (x:=x) (g:=g) (ct:=none) ⋯ (λth=>⋯)).trans ?_
 refine(HA (v:=v) (x:=x) (g:=g) (ct:=some (ZV l 0)) ⋯ (λth=>⋯)).trans ?_
 refine(HA (v:=v) (x:=x) (g:=g) (ct:=some (ZV l 1)) (k:=77) (p:=2) ⋯ (λth=>⋯)).trans ?_
 refine(HA (v:=v) (x:=x) (g:=g) (ct:=some (ZV l 2)) (k:=76) (p:=3) ⋯ (λth=>⋯)).trans ?_
 refine(HA (v:=v) (x:=x) (g:=g) (ct:=some (ZV l 3)) (k:=75) (p:=4) ⋯ (λth=>⋯)).trans ?_
 refine(HA (v:=v) (x:=x) (g:=g) (ct:=some (ZV l 4)) (k:=74) (p:=5) ⋯ (λth=>⋯)).trans ?_
 refine(HA (v:=v) (x:=x) (g:=g) (ct:=some (ZV l 5)) (k:=73) (p:=6) ⋯ (λth=>⋯)).trans ?_
 kernel_rfl
theorem ZW{f:Nat->Int×Int}:∀{t:List Nat},(∀p,p∈t->(P p=true->BP (f m) (f p)=false/\BP (f p) (f m)=true)/\(P p=false->BP (f m) (f p)=true))->af (.int m) (f m) (t.map λ(p:Nat)=>(AV.int p,f p))=some ((FC P m t).map λ(p:Nat)=>(AV.int p,f p))
 |[],_=>rfl
 |p::t,h=>by
  have hp:=h p (.head _)
  show cond (BP (f m) (f p)) (some ((AV.int m,f m)::(AV.int p,f p)::t.map λ(p:Nat)=>(AV.int p,f p))) (cond (BP (f p) (f m)) ((af (.int m) (f m) (t.map λ(p:Nat)=>(AV.int p,f p))).bind λt'=>some ((AV.int p,f p)::t')) none)=some ((cond (P p) (p::FC P m t) (m::p::t)).map λ(p:Nat)=>(AV.int p,f p))
  cases e:P p with
  |true=>rw[(hp.1 e).1,(hp.1 e).2,ZW λy hy=>h y (.tail _ hy)];rfl
  |false=>rw[hp.2 e];rfl
theorem VC{f:Nat->Int×Int}(h:∀m p,p<m->(P m p=true->BP (f m) (f p)=false/\BP (f p) (f m)=true)/\(P m p=false->BP (f m) (f p)=true)):OR (GS.map λ(p:Nat)=>(AV.int p,f p)) []=some ((row P 7).map λ(p:Nat)=>(AV.int p,f p)):=by
 have s:∀m:Nat,af (.int m) (f m) ((row P m).map λ(p:Nat)=>(AV.int p,f p))=some ((row P (m+1)).map λ(p:Nat)=>(AV.int p,f p)):=λm=>ZW λp hp=>h m p (Dh.mp hp)
 have t:=λm ps=>Ai (λo:Ab (List (AV×(Int×Int)))=>o.bind λa=>OR ps a) (s m)
 exact(t 0 _).trans ((t 1 _).trans ((t 2 _).trans ((t 3 _).trans ((t 4 _).trans ((t 5 _).trans ((t 6 []).trans rfl))))))
def eS(i:Nat):Expr:=Ec (BU (Bb Ck i))
def zp(l:B8)(p:Nat):Int×Int:=(A1 l p 0,-(p:Int))
def zq(l:B8)(p:Nat):Int×Int:=(A1 l p 1,(p:Int))
abbrev iR(v:Nat->AV)(l:B8)(x:X5)(g:X6):Lo:=MN v l (RR l) (Gv l) (FJ l) x g (Tu l 6) (some (ZV l 6))
theorem Yl:∀t:List Nat,TY (CP t) (CP t)=some true
 |[]=>rfl
 |p::t=>by
  show(some (decide ((p:Int)=p))).bind (λa=>(TY (CP t) (CP t)).bind λq=>some (a&&q))=_
  rw[Yl t,AU rfl]
  rfl
theorem srt{f:Nat->Int×Int}(h:OR (GS.map λ(p:Nat)=>(AV.int p,f p)) []=some ((row P 7).map λ(p:Nat)=>(AV.int p,f p)))
  (hE:(ev 116).E A6 (iR v l x g) ⟨Lu q wd nm wl c lgt l ζ 5,b⟩ (eS i)=(OR (GS.map λ(p:Nat)=>(AV.int p,f p)) []).bind λps=>some ⟨.lst (ps.map (·.1)),⟨Lu q wd nm wl c lgt l ζ 5,b⟩⟩):
  (ev 116).E A6 (iR v l x g) ⟨Lu q wd nm wl c lgt l ζ 5,b⟩ (eS i)=some ⟨.lst (CP (row P 7)),⟨Lu q wd nm wl c lgt l ζ 5,b⟩⟩:=by
 rw[hE,h]
 show some (⟨.lst (((row P 7).map λ(p:Nat)=>(AV.int p,f p)).map (·.1)),⟨Lu q wd nm wl c lgt l ζ 5,b⟩⟩ :Rt AV)=_
 rw[F6]
 rfl
theorem X30:(ev 118).X A6 (iR v l x g) ⟨Lu q wd nm wl c lgt l ζ 5,b⟩ (Bb Ck 30)=some ⟨.next,iR v l x g,⟨Lu q wd nm wl c lgt l ζ 5,b⟩⟩:=by
 have e:=srt (q:=q) (l:=l) (wd:=wd) (nm:=nm) (wl:=wl) (c:=c) (lgt:=lgt) (ζ:=ζ) (b:=b) (v:=v) (x:=x) (g:=g) (i:=30) (f:=zp l) (P:=Pr (A1 l)) (VC λm p hp=>by
  refine⟨λe=>⟨Gx.mpr λw=>?_,Df.mpr ?_⟩,λe=>Df.mpr ?_⟩
  ·have VJ:=Bi e;have:=Df.mp w;unfold zp at this;dsimp only at this;exact(pw [.T .p .q,.o (.T .q .p) (.a (.E .q .p) (.T (.g (.n .p)) (.g (.n .q))))] .f [_,_] [_,_]) VJ this
  ·have:=Bi e;unfold zp;dsimp only;exact(pw [.T .p .q] (.o (.T .p .q) (.a (.E .p .q) (.T (.g (.n .p)) (.g (.n .q))))) [_,_] [_,_]) this
  ·have:=Mn e;unfold zp;dsimp only;exact(pw [.t .p .q,.n (.T .p .q)] (.o (.T .q .p) (.a (.E .q .p) (.T (.g (.n .q)) (.g (.n .p))))) [_,_] [_,_]) hp this) ⋯
 have t:(ev 117).T A6 (iR v l x g) ⟨Lu q wd nm wl c lgt l ζ 5,b⟩ (BU (Bb Ck 30))=some ⟨false,⟨Lu q wd nm wl c lgt l ζ 5,b⟩⟩:=
  K4 (v1:=.loc 20) (v2:=.lst (CP (RR l))) (S1:=⟨Lu q wd nm wl c lgt l ζ 5,b⟩) ⋯ ⋯ ⋯ e .NotEq ⋯ (Ai dJ (Yl (RR l)))
 exact(K1 (n:=117) (b:=false) (S1:=⟨Lu q wd nm wl c lgt l ζ 5,b⟩) ⋯ t).trans ⋯
theorem X31:(ev 118).X A6 (iR v l x g) ⟨Lu q wd nm wl c lgt l ζ 5,b⟩ (Bb Ck 31)=some ⟨.next,iR v l x g,⟨Lu q wd nm wl c lgt l ζ 5,b⟩⟩:=by
 have e:=srt (q:=q) (l:=l) (wd:=wd) (nm:=nm) (wl:=wl) (c:=c) (lgt:=lgt) (ζ:=ζ) (b:=b) (v:=v) (x:=x) (g:=g) (i:=31) (f:=zq l) (P:=Pg (A1 l)) (VC λm p hp=>by
  refine⟨λe=>⟨Gx.mpr λw=>?_,Df.mpr ?_⟩,λe=>Df.mpr ?_⟩
  ·have VK:=Bi e;have:=Df.mp w;unfold zq at this;dsimp only at this;exact(pw [.t .p .q,.L .p .q,.o (.T .q .p) (.a (.E .q .p) (.T (.n .q) (.n .p)))] .f [_,_] [_,_]) hp VK this
  ·have:=Bi e;unfold zq;dsimp only;exact(pw [.t .p .q,.L .p .q] (.o (.T .p .q) (.a (.E .p .q) (.T (.n .p) (.n .q)))) [_,_] [_,_]) hp this
  ·have:=Mn e;unfold zq;dsimp only;exact(pw [.n (.L .p .q)] (.o (.T .q .p) (.a (.E .q .p) (.T (.n .p) (.n .q)))) [_,_] [_,_]) this) ⋯
 have t:(ev 117).T A6 (iR v l x g) ⟨Lu q wd nm wl c lgt l ζ 5,b⟩ (BU (Bb Ck 31))=some ⟨false,⟨Lu q wd nm wl c lgt l ζ 5,b⟩⟩:=
  K4 (v1:=.loc 21) (v2:=.lst (CP (Gv l))) (S1:=⟨Lu q wd nm wl c lgt l ζ 5,b⟩) ⋯ ⋯ ⋯ e .NotEq ⋯ (Ai dJ (Yl (Gv l)))
 exact(K1 (n:=117) (b:=false) (S1:=⟨Lu q wd nm wl c lgt l ζ 5,b⟩) ⋯ t).trans ⋯
theorem X32:(ev 118).X A6 (iR v l x g) ⟨Lu q wd nm wl c lgt l ζ 5,b⟩ (Bb Ck 32)=some ⟨.ret (.bool true),iR v l x g,⟨Lu q wd nm wl c lgt l ζ 5,b⟩⟩:=⋯
end
def VN(xs:List Int):Int:=123+(Cu xs).foldl (· + ·) 0
def NN(xs:List Int):Int:=837138+(Cu (xs.drop 1)).foldl (· + ·) 0
theorem TA:∀xs:List Int,Cu (xs.map AV.int)=(Cu xs).map AV.int
 |[]=>rfl
 |[_]=>rfl
 |a::_::r=>Ai (AV.int a :: ·) (TA r)
theorem ZY:∀xs:List Int,OL (xs.map AV.int)=some xs
 |[]=>rfl
 |x::xs=>Ai (λo:Ab (List Int)=>o.bind λbs=>some (x::bs)) (ZY xs)
def st0:Az:=Bb Ck 0
noncomputable def mw(xs:List Int):Lo:=[("script",.lst (xs.map .int))]
noncomputable def H0:List AO:=FP 11 (.cell none)
theorem ym(hx:xs.length<=63){ys:List Int}(h:e=.BinOp (E6 e) .Add (Ec e) (Jy e))(h':Ec e=.Call (.Name (fnX (Ec e)) (Jy (E6 (Ec e)))) (C0 (Ec e)) (U9 (Ec e)) (Jy (Ec e)))(hn:Hi A6 (fnX (Ec e)) (C0 (Ec e)) (U9 (Ec e))=none)(hs:noStar 200 (C0 (Ec e))=true)
  (hf:nameA A6 (mw xs) ⟨H0,true⟩ (fnX (Ec e))=some (.val (.builtin "sum")))(hk:U9 (Ec e)=[])(h0:(ev 116).E A6 (mw xs) ⟨H0,true⟩ (E6 e)=some ⟨.int k,⟨H0,true⟩⟩)
  (ha:Ji (ev 115) A6 (mw xs) ⟨H0,true⟩ (C0 (Ec e))=some ⟨[.lst (ys.map .int)],⟨H0,decide ((xs.map AV.int).length<100000)&&true⟩⟩):(ev 117).E A6 (mw xs) ⟨H0,true⟩ e=some ⟨.int (k+ys.foldl (· + ·) 0),⟨H0,true⟩⟩:=by
 rw[AU (by rw[AY];exact(pw [.l .p (.k 63)] (.t .p (.k 100000)) [] [_]) hx)] at ha
 refine yl (b:=.int (ys.foldl (· + ·) 0)) h h0 ((CH (S2:=⟨H0,true⟩) (kv:=[]) h' hn hs hf ha (hk▸rfl)).trans ?_) rfl
 refine(show _=(OL (ys.map AV.int)).bind λis=>some (⟨.int (is.foldl (· + ·) 0),⟨H0,true⟩⟩ :Rt AV) from ⋯).trans ?_
 rw[ZY]
 rfl
theorem X0{xs:List Int}(hx:xs.length<=63):(ev 118).X A6 (mw xs) ⟨H0,true⟩ st0=some ⟨.next,[("script",.lst (xs.map .int)),("number",.int (VN xs))],⟨H3 (.int (NN xs)),true⟩⟩:=by
 refine(om (o:=none) ⋯ ⋯ ⋯ ⋯ ⋯
  (ym (ys:=Cu xs) (k:=123) hx ⋯ ⋯ ⋯ ⋯ ⋯ ⋯ ⋯ ?_)
  (ym (ys:=Cu (xs.drop 1)) (k:=837138) hx ⋯ ⋯ ⋯ ⋯ ⋯ ⋯ ⋯ ?_)).trans ⋯
 ·rw[<-TA];kernel_rfl
 ·rw[<-TA,N2];kernel_rfl
noncomputable def gI(ot:Int)(k:Nat):Int:=1+((ot.fdiv 12).fdiv (4^k)).fmod 4
noncomputable def jh(g:Nat->Int):AV:=.lst ([0,1,2,3,4,5,6,7,8].map λk=>.int (g k))
noncomputable def tc(sc:AV)(nu ot:Int)(gr:AV):Lo:=[("script",sc),("number",.int nu),("places",.lst [.int 0,.int (nu.fmod 3),.int ((nu.fdiv 3).fmod 5),.int ((nu.fdiv 15).fmod 7)]),("grains",gr),("quarter",.int (ot.fdiv 4)),("first",.int (ot.fmod 4))]
theorem yn:Xs (ev 118) A6 [("script",sc),("number",.int nu)] ⟨H3 (.int ot),true⟩ ((Ck.drop 1).take 3)=some ⟨.next,tc sc nu ot (jh (gI ot)),⟨H3 (.int ot),true⟩⟩:=⋯
theorem td{nu ot:Int}(ha:nu.fmod 3=(p.a:Nat))(hb:(nu.fdiv 3).fmod 5=(p.b:Nat))(hc:(nu.fdiv 15).fmod 7=(p.c:Nat))(hf:ot.fmod 4=f):tc sc nu ot gr=y4 sc (.int nu) gr (.int (ot.fdiv 4)) p f:=by
 unfold tc
 rw[ha,hb,hc,hf]
 rfl
def lo6(sc nu gr qu:AV)(p:Pc)(f:Int)(wh:Aa):Lo:=A8 (y4 sc nu gr qu p f) [("row",.loc 12),("is_white",.bool wh)]
def H6(ot:AV)(f:Int):List AO:=A8 (H3 ot) [.dict [("_initial_size",.int f)],.acc 11 [.tup [.str " ",.str ""]]]
def H9(ot:AV)(p:Pc)(f:Int):List AO:=A8 (H3 ot) [.dict [("_initial_size",.int f)],.acc 11 (p.left.map λw=>.tup [.str " ",sL w]),.list (p.words.map sL)]
def lo9(sc nu gr qu:AV)(p:Pc)(f:Int)(wh:Aa):Lo:=A8 (lo6 sc nu gr qu p f wh) [("words",.loc 13),("left",.lst (p.left.map sL)),("cut",.lst (p.cut.map I8)),("text",sL p.text)]
section
variable{sc nu gr qu ot:AV}{p:Pc}
theorem s4:∀f:Nat,f<4->Xs (ev 118) A6 (y4 sc nu gr qu p f) ⟨H3 ot,true⟩ (seg 4 3)=some ⟨.next,lo6 sc nu gr qu p f (Aw f 0),⟨H6 ot f,true⟩⟩:=VA ⋯ ⋯ ⋯ ⋯
def F7(sc nu gr qu ot:AV)(f:Int)(wh:Aa)(p:Pc):Ab Rx:=Xs (ev 118) A6 (lo6 sc nu gr qu p f wh) ⟨H6 ot f,true⟩ (seg 7 3)
def G7(sc nu gr qu ot:AV)(f:Int)(wh:Aa)(p:Pc):Ab Rx:=some ⟨.next,lo9 sc nu gr qu p f wh,⟨H9 ot p f,true⟩⟩
def zu(sc nu gr qu ot:AV)(f:Nat)(p:Pc):Ab Rx:=Xs (ev 118) A6 (lo9 sc nu gr qu p f (Aw f 0)) ⟨H9 ot p f,true⟩ (seg 10 4)
def zv(sc nu gr qu ot:AV)(f:Nat)(p:Pc):Ab Rx:=some ⟨.next,lN sc nu gr qu p f (Aw f 0),⟨H13 ot gr p f,true⟩⟩
noncomputable def Qp(a b:Nat):List Pc:=(Cn 7).map λc=>⟨a,b,c⟩
end
def Ym:Az:=Bb Ck 15
noncomputable def ZZ:List Nat->List Nat->Nat
 |x::xs,y::ys=>cond (Aw x y) (ZZ xs ys) (cond (Aw x 114) 0 (cond (Aw x 103) 1 2))
 |x::_,[]=>cond (Aw x 114) 0 (cond (Aw x 103) 1 2)
 |[],_=>0
def wN(p:Pc)(i:Nat):List Nat:=p.words.getD i []
def lfN(p:Pc)(j:Nat):List Nat:=p.left.getD j []
def my(p:Pc)(i j:Nat):Nat:=ZZ (lfN p j) (wN p i)
noncomputable def L9:List Nat:=[0,1,2,3,4,5,6,7,8]
def XI(p:Pc)(g:Nat->Int)(i:Nat):Int:=(L9.map λj=>g j*64^my p i j).foldl (· + ·) 0
def Nt(sc nu qu:AV)(p:Pc)(f:Int)(wh:Aa)(g:Nat->Int):Lo:=lN sc nu (jh g) qu p f wh
def TC(ot:AV)(p:Pc)(f:Int)(w:Ab AV)(Lt:List AV)(i:Nat):List AO:=A8 [.cell (some ot),.cell w,.cell none,.cell (some (.lst (p.names.map sL)))] (A8 (FP 6 (.cell none)) (.cell (some (.loc 14))::(
 .dict [("_initial_size",.int f)]::.acc 11 (p.left.map λw=>.tup [.str " ",sL w])::.list (p.words.map sL)::.list Lt::FP i (.raw 2))))
def Acg:Expr:=Cm (NF (B3 Ym))
def yo(sc nu qu ot:AV)(f:Int)(wh:Aa)(g:Nat->Int)(Lt:List AV)(b:Aa)(i:Nat)(p:Pc):Ab (Rt (List AV)):=Ji (ev 114) A6 (Nt sc nu qu p f wh g) ⟨TC ot p f (some (sL (wN p i))) Lt i,b⟩ (C0 (CA (C0 Acg) 0))
def yq(ot:AV)(f:Int)(g:Nat->Int)(Lt:List AV)(b:Aa)(i:Nat)(p:Pc):Ab (Rt (List AV)):=some ⟨[.int (XI p g i),.int 6],⟨TC ot p f (some (sL (wN p i))) Lt (i+1),obs (L9.map λj=>AM (g j)&&true) b⟩⟩
abbrev M4(n:Nat):Prop:=n=16\/n=17\/n=18\/n=19
def t5(X:Int):List Aa:=[AM (up 6 X),AM (up 6 (up 6 X))]
section
variable{z:Nat->AO}{n k wr:Nat}{b:Aa}{X:Int}
theorem J3(hn:M4 n)(hb:(((Dy X:Nat):Int)+6-1).fdiv 6=3)(h0:X≠0):A9 (ev 114) wr (.val (.ref 64)) [.int X,.int 6] [] ⟨ZN z n,b⟩=some ⟨.lst (EB (oo 6 X)),⟨ZN z n,obs (t5 X) b⟩⟩:=by
 have x0:(ev 114).X (Au K8 n wr) [("a",.int X)] ⟨PU (ZN z n) 6 none none [],b⟩ (ZC 0)=some ⟨.next,[("a",.int X)],⟨PU (ZN z n) 6 (some (.loc (n+3))) none [.list (EB [0,0,0])],b⟩⟩:=by
  have a1:(ev 113).E (Au K8 n wr) [("a",.int X)] ⟨PU (ZN z n) 6 none none [],b⟩ (tR (ZC 0)).2=some (⟨.int ((((Dy X:Nat):Int)+6-1).fdiv 6),⟨PU (ZN z n) 6 none none [],b⟩⟩ :Rt AV):=by rcases hn with rfl | rfl | rfl | rfl<;>kernel_rfl
  rw[hb] at a1
  refine(ou (v:=.int 0) ⋯ ⋯ ⋯ ⋯ ⋯ (tR (ZC 0)).1 (tR (ZC 0)).2 ⋯ ⋯ ⋯ a1 ⋯).trans ?_
  rcases hn with rfl | rfl | rfl | rfl<;>kernel_rfl
 have x1:(ev 114).X (Au K8 n wr) [("a",.int X)] ⟨PU (ZN z n) 6 (some (.loc (n+3))) none [.list (EB [0,0,0])],b⟩ (ZC 1)=some ⟨.next,[("a",.int X)],⟨PU (ZN z n) 6 (some (.loc (n+3))) (some (bD n)) [.list (EB [0,0,0])],b⟩⟩:=by
  rcases hn with rfl | rfl | rfl | rfl<;>kernel_rfl
 have x2:(ev 114).X (Au K8 n wr) [("a",.int X)] ⟨PU (ZN z n) 6 (some (.loc (n+3))) (some (bD n)) [.list (EB [0,0,0])],b⟩ (ZC 2)=some ⟨.next,[("a",.int X)],⟨PU (ZN z n) 6 (some (.loc (n+3))) (some (bD n)) [.list (EB (oo 6 X))],obs (t5 X) b⟩⟩:=by
  have t:(ev 113).T (Au K8 n wr) [("a",.int X)] ⟨PU (ZN z n) 6 (some (.loc (n+3))) (some (bD n)) [.list (EB [0,0,0])],b⟩ (BU (ZC 2))=some (⟨decide (X≠0),⟨PU (ZN z n) 6 (some (.loc (n+3))) (some (bD n)) [.list (EB [0,0,0])],b⟩⟩ :Rt Aa):=⋯
  rw[AU h0] at t
  refine(K1 ⋯ t).trans ?_
  rcases hn with rfl | rfl | rfl | rfl<;>kernel_rfl
 refine(show A9 (ev 114) wr (.val (.ref 64)) [.int X,.int 6] [] ⟨ZN z n,b⟩=CM (ev 114) K8 [.int X,.int 6] [] wr ⟨ZN z n,b⟩ from ⋯).trans ?_
 refine X4 (binds:=[("a",.int X),("n",.int 6)]) (lo:=[("a",.int X)]) (Bv:=[("a",.int X)]) (fl:=.ret (.loc (n+3))) (S1:=⟨PU (ZN z n) 6 none none [],b⟩) (S2:=⟨PU (ZN z n) 6 (some (.loc (n+3))) (some (bD n)) [.list (EB (oo 6 X))],obs (t5 X) b⟩) (by unfold ZN;rw[AY,GV]) ⋯ (by rcases hn with rfl | rfl | rfl | rfl<;>kernel_rfl) ⋯ ⋯ ?_ rfl (by rcases hn with rfl | rfl | rfl | rfl<;>kernel_rfl)
 refine(Ak ⋯ x0).trans ((Ak ⋯ x1).trans ((Ak ⋯ x2).trans ?_))
 rcases hn with rfl | rfl | rfl | rfl<;>kernel_rfl
theorem Ach(hH:H.length=n)(hn:M4 n)(hb:(((Dy X:Nat):Int)+6-1).fdiv 6=3)(h0:X≠0):A9 (ev 114) wr (.val (.ref 64)) [.int X,.int 6] [] ⟨H,b⟩=some ⟨.lst (EB (oo 6 X)),⟨H,obs (t5 X) b⟩⟩:=by
 have e:=J3 (z:=λi=>H.getD i .OI) (wr:=wr) (b:=b) hn hb h0
 rw[<-hH,<-oP] at e
 exact e
end
theorem yr{d0 d1 d2:Nat}(h0:d0<64)(h1:d1<64)(h2:d2<64)(h3: 1<=d2):(((Dy ((d0+64*d1+4096*d2:Nat):Int):Nat):Int)+6-1).fdiv 6=3/\((d0+64*d1+4096*d2:Nat):Int)≠0/\oo 6 ((d0+64*d1+4096*d2:Nat):Int)=[(d0:Int),d1,d2]/\obs (t5 ((d0+64*d1+4096*d2:Nat):Int)) true=true:=by
 have e:d0+64*d1+4096*d2=comb 6 [d0,d1,d2]:=by show _=d0+2^6*(d1+2^6*(d2+2^6*0));exact(pw [] (.e (.A (.A .p (.m 64 .q)) (.m 4096 .r)) (.A .p (.m (2^6) (.A .q (.m (2^6) (.A .r (.k (2^6*0)))))))) [] [_,_,_])
 have dg:=gU (n:=6) (d2:=d2) h0 h1
 have u1:=(Nm (n:=6) (b:=[d1,d2]) h0).1
 have u2:=(Nm (n:=6) (b:=[d2]) h1).1
 rw[PW] at u2
 have s1:AM ((comb 6 [d1,d2]:Nat):Int)=true:=bF (by show d1+2^6*(d2+2^6*0)<=2^40;exact(pw [.t .p (.k 64),.t .q (.k 64)] (.l (.A .p (.m (2^6) (.A .q (.k (2^6*0))))) (.k (2^40))) [] [_,_]) h1 h2)
 have s2:=bF ((pw [.t .p (.k 64)] (.l (.b (.n .p)) (.k (2^40))) [] [_]) h2)
 rw[e]
 refine⟨?_,?_,dg,?_⟩
 ·rw[<-e]
  have n0:d0+64*d1+4096*d2≠0:=(pw [.l (.k 1) .p] (.n (.e (.A (.A .q (.m 64 .r)) (.m 4096 .p)) (.k 0))) [] [_,_,_]) h3
  have a:=(Nat.le_log2 n0).mpr (show 2^12<=d0+64*d1+4096*d2 by exact(pw [.l (.k 1) .p] (.l (.k (2^12)) (.A (.A .q (.m 64 .r)) (.m 4096 .p))) [] [_,_,_]) h3)
  have c:=(Wq n0).mpr (show d0+64*d1+4096*d2<2^18 by exact(pw [.t .p (.k 64),.t .q (.k 64),.t .r (.k 64)] (.t (.A (.A .p (.m 64 .q)) (.m 4096 .r)) (.k (2^18))) [] [_,_,_]) h0 h1 h2)
  have hb:Dy ((d0+64*d1+4096*d2:Nat):Int)=(d0+64*d1+4096*d2).log2+1:=by
   unfold Dy
   rw[AD (show ¬ (((d0+64*d1+4096*d2:Nat):Int)==0)=true from λh=>n0 (LA.inj (eq_of_beq h)))]
   rfl
  rw[hb,NT _ ⋯]
  exact(pw [.l (.k 12) .p,.t .p (.k 18),.E (.A (.l 6 .p) .q) (.S (.A (.n (.A .p (.k 1))) (.j 6)) (.j 1)),.T .q (.j 6),.L (.j 0) .q] (.E .p (.j 3)) [_,_] [_]) a c (VX _ _) (Lx _ ⋯) (Lz _ ⋯)
 ·rw[<-e];exact(pw [.l (.k 1) .p] (.n (.E (.n (.A (.A .q (.m 64 .r)) (.m 4096 .p))) (.j 0))) [] [_,_,_]) h3
 ·unfold t5
  rw[u1,u2]
  exact Es (AB s1 (AB s2 FZ))
noncomputable def dK(m:Nat->Nat)(g:Nat->Nat)(k:Nat):List Nat->Nat
 |[]=>0
 |j::t=>cond (Aw (m j) k) (g j) 0+dK m g k t
theorem iT(hm:∀j,m j<3):∀(t:List Nat)(a:Nat),(t.map λj=>((g j:Nat):Int)*64^m j).foldl (· + ·) (a:Int)=((a+(dK m g 0 t+64*dK m g 1 t+4096*dK m g 2 t):Nat):Int)
 |[],a=>by show(a:Int)=((a+0:Nat):Int);rfl
 |j::t,a=>by
  have e:(a:Int)+(g j:Nat)*64^m j=((a+(cond (Aw (m j) 0) (g j) 0+64*cond (Aw (m j) 1) (g j) 0+4096*cond (Aw (m j) 2) (g j) 0):Nat):Int):=by
   have:=hm j
   generalize m j=x at*
   match x,this with
   |0,_=>show(a:Int)+(g j:Nat)*1=((a+(g j+64*0+4096*0):Nat):Int);exact(pw [] (.E (.A (.n .p) (.Q (.n .q) 1)) (.n (.A .p (.A (.A .q (.k (64*0))) (.k (4096*0)))))) [] [_,_])
   |1,_=>show(a:Int)+(g j:Nat)*64=((a+(0+64*g j+4096*0):Nat):Int);exact(pw [] (.E (.A (.n .p) (.Q (.n .q) 64)) (.n (.A .p (.A (.A (.k 0) (.m 64 .q)) (.k (4096*0)))))) [] [_,_])
   |2,_=>show(a:Int)+(g j:Nat)*4096=((a+(0+64*0+4096*g j):Nat):Int);exact(pw [] (.E (.A (.n .p) (.Q (.n .q) 4096)) (.n (.A .p (.A (.k (0+64*0)) (.m 4096 .q))))) [] [_,_])
  show(t.map λj=>((g j:Nat):Int)*64^m j).foldl (· + ·) ((a:Int)+(g j:Nat)*64^m j)=_
  rw[e,iT hm t]
  congr 1
  exact(pw [] (.e (.A (.A .p (.A (.A .q (.m 64 .r)) (.m 4096 .s))) (.A (.A .t (.m 64 .u)) (.m 4096 .w))) (.A .p (.A (.A (.A .q .t) (.m 64 (.A .r .u))) (.m 4096 (.A .s .w))))) [] [_,_,_,_,_,_,_])
def dW(p:Pc)(g:Nat->Nat)(i k:Nat):Nat:=dK (my p i) g k L9
noncomputable def HE(g:Nat->Nat):Nat:=g 0+g 1+g 2+g 3+g 4+g 5+g 6+g 7+g 8
def Ba(p:Pc)(g:Nat->Nat):B8
 |0,k=>cond (Aw k 0) (HE g) 0
 |1,k=>cond (Aw k 1) (HE g) 0
 |2,k=>cond (Aw k 2) (HE g) 0
 |i+3,k=>cond (Bf i 3) (cond (Bf k 2) (dW p g i k) 0) (cond (Aw k 0) (HE g) 0)
noncomputable def gC(g:Nat->Nat):Nat->Int:=λj=>(g j:Nat)
def ji(l:B8)(n:Nat):List AV:=(je (A1 l)).take n
section
variable{sc nu qu ot:AV}{p:Pc}{f:Int}{wh:Aa}{g:Nat->Nat}{b:Aa}{w:Ab AV}
theorem X14:(ev 118).X A6 (lN sc nu (jh (gC g)) qu p f wh) ⟨H13 ot (jh (gC g)) p f,b⟩ (Bb Ck 14)=some ⟨.next,Nt sc nu qu p f wh (gC g),⟨TC ot p f none (ji (Ba p g) 3) 0,b⟩⟩:=by
 have e:(((((((((0:Int)+gC g 0)+gC g 1)+gC g 2)+gC g 3)+gC g 4)+gC g 5)+gC g 6)+gC g 7)+gC g 8=(HE g:Nat):=by unfold gC HE;exact(pw [] (.E (.A (.A (.A (.A (.A (.A (.A (.A (.A (.j 0) (.n .p)) (.n .q)) (.n .r)) (.n .s)) (.n .t)) (.n .u)) (.n .w)) (.n .x)) (.n .y)) (.n (.A (.A (.A (.A (.A (.A (.A (.A .p .q) .r) .s) .t) .u) .w) .x) .y))) [] [_,_,_,_,_,_,_,_,_])
 have k:(ev 118).X A6 (lN sc nu (jh (gC g)) qu p f wh) ⟨H13 ot (jh (gC g)) p f,b⟩ (Bb Ck 14)=some ⟨.next,Nt sc nu qu p f wh (gC g),⟨TC ot p f none
  [.lst [.int ((((((((((0:Int)+gC g 0)+gC g 1)+gC g 2)+gC g 3)+gC g 4)+gC g 5)+gC g 6)+gC g 7)+gC g 8),.int 0,.int 0],.lst [.int 0,.int ((((((((((0:Int)+gC g 0)+gC g 1)+gC g 2)+gC g 3)+gC g 4)+gC g 5)+gC g 6)+gC g 7)+gC g 8),.int 0],.lst [.int 0,.int 0,.int ((((((((((0:Int)+gC g 0)+gC g 1)+gC g 2)+gC g 3)+gC g 4)+gC g 5)+gC g 6)+gC g 7)+gC g 8)]] 0,b⟩⟩:=⋯
 rw[k,e]
 rfl
structure oQ(sc nu qu ot:AV)(p:Pc)(f:Int)(wh:Aa)(g:Nat->Nat):Prop where
 t6:∀i,i<4->∀Lt b,yo sc nu qu ot f wh (gC g) Lt b i p=yq ot f (gC g) Lt b i p
 lt:∀i j,my p i j<3
 pos:∀i,i<4->1<=dW p g i 2
 up:∀i k,dW p g i k<=36
 gr:∀j,g j<=4
theorem mz(P:oQ sc nu qu ot p f wh g)(i:Nat)(hi:i<4){Lt:List AV}(hL:Lt.length<=1000):Xs (ev 117) A6 (Nt sc nu qu p f wh (gC g)) ⟨TC ot p f (some (sL (wN p i))) Lt i,true⟩ (B3 Ym)=some ⟨.next,Nt sc nu qu p f wh (gC g),⟨TC ot p f (some (sL (wN p i))) (Lt++[.lst [.int (dW p g i 0:Nat),.int (dW p g i 1:Nat),.int (dW p g i 2:Nat)]]) (i+1),true⟩⟩:=by
 have h15:=P.t6 i hi Lt true
 unfold yo yq at h15
 have s:=λj=>bF (x:=gC g j) (AA (P.gr j) ⋯)
 rw[Es λx hx=>(CD.mp hx).elim λj hj=>hj.2▸hJ (s j)] at h15
 have eX:XI p (gC g) i=((dW p g i 0+64*dW p g i 1+4096*dW p g i 2:Nat):Int):=(iT (P.lt i) L9 0).trans (Ai (λn:Nat=>(n:Int)) (Ia _))
 have u:=P.up i
 have zw:=yr (CE (u 0) ⋯) (CE (u 1) ⋯) (CE (u 2) ⋯) (P.pos i hi)
 have hH:(TC ot p f (some (sL (wN p i))) Lt (i+1)).length=16+i:=by
  unfold TC
  show(FP (i+1) (AO.raw 2)).length+15=16+i
  rw[List.length_replicate];exact(pw [] (.e (.A (.A .p (.k 1)) (.k 15)) (.A (.k 16) .p)) [] [_])
 have j:=Ach (X:=XI p (gC g) i) (wr:=0) (b:=true) hH (by unfold M4;exact(pw [.t .p (.k 4)] (.o (.e (.A (.k 16) .p) (.k 16)) (.o (.e (.A (.k 16) .p) (.k 17)) (.o (.e (.A (.k 16) .p) (.k 18)) (.e (.A (.k 16) .p) (.k 19))))) [] [_]) hi) (by rw[eX];exact zw.1) (by rw[eX];exact zw.2.1)
 rw[eX,zw.2.2.1,zw.2.2.2] at j
 rw[eX] at h15
 refine(Ak (lo1:=Nt sc nu qu p f wh (gC g)) (S1:=⟨TC ot p f (some (sL (wN p i))) (Lt++[.lst [.int (dW p g i 0:Nat),.int (dW p g i 1:Nat),.int (dW p g i 2:Nat)]]) (i+1),true⟩) ⋯ ?_).trans ⋯
 refine Qm ⋯ ⋯ ((I9 (S1:=⟨TC ot p f (some (sL (wN p i))) Lt i,true⟩) (S2:=⟨TC ot p f (some (sL (wN p i))) Lt (i+1),true⟩) (k:=.bi .append) (vs:=[.lst [.int (dW p g i 0:Nat),.int (dW p g i 1:Nat),.int (dW p g i 2:Nat)]]) ⋯ ⋯ ⋯ ⋯ ⋯ "append" ⋯ ⋯ (Dg ⋯ ?_)).trans (xw (A:=14) (xs:=Lt) rfl hL))
 exact(CH (n:=114) (S1:=⟨TC ot p f (some (sL (wN p i))) Lt (i+1),true⟩) (S2:=⟨TC ot p f (some (sL (wN p i))) Lt (i+1),true⟩) (f:=.val (.ref 64)) (kv:=[]) ⋯ ⋯ ⋯ ⋯ h15 ⋯).trans j
theorem te(i:Nat)(hi:i<4):ji (Ba p g) (3+i)++[.lst [.int (dW p g i 0:Nat),.int (dW p g i 1:Nat),.int (dW p g i 2:Nat)]]=ji (Ba p g) (3+(i+1)):=
 VA (P:=λi=>ji (Ba p g) (3+i)++[.lst [.int (dW p g i 0:Nat),.int (dW p g i 1:Nat),.int (dW p g i 2:Nat)]]=ji (Ba p g) (3+(i+1))) rfl rfl rfl rfl i hi
theorem X15(P:oQ sc nu qu ot p f wh g)(hw:p.words=[wN p 0,wN p 1,wN p 2,wN p 3]):(ev 118).X A6 (Nt sc nu qu p f wh (gC g)) ⟨TC ot p f none (ji (Ba p g) 3) 0,true⟩ Ym=some ⟨.next,Nt sc nu qu p f wh (gC g),⟨TC ot p f (some (sL (wN p 3))) (je (A1 (Ba p g))) 4,true⟩⟩:=by
 have r:∀(i k:Nat)(w:Ab AV),i<4->forL (ev 117) A6 (.loc 13) (BU Ym) (B3 Ym) (k+1) i (Nt sc nu qu p f wh (gC g)) ⟨TC ot p f w (ji (Ba p g) (3+i)) i,true⟩=forL (ev 117) A6 (.loc 13) (BU Ym) (B3 Ym) k (i+1) (Nt sc nu qu p f wh (gC g)) ⟨TC ot p f (some (sL (wN p i))) (ji (Ba p g) (3+(i+1))) (i+1),true⟩:=λi k w hi=>by
  have b:=mz P i hi (Lt:=ji (Ba p g) (3+i)) (AA (List.length_take_le _ _) ((pw [.t .p (.k 4)] (.l (.A (.k 3) .p) (.k 1000)) [] [_]) hi))
  rw[te i hi] at b
  refine B0 (w:=sL (wN p i)) ?_ ⋯ b
  show some (p.words.map sL)[i]?=_
  rw[hw]
  exact VA (P:=λi=>some (([wN p 0,wN p 1,wN p 2,wN p 3].map sL)[i]?)=some (some (sL (wN p i)))) rfl rfl rfl rfl i hi
 have e:Src.at (TC ot p f (some (sL (wN p 3))) (ji (Ba p g) 7) 4) 4 (.loc 13)=some none:=by
  show some (p.words.map sL)[4]?=_
  rw[hw]
  rfl
 refine Qn ⋯ ⋯ ⋯ ((r 0 79 none ⋯).trans ((r 1 78 _ ⋯).trans ((r 2 77 _ ⋯).trans ((r 3 76 _ ⋯).trans (NH e)))))
end
noncomputable def Qq(x:List Nat):List (List Nat)->Nat
 |[]=>0
 |y::t=>cond (Fq y x) 0 (Qq x t+1)
noncomputable def mA(p:Pc):List (Nat×Nat):=[(0,1),(0,2),(1,2)]++p.cut.flatMap λt=>(t.drop 1).map λc=>(Qq c p.names,Qq (hd0 t) p.names)
noncomputable def iU(l:List (Nat×Nat)):List AV:=l.map λt=>.tup [.int t.1,.int t.2]
def H17(ot:AV)(p:Pc)(f:Int)(Lt:List AV):List AO:=A8 [.cell (some ot),.cell (some (sL (wN p 3))),.cell (some (I8 (p.cut.getD 3 []))),.cell (some (.lst (p.names.map sL)))] (A8 (FP 6 (.cell none)) (.cell (some (.loc 14))::(
 .dict [("_initial_size",.int f)]::.acc 11 (p.left.map λw=>.tup [.str " ",sL w])::.list (p.words.map sL)::.list Lt::A8 (FP 4 (.raw 2)) [.list (iU (mA p))])))
def yt(sc nu qu:AV)(p:Pc)(f:Int)(wh:Aa)(g:Nat->Int):Lo:=A8 (Nt sc nu qu p f wh g) [("tied",.loc 19)]
def zx(sc nu qu ot:AV)(f:Int)(wh:Aa)(g:Nat->Int)(Lt:List AV)(b:Aa)(p:Pc):Ab Rx:=Xs (ev 118) A6 (Nt sc nu qu p f wh g) ⟨TC ot p f (some (sL (wN p 3))) Lt 4,b⟩ ((Ck.drop 16).take 2)
def zy(sc nu qu ot:AV)(f:Int)(wh:Aa)(g:Nat->Int)(Lt:List AV)(b:Aa)(p:Pc):Ab Rx:=some ⟨.next,yt sc nu qu p f wh g,⟨H17 ot p f Lt,b⟩⟩
def vL(sc nu qu:AV)(p:Pc)(f:Int)(wh:Aa)(g:Nat->Int):Nat->AV
 |0=>sc
 |1=>nu
 |2=>.lst (p.l.map λ(i:Nat)=>AV.int i)
 |3=>jh g
 |4=>qu
 |5=>.int f
 |6=>.loc 12
 |7=>.bool wh
 |8=>.loc 13
 |9=>.lst (p.left.map sL)
 |10=>.lst (p.cut.map I8)
 |11=>sL p.text
 |12=>.lst (p.left.map sL)
 |_=>.none
def qL(ot:AV)(p:Pc)(f:Int):Nat->AO
 |0=>.cell (some ot)
 |2=>.cell (some (I8 (p.cut.getD 3 [])))
 |11=>.dict [("_initial_size",.int f)]
 |12=>.acc 11 (p.left.map λw=>.tup [.str " ",sL w])
 |19=>.list (iU (mA p))
 |_=>.raw 2
section
variable{sc nu qu ot:AV}{p:Pc}{f:Int}{wh:Aa}{g:Nat->Int}{b:Aa}{l:B8}
theorem X18:(ev 118).X A6 (yt sc nu qu p f wh g) ⟨H17 ot p f (je (A1 l)),b⟩ (Bb Ck 18)=some ⟨.next,FE (vL sc nu qu p f wh g),⟨bC (oS (qL ot p f) (sL (wN p 3)) (p.names.map sL) (p.words.map sL)) (A1 l) 0 0,b⟩⟩:=⋯
end
theorem EC{lo lo1:Lo}{S S1:St}(h:Ck.drop k=Bb Ck k::Ck.drop (k+1))(hX:(ev 118).X A6 lo S (Bb Ck k)=some ⟨.next,lo1,S1⟩):Xs (ev 118) A6 lo S (Ck.drop k)=Xs (ev 118) A6 lo1 S1 (Ck.drop (k+1)):=
 (Ai (Xs (ev 118) A6 lo S) h).trans (Ai (λo:Ab Rx=>o.bind λx=>cond x.fl.C8 (Xs (ev 118) A6 x.lo x.S (Ck.drop (k+1))) (some x)) hX)
theorem tg(l:B8):lP (A1 l) (RR l) (Gv l) (FJ l) where
 lr:=B1 7
 lg:=B1 7
 lb:=B1 7
 g7:=λi hi=>getD_mem hi
 mr:=λx=>Vc x
 mg:=λx=>Vd x
 mb:=λx=>Ve x
structure iV(q:Nat->AO)(ns wf cf:Nat->AV)(l:B8)(v:Nat->AV)(qu:Int)(ws:Nat->List Nat)(TI:List AV):Prop where
 le:∀p k,l p k<=36
 lit:∀p q,mh (l p) (l q)
 ti:q 19=.list TI
 pair:∀s,s<7->∀p,p<s->∃t,Hy l (RR l) (Gv l) (FJ l) TI p s t
 one:∀s,s<7->KA l s s=1
 pt:∀ζ x i,i<4->iP q ns wf cf l (RR l) (Gv l) (FJ l) ζ true v x qu i (ws i)
theorem mB(h:∀p k,l p k<=36):obs (yh l) true=true:=by
 have s:∀p k,(DJ ((l p k:Nat):Int)&&true)=true:=λp k=>hJ (smF (AA (h p k) ⋯))
 exact Es (AB (s _ _) (AB (s _ _) (AB (s _ _) (AB (s _ _) (AB (s _ _) (AB (s _ _) (AB (s _ _) (AB (s _ _) (AB (s _ _) (AB (s _ _) (AB (s _ _) (AB (s _ _) (AB (s _ _) (AB (s _ _) (AB (s _ _) (AB (s _ _) (AB (s _ _) (AB (s _ _) (AB (s _ _) (AB (s _ _) (AB (s _ _) FZ)))))))))))))))))))))
theorem back{v:Nat->AV}{qu:Int}{ws:Nat->List Nat}{TI:List AV}(K:iV q ns wf cf l v qu ws TI):
  ∃lo H,Xs (ev 118) A6 (FE (vD v qu cf)) ⟨bC (oS q wd (MM ns) (w4 wf)) (A1 l) 0 0,true⟩ (Ck.drop 19)=some ⟨.ret (.bool true),lo,⟨H,true⟩⟩:=by
 have hl:∀p k,l p k<=63:=λp k=>AA (K.le p k) ⋯
 have W:=tg l
 have m7:∀P:Nat->Nat->Aa,∀p,p∈row P 7->p<7:=λP p h=>Dh.mp h
 have h80:∀P:Nat->Nat->Aa,(row P 7).length<80:=λP=>by rw[B1];decide
 have h7:∀k,(GQ (RR l) (Gv l) (FJ l) k).length<80/\∀p,p∈GQ (RR l) (Gv l) (FJ l) k->p<7:=λk=>by
  unfold GQ
  split
  ·exact⟨h80 _,m7 _⟩
  ·exact⟨h80 _,m7 _⟩
  ·exact⟨h80 _,m7 _⟩
 have x19:=X19 (o:=oS q wd (MM ns) (w4 wf)) (L:=A1 l) (v:=vD v qu cf) (b:=true)
 have x20:=X20 (o:=oS q wd (MM ns) (w4 wf)) (pt:=PQ 7) (L:=A1 l) (R:=RR l) (G:=Gv l) (B:=FJ l) (v:=vD v qu cf) (b:=true) (h80 _)
 have x21:=X21 (o:=oS q wd (MM ns) (w4 wf)) (pt:=PQ 7) (L:=A1 l) (R:=RR l) (G:=Gv l) (B:=FJ l) (v:=vD v qu cf) (b:=true) (rw:=rK (FJ l)) (h80 _) (h80 _) (m7 _)
 have x22:=X22 (o:=oS q wd (MM ns) (w4 wf)) (pt:=PQ 7) (L:=A1 l) (R:=RR l) (G:=Gv l) (B:=FJ l) (v:=vD v qu cf) (b:=true) (rw:=rK (FJ l)) (pb:=.lst (Di (A1 l) 2 (FJ l))) (pr:=.lst (Di (A1 l) 0 (RR l)))
 have x23:=X23 (o:=oS q wd (MM ns) (w4 wf)) (pt:=PQ 7) (v:=vD v qu cf) (b:=true) (rw:=rK (FJ l)) W
 have x24:=X24 (o:=oS q wd (MM ns) (w4 wf)) (pt:=PQ 7) (R:=RR l) (G:=Gv l) (B:=FJ l) (D:=rL (A1 l) (RR l) (Gv l) (FJ l)) (b:=true) (v:=vD v qu cf) hl
 refine(X25 (o:=oS q wd (MM ns) (w4 wf)) (pt:=PQ 7) (v:=vD v qu cf) (b:=true) W K.ti K.pair K.one).elim λZ y=>y.elim λx y=>?_
 have x25:=y.1
 rw[show HZ (oS q wd (MM ns) (w4 wf)) (PQ 7) l (RR l) (Gv l) (FJ l) []=Gs (oS q wd (MM ns) (w4 wf)) (PQ 7) (A1 l) (RR l) (Gv l) (FJ l) (rL (A1 l) (RR l) (Gv l) (FJ l)) from DX _,show HZ (oS q wd (MM ns) (w4 wf)) (PQ 7) l (RR l) (Gv l) (FJ l) Z=_ from yg y.2] at x25
 generalize (λi=>Z.getD i AO.OI)=ζ at x25
 have x26:=X26 (q:=q) (wd:=wd) (nm:=MM ns) (wl:=w4 wf) (l:=l) (R:=RR l) (G:=Gv l) (B:=FJ l) (ζ:=ζ) (b:=true) (v:=vD v qu cf) (x:=x)
 rw[mB K.le] at x26
 have x27:=X27 (q:=q) (wd:=wd) (nm:=MM ns) (wl:=w4 wf) (l:=l) (R:=RR l) (G:=Gv l) (B:=FJ l) (ζ:=ζ) (b:=true) (v:=vD v qu cf) (x:=x)
 refine(X28 (wd:=wd) K.lit (K.pt ζ x) h7).elim λg x28=>?_
 have x29:=X29 (q:=q) (wd:=sL (ws 3)) (nm:=MM ns) (wl:=w4 wf) (c:=⟨some (.int 6),some (Vz l),some FF.f,some (br l 6),some (.int 2)⟩) (l:=l) (ζ:=ζ) (b:=true) (v:=vD v qu cf) (x:=x) (g:=g)
 refine⟨iR (vD v qu cf) l x g,Lu q (sL (ws 3)) (MM ns) (w4 wf) ⟨some (.int 6),some (Vz l),some FF.f,some (br l 6),some (.int 2)⟩ (some (AZ (l 6)).i) l ζ 5,?_⟩
 refine(EC (k:=19) ⋯ x19).trans ((EC (k:=20) ⋯ x20).trans ((EC (k:=21) ⋯ x21).trans ((EC (k:=22) ⋯ x22).trans ((EC (k:=23) ⋯ x23).trans ((EC (k:=24) ⋯ x24).trans ((EC (k:=25) ⋯ x25).trans ((EC (k:=26) ⋯ x26).trans ((EC (k:=27) ⋯ x27).trans ((EC (k:=28) ⋯ x28).trans ?_)))))))))
 exact(EC (k:=29) ⋯ x29).trans ((EC (k:=30) ⋯ X30).trans ((EC (k:=31) ⋯ X31).trans (Kt (l:=Ck.drop 32) ⋯ X32 rfl)))
structure Tab(p:Pc):Prop where
 f7:∀sc nu gr qu ot f wh,F7 sc nu gr qu ot f wh p=G7 sc nu gr qu ot f wh p
 zz:∀sc nu gr qu ot f,f<4->zu sc nu gr qu ot f p=zv sc nu gr qu ot f p
 t6:∀sc nu qu ot f wh g Lt b i,i<4->yo sc nu qu ot f wh g Lt b i p=yq ot f g Lt b i p
 zC:∀sc nu qu ot f wh g Lt b,zx sc nu qu ot f wh g Lt b p=zy sc nu qu ot f wh g Lt b p
noncomputable def nsP(p:Pc)(i:Nat):AV:=sL (wN p i)
noncomputable def cfP(p:Pc)(i:Nat):AV:=I8 (p.cut.getD i [])
structure Lgt(p:Pc)(g:Nat->Nat):Prop where
 lt:∀i j,my p i j<3
 pos:∀i,i<4->1<=dW p g i 2
 up:∀i k,dW p g i k<=36
 back:∀sc nu qu ot f wh,iV (qL ot p f) (nsP p) (nsP p) (cfP p) (Ba p g) (vL sc nu (.int qu) p f wh (gC g)) qu (wN p) (iU (mA p))
theorem yu:FE (vL sc nu (.int qu) p f wh g)=FE (vD (vL sc nu (.int qu) p f wh g) qu (cfP p)):=⋯
theorem front(hx:xs.length<=63)(ha:(VN xs).fmod 3=(p.a:Nat))(hb:((VN xs).fdiv 3).fmod 5=(p.b:Nat))(hc:((VN xs).fdiv 15).fmod 7=(p.c:Nat))(hf:(NN xs).fmod 4=(f:Nat))(h4:f<4)
  (hg:gI (NN xs)=gC g)(h1:∀j,g j<=4)(T:Tab p)(Y:Lgt p g):∃lo H,Xs (ev 118) A6 (mw xs) ⟨H0,true⟩ Ck=some ⟨.ret (.bool true),lo,⟨H,true⟩⟩:=by
 have x0:=X0 hx
 have x1:=yn (sc:=.lst (xs.map .int)) (nu:=VN xs) (ot:=NN xs)
 rw[td ha hb hc hf,hg] at x1
 generalize AV.lst (xs.map .int)=sc at x0 x1
 have x4:=s4 (sc:=sc) (nu:=.int (VN xs)) (gr:=jh (gC g)) (qu:=.int ((NN xs).fdiv 4)) (ot:=.int (NN xs)) (p:=p) f h4
 have x7:=T.f7 sc (.int (VN xs)) (jh (gC g)) (.int ((NN xs).fdiv 4)) (.int (NN xs)) f (Aw f 0)
 have yd:=T.zz sc (.int (VN xs)) (jh (gC g)) (.int ((NN xs).fdiv 4)) (.int (NN xs)) f h4
 have x14:=X14 (sc:=sc) (nu:=.int (VN xs)) (qu:=.int ((NN xs).fdiv 4)) (ot:=.int (NN xs)) (p:=p) (f:=f) (wh:=Aw f 0) (g:=g) (b:=true)
 have x15:=X15 (sc:=sc) (nu:=.int (VN xs)) (qu:=.int ((NN xs).fdiv 4)) (ot:=.int (NN xs)) (p:=p) (f:=f) (wh:=Aw f 0) (g:=g) ⟨λi hi Lt b=>T.t6 _ _ _ _ _ _ _ _ _ i hi,Y.lt,Y.pos,Y.up,h1⟩ rfl
 have x16:=T.zC sc (.int (VN xs)) (.int ((NN xs).fdiv 4)) (.int (NN xs)) f (Aw f 0) (gC g) (je (A1 (Ba p g))) true
 have x18:=X18 (sc:=sc) (nu:=.int (VN xs)) (qu:=.int ((NN xs).fdiv 4)) (ot:=.int (NN xs)) (p:=p) (f:=f) (wh:=Aw f 0) (g:=gC g) (b:=true) (l:=Ba p g)
 rw[yu] at x18
 unfold F7 G7 at x7
 unfold zu zv at yd
 unfold zx zy at x16
 refine(back (wd:=sL (wN p 3)) (Y.back sc (.int (VN xs)) ((NN xs).fdiv 4) (.int (NN xs)) f (Aw f 0))).elim λlo z=>z.elim λH z=>⟨lo,H,?_⟩
 have sp:∀k n,Ck.drop k=(Ck.drop k).take n++Ck.drop (k+n):=λk n=>by rw[<-List.drop_drop,H4]
 have c:∀{k n:Nat}{lo lo1:Lo}{S S1:St},Xs (ev 118) A6 lo S ((Ck.drop k).take n)=some ⟨.next,lo1,S1⟩->Xs (ev 118) A6 lo S (Ck.drop k)=Xs (ev 118) A6 lo1 S1 (Ck.drop (k+n)):=λ{k n lo lo1 S S1} h=>(Ai (Xs (ev 118) A6 lo S) (sp k n)).trans (Jb h)
 exact(EC (k:=0) ⋯ x0).trans ((c (k:=1) (n:=3) x1).trans ((c (k:=4) (n:=3) x4).trans ((c (k:=7) (n:=3) x7).trans ((c (k:=10) (n:=4) yd).trans ((EC (k:=14) ⋯ x14).trans ((EC (k:=15) ⋯ x15).trans ((c (k:=16) (n:=2) x16).trans ((EC (k:=18) ⋯ x18).trans z))))))))
theorem tj{lo:Lo}(h:Xs (ev 118) A6 (mw xs) ⟨H0,true⟩ Ck=some ⟨.ret (.bool true),lo,⟨H,true⟩⟩):∃S,aj 118 xs=some ⟨.bool true,S⟩/\S.ob=true:=by
 refine⟨⟨[],true⟩,?_,rfl⟩
 refine(show aj 118 xs=CM (ev 118) y3 [.lst (xs.map .int)] [] 0 ⟨[],true⟩ from ⋯).trans ?_
 exact gS (fi:=y3) (binds:=mw xs) (lo:=mw xs) (Bv:=lo) (fl:=.ret (.bool true)) (S1:=⟨H0,true⟩) (S2:=⟨H,true⟩) ⋯ ⋯ ⋯ ⋯ h rfl rfl
theorem iW(T:∀a b c,a<3->b<5->c<7->Tab ⟨a,b,c⟩)(Y:∀a b c,a<3->b<5->c<7->∀g:Nat->Nat,(∀j,1<=g j/\g j<=4)->Lgt ⟨a,b,c⟩ g)(xs:List Int)(hx:xs.length<=63):∃S,aj 118 xs=some ⟨.bool true,S⟩/\S.ob=true:=by
 have fm:∀(x:Int)(n:Nat),0<n->∃k:Nat,x.fmod n=(k:Nat)/\k<n:=λx n hn=>by
  rw[NS _ (HF n)]
  have h0:=Lz x (show(n:Int)≠0 by exact(pw [.t (.k 0) .p] (.n (.E (.n .p) (.j 0))) [] [_]) hn)
  have h1:=Lx x (show(0:Int)<n by exact(pw [.t (.k 0) .p] (.T (.j 0) (.n .p)) [] [_]) hn)
  exact⟨(x%n).toNat,(Q3 h0).symm,by exact(pw [.L (.j 0) .p,.T .p (.n .p)] (.t (.d .p) .p) [_] [_]) h0 h1⟩
 refine(fm (VN xs) 3 ⋯).elim λa ha=>(fm ((VN xs).fdiv 3) 5 ⋯).elim λb hb=>(fm ((VN xs).fdiv 15) 7 ⋯).elim λc hc=>(fm (NN xs) 4 ⋯).elim λf hf=>?_
 have hg:∀k,∃n:Nat,gI (NN xs) k=(n:Nat)/\1<=n/\n<=4:=λk=>(fm (((NN xs).fdiv 12).fdiv (4^k)) 4 ⋯).elim λn hn=>⟨1+n,by unfold gI;rw[show(4:Int)=((4:Nat):Int) from rfl,show(((4:Nat):Int)^k)=4^k from rfl,hn.1];exact(pw [] (.E (.A (.j 1) (.n .p)) (.n (.A (.k 1) .p))) [] [_]),by exact(pw [] (.l (.k 1) (.A (.k 1) .p)) [] [_]),by exact(pw [.a (.E .p (.n .p)) (.t .p (.k 4))] (.l (.A (.k 1) .p) (.k 4)) [_] [_]) hn⟩
 have e:gI (NN xs)=gC λk=>(hg k).choose:=funext λk=>(hg k).choose_spec.1
 exact(front hx ha.1 hb.1 hc.1 hf.1 hf.2 e (λj=>(hg j).choose_spec.2.2) (T a b c ha.2 hb.2 hc.2) (Y a b c ha.2 hb.2 hc.2 _ λj=>(hg j).choose_spec.2)).elim λlo z=>z.elim λH z=>tj z
theorem TF:∀(Q:List Nat)(acc:List Int),acc.Nodup->∃is,Nc (CP Q) acc=some is/\is.Nodup/\∀x,x∈is↔x∈acc\/∃q,q∈Q/\x=((q:Nat):Int)
 |[],acc,h=>⟨acc,rfl,h,λx=>⟨.inl,λh=>h.elim id λ⟨_,h,_⟩=>nomatch h⟩⟩
 |q::Q,acc,h=>by
  have e:Nc (CP (q::Q)) acc=Nc (CP Q) (cond (acc.any λy=>decide (y=(q:Int))) acc ((q:Int)::acc)):=rfl
  rw[e]
  cases a:acc.any λy=>decide (y=(q:Int)) with
  |true=>
   refine(TF Q acc h).elim λis z=>⟨is,z.1,z.2.1,λx=>(z.2.2 x).trans ?_⟩
   refine(JP.mp a).elim λy hy=>?_
   have hy2:=Bi hy.2
   refine⟨λw=>w.elim .inl λ⟨r,h1,h2⟩=>.inr ⟨r,.tail _ h1,h2⟩,λw=>w.elim .inl λ⟨r,h1,h2⟩=>(Bc.mp h1).elim (λe=>.inl (by rw[h2,e,<-hy2];exact hy.1)) λh1=>.inr ⟨r,h1,h2⟩⟩
  |false=>
   have nq:(q:Int)∉acc:=λm=>by
    have:=List.any_eq_false.mp a _ m
    exact this (AU rfl)
   refine(TF Q ((q:Int)::acc) (ED.mpr ⟨nq,h⟩)).elim λis z=>⟨is,z.1,z.2.1,λx=>(z.2.2 x).trans ?_⟩
   refine⟨λw=>w.elim (λw=>(Bc.mp w).elim (λe=>.inr ⟨q,.head _,e⟩) .inl) λ⟨r,h1,h2⟩=>.inr ⟨r,.tail _ h1,h2⟩,λw=>w.elim (λw=>.inl (.tail _ w)) λ⟨r,h1,h2⟩=>(Bc.mp h1).elim (λe=>.inl (by rw[h2,e];exact .head _)) λh1=>.inr ⟨r,h1,h2⟩⟩
noncomputable def I7:List Int:=[0,1,2,3,4,5,6]
theorem TG:x∈I7↔∃p:Nat,p<7/\x=p:=by
 constructor
 ·intro h
  simp only[I7,Bc,N1,OF] at h
  exact⟨x.toNat,by exact(pw [.o (.E .p (.j 0)) (.o (.E .p (.j 1)) (.o (.E .p (.j 2)) (.o (.E .p (.j 3)) (.o (.E .p (.j 4)) (.o (.E .p (.j 5)) (.E .p (.j 6)))))))] (.t (.d .p) (.k 7)) [_] []) h,by exact(pw [.o (.E .p (.j 0)) (.o (.E .p (.j 1)) (.o (.E .p (.j 2)) (.o (.E .p (.j 3)) (.o (.E .p (.j 4)) (.o (.E .p (.j 5)) (.E .p (.j 6)))))))] (.E .p (.n (.d .p))) [_] []) h⟩
 ·exact λ⟨p,h,e⟩=>e▸VG (P:=λp:Nat=>(p:Int)∈I7) ⋯ ⋯ ⋯ ⋯ ⋯ ⋯ ⋯ p h
theorem Acl{Q:List Nat}(h7:∀q,q∈Q->q<7)(hf:∀p,p<7->p∈Q):∃is,Nc (CP Q) []=some is/\decide ((is.length:Int)=7)=true:=by
 refine(TF Q [] .nil).elim λis z=>⟨is,z.1,AU ?_⟩
 have a:is.length<=7:=z.2.1.length_le_of_subset (l₂:=I7) λx hx=>((z.2.2 x).mp hx).elim (λh=>nomatch h) λ⟨q,h1,h2⟩=>TG.mpr ⟨q,h7 q h1,h2⟩
 have b: 7<=is.length:=R8 (l₁:=I7) ⋯ λx hx=>(TG.mp hx).elim λp h=>(z.2.2 x).mpr (.inr ⟨p,hf p h.1,h.2⟩)
 exact(pw [.l .p (.k 7),.l (.k 7) .p] (.E (.n .p) (.j 7)) [] [_]) a b
theorem Acm{Q:List Nat}(h7:∀q,q∈Q->q<7)(hx:x<7)(hf:x∉Q):∃is,Nc (CP Q) []=some is/\decide ((is.length:Int)=7)=false:=by
 refine(TF Q [] .nil).elim λis z=>⟨is,z.1,Ct ?_⟩
 have nx:(x:Int)∉is:=λh=>((z.2.2 _).mp h).elim (λh=>nomatch h) λ⟨q,h1,h2⟩=>hf (LA.inj h2▸h1)
 have a:((x:Int)::is).length<=7:=(ED.mpr ⟨nx,z.2.1⟩).length_le_of_subset (l₂:=I7) λy hy=>(Bc.mp hy).elim (λe=>TG.mpr ⟨x,hx,e⟩) λhy=>((z.2.2 y).mp hy).elim (λh=>nomatch h) λ⟨q,h1,h2⟩=>TG.mpr ⟨q,h7 q h1,h2⟩
 have a:is.length+1<=7:=a
 exact(pw [.l (.A .p (.k 1)) (.k 7)] (.n (.E (.n .p) (.j 7))) [] [_]) a
theorem Lp:∀{t:List Nat},PN P t->(x∈t.drop (cnt P t)↔x∈t/\P x=false)
 |[],_=>⟨nofun,λh=>nomatch h.1⟩
 |q::t,m=>by
  have m:=FK.mp m
  show x∈(q::t).drop (cond (P q) (cnt P t+1) (cnt P t))↔_
  cases e:P q with
  |true=>
   refine(Lp m.2).trans ⟨λh=>⟨.tail _ h.1,h.2⟩,λh=>⟨(Bc.mp h.1).elim (λz=>?_) id,h.2⟩⟩
   rw[z,e] at h
   nomatch h.2
  |false=>
   have all:∀y,y∈q::t->P y=false:=λy hy=>(Bc.mp hy).elim (λz=>z▸e) λhy=>by
    cases e':P y with
    |false=>rfl
    |true=>rw[m.1 y hy e'] at e;nomatch e
   rw[cnt_none λy hy=>all y (.tail _ hy)]
   exact⟨λh=>⟨h,all x h⟩,λh=>h.1⟩
theorem Lq(h:∀q,P q=true->P' q=true):∀t:List Nat,cnt P t<=cnt P' t
 |[]=>AP _
 |q::t=>by
  rw[cnt_cons,cnt_cons]
  refine B5 ?_ (Lq h t)
  cases e:P q with
  |true=>rw[h q e];exact AP _
  |false=>exact Co _
section
variable{l:B8}
theorem tq:x∈(RR l).drop (max (k0 l (RR l) o) (k0 l (RR l) s))↔x<7/\max (l o 0) (l s 0)<=l x 0:=by
 have e:max (k0 l (RR l) o) (k0 l (RR l) s)=cnt (λq=>decide (A1 l q 0<((max (l o 0) (l s 0):Nat):Int))) (RR l):=by
  have c:∀a b:Nat,l a 0<=l b 0->k0 l (RR l) a<=k0 l (RR l) b:=λa b h=>Lq (λq z=>AU (Int.lt_of_lt_of_le (Bi z) (DM.mpr h))) _
  rcases Rr (l o 0) (l s 0) with h | h
  ·rw[JV (c _ _ h),JV h];rfl
  ·rw[JW (c _ _ h),JW h];rfl
 rw[e]
 refine(Lp (Vc _)).trans (and_congr Dh ?_)
 rw[WW]
 exact DD.trans DM
theorem tr:x∈(Gv l).drop (max (TN l (Gv l) o) (TN l (Gv l) s))↔x<7/\max (l o 1) (l s 1)<l x 1:=by
 have e:max (TN l (Gv l) o) (TN l (Gv l) s)=cnt (λq=>decide (A1 l q 1<=((max (l o 1) (l s 1):Nat):Int))) (Gv l):=by
  have c:∀a b:Nat,l a 1<=l b 1->TN l (Gv l) a<=TN l (Gv l) b:=λa b h=>Lq (λq z=>AU (BA (Bi z) (DM.mpr h))) _
  rcases Rr (l o 1) (l s 1) with h | h
  ·rw[JV (c _ _ h),JV h];rfl
  ·rw[JW (c _ _ h),JW h];rfl
 rw[e]
 refine(Lp (Vd _)).trans (and_congr Dh ?_)
 rw[WW]
 exact Fe.trans DB
theorem tv:x∈(FJ l).drop (max (k2 l (FJ l) o) (k2 l (FJ l) s))↔x<7/\max (l o 2) (l s 2)<l x 2:=by
 have e:max (k2 l (FJ l) o) (k2 l (FJ l) s)=cnt (λq=>decide (A1 l q 2<=((max (l o 2) (l s 2):Nat):Int))) (FJ l):=by
  have c:∀a b:Nat,l a 2<=l b 2->k2 l (FJ l) a<=k2 l (FJ l) b:=λa b h=>Lq (λq z=>AU (BA (Bi z) (DM.mpr h))) _
  rcases Rr (l o 2) (l s 2) with h | h
  ·rw[JV (c _ _ h),JV h];rfl
  ·rw[JW (c _ _ h),JW h];rfl
 rw[e]
 refine(Lp (Ve _)).trans (and_congr Dh ?_)
 rw[WW]
 exact Fe.trans DB
def Z0(l:B8)(o s:Nat):List Nat:=o::s::((RR l).drop (max (k0 l (RR l) o) (k0 l (RR l) s))++((Gv l).drop (max (TN l (Gv l) o) (TN l (Gv l) s))++(FJ l).drop (max (k2 l (FJ l) o) (k2 l (FJ l) s))))
theorem Z2:Le l (RR l) (Gv l) (FJ l) o s=CP (Z0 l o s):=by
 unfold Le ZG ZF Vl CP Z0
 rw[EF,EF,LK,LK,N2,N2,N2,FL,FL] at ⊢
 rfl
theorem Lr(ho:o<7)(hs:s<7):x∈Z0 l o s↔x=o\/x=s\/(x<7/\(max (l o 0) (l s 0)<=l x 0\/max (l o 1) (l s 1)<l x 1\/max (l o 2) (l s 2)<l x 2)):=by
 unfold Z0
 rw[Bc,Bc,LJ,LJ,tq,tr,tv,<-and_or_left,<-and_or_left]
def oR(l:B8)(o s:Nat):Prop:=∀x,x<7->x≠o->x≠s->max (l o 0) (l s 0)<l x 0\/max (l o 1) (l s 1)<l x 1\/max (l o 2) (l s 2)<l x 2
def oT(l:B8)(o s:Nat):Prop:=∃x,x<7/\x≠o/\x≠s/\l x 0<max (l o 0) (l s 0)/\l x 1<=max (l o 1) (l s 1)/\l x 2<=max (l o 2) (l s 2)
theorem Ls:bp l o s x=true↔l x 0<=max (l o 0) (l s 0)/\l x 1<=max (l o 1) (l s 1)/\l x 2<=max (l o 2) (l s 2):=by
 unfold bp Np
 rw[HQ,HQ,Gl,Gl,Gl]
theorem Yn:KA l o s=(GS.filter (bp l o s)).length:=by
 rw[Hz]
 unfold GS KA
 rw[cnt_cons,cnt_cons,cnt_cons,cnt_cons,cnt_cons,cnt_cons,cnt_cons]
 rfl
theorem Jg:bp l o s o=true/\bp l o s s=true:=⟨Ls.mpr ⟨LP _ _,LP _ _,LP _ _⟩,Ls.mpr ⟨LO _ _,LO _ _,LO _ _⟩⟩
theorem iY:x∈GS↔x<7:=Ff (n:=7)
theorem nd7(P:Nat->Aa):(GS.filter P).Nodup:=List.Nodup.sublist List.filter_sublist ⋯
theorem iZ:KA l o s=KA l s o:=by
 unfold KA bp Np
 simp only[Nat.max_comm (l o _)]
theorem t9(e:x=a)(h1:a<7)(h2:bp l o s a=true):x∈GS.filter (bp l o s):=by rw[e];exact JS.mpr ⟨iY.mpr h1,h2⟩
theorem mC(ho:o<7)(hs:s<7)(hn:o≠s)(h:oR l o s)(ht:∀H,i7 H (.tup [.int o,.int s]) TI=some true):Hy l (RR l) (Gv l) (FJ l) TI o s true where
 xO:=ht
 nub:=by
  rw[Z2]
  refine Acl (λq hq=>((Lr ho hs).mp hq).elim (λe=>e▸ho) λw=>w.elim (λe=>e▸hs) (·.1)) λp hp=>(Lr ho hs).mpr ?_
  refine(DI (p=o)).elim .inl λh1=>(DI (p=s)).elim (λe=>.inr (.inl e)) λh2=>.inr (.inr ⟨hp,(h p hp h1 h2).elim (λw=>.inl (DY w)) .inr⟩)
 two:=by
  have e:(GS.filter (bp l o s)).length=2:=by
   refine Rp ((nd7 _).length_le_of_subset (l₂:=[o,s]) λx hx=>?_) (R8 (l₁:=[o,s]) (ED.mpr ⟨λm=>hn (CL.mp m),ED.mpr ⟨nofun,.nil⟩⟩) λx hx=>?_)
   ·have m:=JS.mp hx
    refine(DI (x=o)).elim (λe=>e▸.head _) λh1=>(DI (x=s)).elim (λe=>e▸.tail _ (.head _)) λh2=>?_
    have a:=h x (iY.mp m.1) h1 h2;have b:=Ls.mp m.2
    exact((pw [.o (.t (.max .p .q) .r) (.o (.t (.max .s .t) .u) (.t (.max .w .x) .y)),.a (.l .r (.max .p .q)) (.a (.l .u (.max .s .t)) (.l .y (.max .w .x)))] .f [] [_,_,_,_,_,_,_,_,_]) a b).elim
   ·exact(Bc.mp hx).elim (λe=>t9 e ho Jg.1) λhx=>t9 (CL.mp hx) hs Jg.2
  rw[Yn,e];rfl
 sym:=iZ
theorem mD{o s:Nat}(ho:o<7)(hs:s<7)(hn:o≠s)(h:oT l o s)(ht:∀H,i7 H (.tup [.int o,.int s]) TI=some false):Hy l (RR l) (Gv l) (FJ l) TI o s false:=by
 refine h.elim λx hx=>⟨ht,?_,?_,iZ⟩
 ·rw[Z2]
  refine Acm (x:=x) (λq hq=>((Lr ho hs).mp hq).elim (λe=>e▸ho) λw=>w.elim (λe=>e▸hs) (·.1)) hx.1 λm=>?_
  have:=(Lr ho hs).mp m
  exact this.elim hx.2.1 λw=>w.elim hx.2.2.1 λw=>w.2.elim (H7 hx.2.2.2.1) λq=>q.elim (λq=>H7 q hx.2.2.2.2.1) λq=>H7 q hx.2.2.2.2.2
 ·have e: 3<=(GS.filter (bp l o s)).length:=R8 (l₁:=[x,o,s]) (ED.mpr ⟨λm=>(Bc.mp m).elim hx.2.1 λm=>hx.2.2.1 (CL.mp m),ED.mpr ⟨λm=>hn (CL.mp m),ED.mpr ⟨nofun,.nil⟩⟩⟩) λy hy=>
   (Bc.mp hy).elim (λe=>t9 e hx.1 (Ls.mpr ⟨DY hx.2.2.2.1,hx.2.2.2.2⟩)) λhy=>(Bc.mp hy).elim (λe=>t9 e ho Jg.1) λhy=>t9 (CL.mp hy) hs Jg.2
  rw[Yn]
  exact Ct (by exact(pw [.l (.k 3) .p] (.n (.E (.n .p) (.j 2))) [] [_]) e)
theorem mE(hs:s<7)(h:∀x,x<7->x≠s->l s 0<l x 0\/l s 1<l x 1\/l s 2<l x 2):KA l s s=1:=by
 rw[Yn]
 refine Rp ((nd7 _).length_le_of_subset (l₂:=[s]) λx hx=>?_) (R8 (l₁:=[s]) (ED.mpr ⟨nofun,.nil⟩) λx hx=>t9 (CL.mp hx) hs Jg.1)
 have m:=JS.mp hx
 refine(DI (x=s)).elim (λe=>e▸.head _) λh1=>?_
 have a:=h x (iY.mp m.1) h1;have b:=Ls.mp m.2
 exact((pw [.o (.t .p .q) (.o (.t .r .s) (.t .t .u)),.a (.l .q (.max .p .p)) (.a (.l .s (.max .r .r)) (.l .u (.max .t .t)))] .f [] [_,_,_,_,_,_]) a b).elim
end
def inS(p:Pc)(pt k:Nat)(j:Nat):Aa:=match pt with
 |0=>Aw k 0
 |1=>Aw k 1
 |2=>Aw k 2
 |i+3=>Aw (my p i j) k
def yv(p:Pc)(pt k:Nat):List Aa:=L9.map (inS p pt k)
noncomputable def gB:List Aa->List Nat->Nat
 |b::s,x::t=>cond b x 0+gB s t
 |_,_=>0
noncomputable def subB:List Aa->List Aa->Aa
 |a::s,b::t=>cond a (cond b (subB s t) false) (subB s t)
 |_,_=>true
noncomputable def zD:List Aa->List Aa->Aa
 |a::s,b::t=>cond b (cond a (zD s t) true) (zD s t)
 |_,_=>false
theorem sub_le:∀{a b:List Aa}{g:List Nat},a.length=b.length->subB a b=true->gB a g<=gB b g
 |[],[],_,_,_=>AP _
 |a::s,b::t,[],_,_=>AP _
 |a::s,b::t,x::g,hl,h=>by
  have jb:=He hl
  cases a<;>cases b
  ·exact GW (sub_le jb h) _
  ·exact B5 (Co _) (sub_le jb h)
  ·nomatch h
  ·exact GW (sub_le jb h) _
theorem sub_lt:∀{a b:List Aa}{g:List Nat},a.length=b.length->a.length=g.length->(∀x,x∈g->1<=x)->subB a b=true->zD a b=true->gB a g<gB b g
 |[],[],_,_,_,_,_,h=>nomatch h
 |a::s,b::t,[],_,hg,_,_,_=>nomatch hg
 |a::s,b::t,x::g,hl,hg,h1,h,hp=>by
  have jb:=He hl
  have hg2:=He hg
  have hx:=h1 x (.head _)
  have h12:=λy hy=>h1 y (.tail _ hy)
  cases a<;>cases b
  ·exact cI (sub_lt jb hg2 h12 h hp) _
  ·exact Nat.add_lt_add_of_lt_of_le hx (sub_le jb h)
  ·nomatch h
  ·exact cI (sub_lt jb hg2 h12 h hp) _
def sb(p:Pc)(a b k:Nat):Aa:=subB (yv p a k) (yv p b k)
def st(p:Pc)(a b k:Nat):Aa:=cond (sb p a b k) (zD (yv p a k) (yv p b k)) false
section
variable{p:Pc}{g:Nat->Nat}
theorem GR(m:Nat->Nat)(g:Nat->Nat)(k:Nat):∀t:List Nat,dK m g k t=gB (t.map λj=>Aw (m j) k) (t.map g)
 |[]=>rfl
 |j::t=>Ai (cond (Aw (m j) k) (g j) 0 + ·) (GR m g k t)
theorem mF:∀pt,pt<7->∀k,k<3->Ba p g pt k=gB (yv p pt k) (L9.map g):=by
 have s:HE g=gB (L9.map λ_=>true) (L9.map g):=by
  unfold HE;exact(pw [] (.e (.A (.A (.A (.A (.A (.A (.A (.A .p .q) .r) .s) .t) .u) .w) .x) .y) (.A .p (.A .q (.A .r (.A .s (.A .t (.A .u (.A .w (.A .x (.A .y (.k 0))))))))))) [] [_,_,_,_,_,_,_,_,_])
 have z: 0=gB (L9.map λ_=>false) (L9.map g):=rfl
 exact VG (M8 s z z) (M8 z s z) (M8 z z s) (M8 (GR _ _ _ _) (GR _ _ _ _) (GR _ _ _ _)) (M8 (GR _ _ _ _) (GR _ _ _ _) (GR _ _ _ _)) (M8 (GR _ _ _ _) (GR _ _ _ _) (GR _ _ _ _)) (M8 (GR _ _ _ _) (GR _ _ _ _) (GR _ _ _ _))
theorem Z3(ha:a<7)(hb:b<7)(hk:k<3)(h:sb p a b k=true):Ba p g a k<=Ba p g b k:=by
 rw[mF a ha k hk,mF b hb k hk]
 exact sub_le ((AY ..).trans (AY ..).symm) h
theorem JM(ha:a<7)(hb:b<7)(hk:k<3)(hg:∀j,1<=g j)(h:st p a b k=true):Ba p g a k<Ba p g b k:=by
 rw[mF a ha k hk,mF b hb k hk]
 unfold st at h
 cases e:sb p a b k with
 |false=>rw[e] at h;nomatch h
 |true=>
  rw[e] at h
  exact sub_lt ((AY ..).trans (AY ..).symm) ((AY ..).trans (AY ..).symm) (λx hx=>(CD.mp hx).elim λj hj=>hj.2▸hg j) e h
def oU(p:Pc)(o s:Nat):Aa:=(mA p).any λt=>Aw t.1 o&&Aw t.2 s
noncomputable def oV(o s x:Nat):Aa:=Aw x o||Aw x s
def ckT(p:Pc)(o s:Nat):Aa:=GS.all λx=>oV o s x||((st p o x 0&&st p s x 0)||((st p o x 1&&st p s x 1)||(st p o x 2&&st p s x 2)))
def ckF(p:Pc)(o s:Nat):Aa:=GS.any λx => !oV o s x&&((st p x o 0||st p x s 0)&&((sb p x o 1||sb p x s 1)&&(sb p x o 2||sb p x s 2)))
def ckO(p:Pc)(s:Nat):Aa:=GS.all λx=>Aw x s||(st p s x 0||(st p s x 1||st p s x 2))
noncomputable def jj(lamp:Nat):Nat×Nat:=match lamp with | 0=>(1,2) | 1=>(0,2) | _=>(0,1)
def VD(p:Pc)(i lamp:Nat):Nat:=Qq (VM (wN p i) lamp) p.names
def yw(p:Pc)(i lamp:Nat):Aa:=(N9 (VD p i lamp) 7&&(st p (VD p i lamp) (i+3) (jj lamp).1&&st p (VD p i lamp) (i+3) (jj lamp).2))&&
 GS.all λq=>Aw q (VD p i lamp)||(sb p (i+3) q (jj lamp).1||(sb p (i+3) q (jj lamp).2||st p (VD p i lamp) q lamp))
def Yo(p:Pc):Aa:=GS.all λs=>(Cn s).all λo=>cond (oU p o s) (ckT p o s) (ckF p o s)
def Yp(p:Pc):Aa:=GS.all (ckO p)&&[0,1,2,3].all λi=>[0,1,2].all λlamp=>yw p i lamp
end
structure Chk(p:Pc):Prop where
 pair:Yo p=true
 rest:Yp p=true
 tri:∀i,i<4->p.cut.getD i []=Lm (wN p i)
 win:∀i,i<4->wN p i∈WI i
 pos:∀i,i<4->(L9.any λj=>Aw (my p i j) 2)=true
structure Pgs:Prop where
 zk:∀q ns wf cf l R G B ζ b v x qu r i w,i<4->w∈WI i->∀lamp,lamp<3->∀h,h<3->(r=none->i=0)->iM q ns wf cf l R G B ζ b v x qu r i lamp h w=iN q ns wf cf l R G B ζ b v x qu r i lamp h w
 f5:∀q ns wf cf l R G B ζ b v x qu n i w,i<4->w∈WI i->∀lamp,lamp<3->∀h,h<3->F5 q ns wf cf l R G B ζ b v x qu n i lamp h w=G5 q ns wf cf l R G B ζ b v x qu n i lamp h w
theorem oW(x:Nat):cond (Aw x 114) 0 (cond (Aw x 103) 1 2)<3:=by rcases Aw x 114 with ⟨⟩<;>rcases Aw x 103 with ⟨⟩<;>decide
theorem VE:∀x y:List Nat,ZZ x y<3
 |[],[]=>Nat.zero_lt_succ _
 |[],_::_=>Nat.zero_lt_succ _
 |x::xs,[]=>oW x
 |x::xs,y::ys=>by
  show cond (Aw x y) (ZZ xs ys) (cond (Aw x 114) 0 (cond (Aw x 103) 1 2))<3
  rcases Aw x y with ⟨⟩
  ·exact oW x
  ·exact VE xs ys
theorem oX(h:∀j,g j<=4):∀t:List Nat,dK m g k t<=4*t.length
 |[]=>AP _
 |j::t=>by
  have a:=oX (m:=m) (k:=k) h t
  have b:cond (Aw (m j) k) (g j) 0<=4:=by rcases Aw (m j) k with ⟨⟩;exact Co _;exact h j
  exact(pw [.l .p (.m 4 .q),.l .r (.k 4)] (.l (.A .r .p) (.m 4 (.A .q (.k 1)))) [] [_,_,_]) a b
theorem i0(h:∀j,1<=g j):∀t:List Nat,(t.any λj=>Aw (m j) k)=true->1<=dK m g k t
 |j::t,a=>by
  rw[Wc] at a
  show 1<=cond (Aw (m j) k) (g j) 0+dK m g k t
  cases e:Aw (m j) k with
  |true=>exact AA (h j) (BF _ _)
  |false=>rw[e] at a;exact AA (i0 h t a) (H8 _ _)
theorem i3(h:∀j,m j<3):∀t:List Nat,dK m g 0 t+dK m g 1 t+dK m g 2 t=(t.map g).sum
 |[]=>rfl
 |j::t=>by
  have a:=i3 (g:=g) h t
  show cond (Aw (m j) 0) (g j) 0+dK m g 0 t+(cond (Aw (m j) 1) (g j) 0+dK m g 1 t)+(cond (Aw (m j) 2) (g j) 0+dK m g 2 t)=(g j::t.map g).sum
  rw[LM,<-a]
  have:=h j
  generalize m j=x at*
  match x,this with
  |0,_=>show g j+_+(0+_)+(0+_)=_;exact(pw [] (.e (.A (.A (.A .p .q) (.A (.k 0) .r)) (.A (.k 0) .s)) (.A .p (.A (.A .q .r) .s))) [] [_,_,_,_])
  |1,_=>show 0+_+(g j+_)+(0+_)=_;exact(pw [] (.e (.A (.A (.A (.k 0) .p) (.A .q .r)) (.A (.k 0) .s)) (.A .q (.A (.A .p .r) .s))) [] [_,_,_,_])
  |2,_=>show 0+_+(0+_)+(g j+_)=_;exact(pw [] (.e (.A (.A (.A (.k 0) .p) (.A (.k 0) .q)) (.A .r .s)) (.A .r (.A (.A .p .q) .s))) [] [_,_,_,_])
theorem mG(h:∀j,g j<=4):HE g<=36:=by
 have VJ:=h 0;have VK:=h 1;have gZ:=h 2;have bE:=h 3;have jf:=h 4;have lS:=h 5;have Tu:=h 6;have xU:=h 7;have:=h 8
 unfold HE;exact(pw [.l .p (.k 4),.l .q (.k 4),.l .r (.k 4),.l .s (.k 4),.l .t (.k 4),.l .u (.k 4),.l .w (.k 4),.l .x (.k 4),.l .y (.k 4)] (.l (.A (.A (.A (.A (.A (.A (.A (.A .p .q) .r) .s) .t) .u) .w) .x) .y) (.k 36)) [] [_,_,_,_,_,_,_,_,_]) VJ VK gZ bE jf lS Tu xU this
theorem Z4(a b:Nat):decide ((a:Int)=b)=Aw a b:=by
 cases e:Aw a b with
 |true=>rw[Cb e];exact AU rfl
 |false=>exact Ct λh=>by rw[LA.inj h,Ib] at e;nomatch e
theorem TH{o s:Nat}:∀t:List (Nat×Nat),i7 H (.tup [.int o,.int s]) (iU t)=some (t.any λx=>Aw x.1 o&&Aw x.2 s)
 |[]=>rfl
 |x::t=>by
  show(some (decide ((x.1:Int)=o)&&(decide ((x.2:Int)=s)&&true))).bind (λb=>(i7 H (.tup [.int o,.int s]) (iU t)).bind λc=>some (b||c))=_
  rw[TH t,Z4,Z4,NR]
  rfl
theorem Z5:∀(t:List (List Nat))(n:Nat),Qq x t<t.length->Qe ⟨x.toArray⟩ (t.map λy=>⟨y.toArray⟩) n=some (n+Qq x t)
 |[],_,h=>AL h (F8 _)
 |y::t,n,h=>by
  show cond (Fq y x) (some n) (Qe ⟨x.toArray⟩ (t.map λy=>⟨y.toArray⟩) (n+1))=some (n+cond (Fq y x) 0 (Qq x t+1))
  change cond (Fq y x) 0 (Qq x t+1)<t.length+1 at h
  cases e:Fq y x with
  |true=>rfl
  |false=>
   rw[e] at h
   exact(Z5 t (n+1) (LN h)).trans (Ai some (by show n+1+Qq x t=n+(Qq x t+1);exact(pw [] (.e (.A (.A .p (.k 1)) .q) (.A .p (.A .q (.k 1)))) [] [_,_])))
theorem NO{f:Nat->Int}:∀{t:List Nat},t.Pairwise (λa b=>f a<=f b)->k∈t->P k=true->(∀q,q∈t->P q=true->q=k\/f k<f q)->∃r,t.filter P=k::r
 |q::t,m,hk,hp,h=>by
  have m:=FK.mp m
  rw[List.filter_cons]
  cases e:P q with
  |true=>
   refine(h q (.head _) e).elim (λz=>⟨t.filter P,by rw[z];rfl⟩) λz=>?_
   exact(Bc.mp hk).elim (λw=>AL z (by rw[w];exact Int.lt_irrefl _)) λw=>AL z (DD.mpr (m.1 k w))
  |false=>
   refine(NO m.2 ((Bc.mp hk).elim (λw=>?_) id) hp λy hy=>h y (.tail _ hy)).elim λr z=>⟨r,z⟩
   rw[<-w,hp] at e
   nomatch e
section
variable{p:Pc}{g:Nat->Nat}
theorem YK(h:(a||b)=true):a=true\/b=true:=VS.mp h
theorem i4(h:GS.all P=true)(x:Nat)(hx:x<7):P x=true:=BV.mp h x (iY.mpr hx)
theorem TJ(h:Aw a b=true):a=b:=Cb h
theorem mH(hg:∀j,1<=g j)(ho:o<7)(hs:s<7)(h:ckT p o s=true):oR (Ba p g) o s:=λx hx h1 h2=>by
 have L:∀k,k<3->(st p o x k&&st p s x k)=true->max (Ba p g o k) (Ba p g s k)<Ba p g x k:=λk hk w=>Nat.max_lt.mpr ⟨JM ho hx hk hg (bt w).1,JM hs hx hk hg (bt w).2⟩
 exact(YK (i4 h x hx)).elim (λw=>(YK w).elim (λw=>AL (TJ w) h1) λw=>AL (TJ w) h2) λw=>(YK w).elim (λw=>.inl (L 0 ⋯ w)) λw=>(YK w).elim (λw=>.inr (.inl (L 1 ⋯ w))) λw=>.inr (.inr (L 2 ⋯ w))
theorem mJ(hg:∀j,1<=g j)(ho:o<7)(hs:s<7)(h:ckF p o s=true):oT (Ba p g) o s:=by
 refine(JP.mp h).elim λx z=>?_
 have hx:=iY.mp z.1
 have a:=bt z.2;have b:=bt a.2;have c:=bt b.2
 have L:∀k,k<3->(sb p x o k||sb p x s k)=true->Ba p g x k<=max (Ba p g o k) (Ba p g s k):=λk hk w=>(YK w).elim (λw=>AA (Z3 hx ho hk w) (LP _ _)) λw=>AA (Z3 hx hs hk w) (LO _ _)
 have n:=VT _▸a.1
 have n2:=NQ.mp n
 refine⟨x,hx,λe=>?_,λe=>?_,(YK b.1).elim (λw=>BW (JM hx ho ⋯ hg w) (LP _ _)) λw=>BW (JM hx hs ⋯ hg w) (LO _ _),L 1 ⋯ c.1,L 2 ⋯ c.2⟩
 ·rw[e,Ib] at n2;nomatch n2.1
 ·rw[e,Ib] at n2;nomatch n2.2
theorem Z6(l:B8)(i q:Nat):∀lamp,lamp<3->(jg l i lamp q=true↔l q (jj lamp).1<l (i+3) (jj lamp).1/\l q (jj lamp).2<l (i+3) (jj lamp).2):=by
 have e:∀a b c d:Nat,(decide ((b:Int)-a<0)&&decide ((d:Int)-c<0))=true↔b<a/\d<c:=λa b c d=>by
  rw[HQ,Gl,Gl];lia
 exact M8 (e _ _ _ _) (e _ _ _ _) (e _ _ _ _)
theorem tB:∀lamp,lamp<3->(jj lamp).1<3/\(jj lamp).2<3:=M8 ⋯ ⋯ ⋯
theorem bu{l:B8}(lamp:Nat)(hl:lamp<3)(hk:k<7)(P:jg l i lamp k=true)(Q:∀q,q<7->jg l i lamp q=true->q=k\/A1 l k lamp<A1 l q lamp):∃r,(GQ (RR l) (Gv l) (FJ l) lamp).filter (jg l i lamp)=k::r:=by
 match lamp,hl with
 |0,_=>exact NO (gN 7) (Dh.mpr hk) P λq hq=>Q q (Dh.mp hq)
 |1,_=>exact NO (gO 7) (Dh.mpr hk) P λq hq=>Q q (Dh.mp hq)
 |2,_=>exact NO (gP 7) (Dh.mpr hk) P λq hq=>Q q (Dh.mp hq)
theorem yx(hg:∀j,1<=g j)(hi:i<4)(hl:lamp<3)(h:yw p i lamp=true):∃k r ys,IH (MM (nsP p))=some ys/\Qe ⟨(VM (wN p i) lamp).toArray⟩ ys 0=some k/\(GQ (RR (Ba p g)) (Gv (Ba p g)) (FJ (Ba p g)) lamp).filter (jg (Ba p g) i lamp)=k::r:=by
 have a:=bt h;have b:=bt a.1;have c:=bt b.2
 have hk:=Bn b.1
 have h3:i+3<7:=(pw [.t .p (.k 4)] (.t (.A .p (.k 3)) (.k 7)) [] [_]) hi
 have o3:=tB lamp hl
 have P:=(Z6 _ _ _ lamp hl).mpr ⟨JM hk h3 o3.1 hg c.1,JM hk h3 o3.2 hg c.2⟩
 have Q:∀q,q<7->jg (Ba p g) i lamp q=true->q=VD p i lamp\/A1 (Ba p g) (VD p i lamp) lamp<A1 (Ba p g) q lamp:=λq hq w=>by
  have w:=(Z6 _ _ _ lamp hl).mp w
  exact(YK (i4 a.2 q hq)).elim (λz=>.inl (TJ z)) λz=>(YK z).elim (λz=>AL w.1 (EJ.mpr (Z3 h3 hq o3.1 z))) λz=>(YK z).elim (λz=>AL w.2 (EJ.mpr (Z3 h3 hq o3.2 z))) λz=>.inr (DB.mpr (JM hk hq hl hg z))
 have R:=bu lamp hl hk P Q
 exact R.elim λr e=>⟨VD p i lamp,r,p.names.map λy=>⟨y.toArray⟩,rfl,(Z5 p.names 0 hk).trans (Ai some (Ia _)),e⟩
theorem tC(C:Chk p)(W:Pgs)(hg:∀j,1<=g j/\g j<=4):Lgt p g:=by
 have h1:=λj=>(hg j).1;have h4:=λj=>(hg j).2
 have dl:∀i k,dW p g i k<=36:=λi k=>oX h4 L9
 have lt:∀i j,my p i j<3:=λi j=>VE _ _
 have sN:=mG h4
 have le:∀pt k,Ba p g pt k<=36:=λpt k=>by
  match pt with
  |0=>show cond (Aw k 0) (HE g) 0<=36;rcases Aw k 0 with ⟨⟩;exact Co _;exact sN
  |1=>show cond (Aw k 1) (HE g) 0<=36;rcases Aw k 1 with ⟨⟩;exact Co _;exact sN
  |2=>show cond (Aw k 2) (HE g) 0<=36;rcases Aw k 2 with ⟨⟩;exact Co _;exact sN
  |i+3=>
   show cond (Bf i 3) (cond (Bf k 2) (dW p g i k) 0) (cond (Aw k 0) (HE g) 0)<=36
   rcases Bf i 3 with ⟨⟩
   ·rcases Aw k 0 with ⟨⟩;exact Co _;exact sN
   ·rcases Bf k 2 with ⟨⟩;exact Co _;exact dl i k
 have tJ:∀pt,Ba p g pt 0+Ba p g pt 1+Ba p g pt 2=HE g:=λpt=>by
  match pt with
  |0=>rfl
  |1=>show 0+HE g+0=_;exact(pw [] (.e (.A (.A (.k 0) .p) (.k 0)) .p) [] [_])
  |2=>show 0+0+HE g=_;exact(pw [] (.e (.A (.k (0+0)) .p) .p) [] [_])
  |i+3=>
   show cond (Bf i 3) (dW p g i 0) (HE g)+cond (Bf i 3) (dW p g i 1) 0+cond (Bf i 3) (dW p g i 2) 0=_
   rcases Bf i 3 with ⟨⟩
   ·rfl
   ·refine(i3 (lt i) L9).trans ?_
    unfold HE;exact(pw [] (.e (.A .p (.A .q (.A .r (.A .s (.A .t (.A .u (.A .w (.A .x (.A .y (.k 0)))))))))) (.A (.A (.A (.A (.A (.A (.A (.A .p .q) .r) .s) .t) .u) .w) .x) .y)) [] [_,_,_,_,_,_,_,_,_])
 refine⟨lt,λi hi=>i0 h1 L9 (C.pos i hi),dl,λsc nu qu ot f wh=>⟨le,λa b=>⟨le a,le b,(tJ a).trans (tJ b).symm⟩,rfl,λs hs o ho=>?_,λs hs=>mE hs λx hx hn=>?_,λζ x i hi=>⟨Ai I8 (C.tri i hi),rfl,λlamp hl h hh r hr=>W.zk _ _ _ _ _ _ _ _ _ _ _ _ _ _ i _ hi (C.win i hi) lamp hl h hh hr,λlamp hl h hh n=>W.f5 _ _ _ _ _ _ _ _ _ _ _ _ _ _ i _ hi (C.win i hi) lamp hl h hh,λlamp hl=>yx h1 hi hl ?_⟩⟩⟩
 ·have c:=BV.mp (i4 C.pair s hs) o (Ff.mpr ho)
  have zE:=EH ho hs
  cases e:oU p o s with
  |true=>
   rw[e] at c
   exact⟨true,mC zE hs (EI ho) (mH h1 zE hs c) λH=>(TH _).trans (Ai some e)⟩
  |false=>
   rw[e] at c
   exact⟨false,mD zE hs (EI ho) (mJ h1 zE hs c) λH=>(TH _).trans (Ai some e)⟩
 ·have c:=i4 (i4 (bt C.rest).1 s hs) x hx
  exact(YK c).elim (λw=>AL (TJ w) hn) λw=>(YK w).elim (λw=>.inl (JM hs hx ⋯ h1 w)) λw=>(YK w).elim (λw=>.inr (.inl (JM hs hx ⋯ h1 w))) λw=>.inr (.inr (JM hs hx ⋯ h1 w))
 ·have c:=BV.mp (BV.mp (bt C.rest).2 i (by revert i;exact VA ⋯ ⋯ ⋯ ⋯)) lamp (M8 ⋯ ⋯ ⋯ lamp hl)
  exact c
end
theorem tD{P:Nat->Prop}(h0:P 0)(h1:P 1)(h2:P 2)(h3:P 3)(h4:P 4):∀p,p<5->P p
 |0,_=>h0 | 1,_=>h1 | 2,_=>h2 | 3,_=>h3 | 4,_=>h4
 |_+5,h=>AL (H8 5 _) (H7 h)
theorem Z7(h:c<7):(⟨a,b,c⟩ :Pc)∈Qp a b:=CD.mpr ⟨c,Ff.mpr h,rfl⟩
theorem TK{α:Type}{F G:Pc->α}(h:(Qp a b).map F=(Qp a b).map G)(hc:c<7):F ⟨a,b,c⟩=G ⟨a,b,c⟩:=LH.mp h _ (Z7 hc)
theorem yz:∀i,i<4->i∈[0,1,2,3]:=VA ⋯ ⋯ ⋯ ⋯
theorem yC{α:Type}{F G:Nat->α}(h:([0,1,2,3]:List Nat).map F=[0,1,2,3].map G)(i:Nat)(hi:i<4):F i=G i:=LH.mp h i (yz i hi)
theorem mK(hc:c<7)(h7:∀sc nu gr qu ot f wh,(Qp a b).map (F7 sc nu gr qu ot f wh)=(Qp a b).map (G7 sc nu gr qu ot f wh))
  (h10:∀sc nu gr qu ot,(([0,1,2,3]:List Nat).map λf=>(Qp a b).map (zu sc nu gr qu ot f))=[0,1,2,3].map λf=>(Qp a b).map (zv sc nu gr qu ot f))
  (h15:∀sc nu qu ot f wh g Lt b',(([0,1,2,3]:List Nat).map λi=>(Qp a b).map (yo sc nu qu ot f wh g Lt b' i))=[0,1,2,3].map λi=>(Qp a b).map (yq ot f g Lt b' i))
  (h16:∀sc nu qu ot f wh g Lt b',(Qp a b).map (zx sc nu qu ot f wh g Lt b')=(Qp a b).map (zy sc nu qu ot f wh g Lt b')):Tab ⟨a,b,c⟩ where
 f7:=λsc nu gr qu ot f wh=>TK (h7 sc nu gr qu ot f wh) hc
 zz:=λsc nu gr qu ot f hf=>TK (yC (h10 sc nu gr qu ot) f hf) hc
 t6:=λsc nu qu ot f wh g Lt b' i hi=>TK (yC (h15 sc nu qu ot f wh g Lt b') i hi) hc
 zC:=λsc nu qu ot f wh g Lt b'=>TK (h16 sc nu qu ot f wh g Lt b') hc
def tF(p:Pc):Aa:=([0,1,2,3]:List Nat).all λi=>(p.cut.getD i []==Lm (wN p i))&&((WI i).contains (wN p i)&&L9.any λj=>Aw (my p i j) 2)
theorem tG(hc:c<7)(h:((Qp a b).all λp=>Yo p&&(Yp p&&tF p))=true):Chk ⟨a,b,c⟩:=by
 have x:=bt (BV.mp h _ (Z7 hc));have y:=bt x.2
 have z:=λi hi=>bt (BV.mp y.2 i (yz i hi))
 exact⟨x.1,y.1,λi hi=>eq_of_beq (z i hi).1,λi hi=>V9.mp (bt (z i hi).2).1,λi hi=>(bt (z i hi).2).2⟩
theorem tH(h12:∀q ns wf cf l R G B ζ b v x qu i,i<4->∀lamp,lamp<3->∀h,h<3->∀r,(r=none->i=0)->(WI i).map (iM q ns wf cf l R G B ζ b v x qu r i lamp h)=(WI i).map (iN q ns wf cf l R G B ζ b v x qu r i lamp h))
  (h5:∀q ns wf cf l R G B ζ b v x qu n i,i<4->∀lamp,lamp<3->∀h,h<3->(WI i).map (F5 q ns wf cf l R G B ζ b v x qu n i lamp h)=(WI i).map (G5 q ns wf cf l R G B ζ b v x qu n i lamp h)):Pgs where
 zk:=λq ns wf cf l R G B ζ b v x qu r i w hi hw lamp hl h hh hr=>LH.mp (h12 q ns wf cf l R G B ζ b v x qu i hi lamp hl h hh r hr) w hw
 f5:=λq ns wf cf l R G B ζ b v x qu n i w hi hw lamp hl h hh=>LH.mp (h5 q ns wf cf l R G B ζ b v x qu n i hi lamp hl h hh) w hw
section
def yD(p:Pc):Aa:=[0,1,2,3].all λi=>(p.cut.getD i []==Lm (wN p i))&&((WI i).contains (wN p i)&&L9.any λj=>Aw (my p i j) 2)
structure Yt(a b:Nat):Prop where
 f7:∀sc nu gr qu ot f wh,(Qp a b).map (F7 sc nu gr qu ot f wh)=(Qp a b).map (G7 sc nu gr qu ot f wh)
 zz:∀sc nu gr qu ot,(([0,1,2,3]:List Nat).map λf=>(Qp a b).map (zu sc nu gr qu ot f))=[0,1,2,3].map λf=>(Qp a b).map (zv sc nu gr qu ot f)
 t6:∀sc nu qu ot f wh g Lt b',(([0,1,2,3]:List Nat).map λi=>(Qp a b).map (yo sc nu qu ot f wh g Lt b' i))=[0,1,2,3].map λi=>(Qp a b).map (yq ot f g Lt b' i)
 zC:∀sc nu qu ot f wh g Lt b',(Qp a b).map (zx sc nu qu ot f wh g Lt b')=(Qp a b).map (zy sc nu qu ot f wh g Lt b')
 ck:((Qp a b).all λp=>Yo p&&(Yp p&&yD p))=true
theorem y00:Yt 0 0:=⟨⋯,⋯,⋯,⋯,⋯⟩
theorem y01:Yt 0 1:=⟨⋯,⋯,⋯,⋯,⋯⟩
theorem y02:Yt 0 2:=⟨⋯,⋯,⋯,⋯,⋯⟩
theorem y03:Yt 0 3:=⟨⋯,⋯,⋯,⋯,⋯⟩
theorem y04:Yt 0 4:=⟨⋯,⋯,⋯,⋯,⋯⟩
theorem y10:Yt 1 0:=⟨⋯,⋯,⋯,⋯,⋯⟩
theorem y11:Yt 1 1:=⟨⋯,⋯,⋯,⋯,⋯⟩
theorem y12:Yt 1 2:=⟨⋯,⋯,⋯,⋯,⋯⟩
theorem y13:Yt 1 3:=⟨⋯,⋯,⋯,⋯,⋯⟩
theorem y14:Yt 1 4:=⟨⋯,⋯,⋯,⋯,⋯⟩
theorem y20:Yt 2 0:=⟨⋯,⋯,⋯,⋯,⋯⟩
theorem y21:Yt 2 1:=⟨⋯,⋯,⋯,⋯,⋯⟩
theorem y22:Yt 2 2:=⟨⋯,⋯,⋯,⋯,⋯⟩
theorem y23:Yt 2 3:=⟨⋯,⋯,⋯,⋯,⋯⟩
theorem y24:Yt 2 4:=⟨⋯,⋯,⋯,⋯,⋯⟩
end
theorem yT:∀a,a<3->∀b,b<5->Yt a b:=M8 (P:=λa=>∀b,b<5->Yt a b) (tD y00 y01 y02 y03 y04) (tD y10 y11 y12 y13 y14) (tD y20 y21 y22 y23 y24)
section
structure Wt(lamp h:Nat):Prop where
 n:∀q ns wf cf l R G B ζ b v x qu,(WI 0).map (iM q ns wf cf l R G B ζ b v x qu none 0 lamp h)=(WI 0).map (iN q ns wf cf l R G B ζ b v x qu none 0 lamp h)
 a0:∀q ns wf cf l R G B ζ b v x qu t,(WI 0).map (iM q ns wf cf l R G B ζ b v x qu (some t) 0 lamp h)=(WI 0).map (iN q ns wf cf l R G B ζ b v x qu (some t) 0 lamp h)
 a1:∀q ns wf cf l R G B ζ b v x qu t,(WI 1).map (iM q ns wf cf l R G B ζ b v x qu (some t) 1 lamp h)=(WI 1).map (iN q ns wf cf l R G B ζ b v x qu (some t) 1 lamp h)
 a2:∀q ns wf cf l R G B ζ b v x qu t,(WI 2).map (iM q ns wf cf l R G B ζ b v x qu (some t) 2 lamp h)=(WI 2).map (iN q ns wf cf l R G B ζ b v x qu (some t) 2 lamp h)
 a3:∀q ns wf cf l R G B ζ b v x qu t,(WI 3).map (iM q ns wf cf l R G B ζ b v x qu (some t) 3 lamp h)=(WI 3).map (iN q ns wf cf l R G B ζ b v x qu (some t) 3 lamp h)
theorem w00:Wt 0 0:=⟨⋯,⋯,⋯,⋯,⋯⟩
theorem w01:Wt 0 1:=⟨⋯,⋯,⋯,⋯,⋯⟩
theorem w02:Wt 0 2:=⟨⋯,⋯,⋯,⋯,⋯⟩
theorem w10:Wt 1 0:=⟨⋯,⋯,⋯,⋯,⋯⟩
theorem w11:Wt 1 1:=⟨⋯,⋯,⋯,⋯,⋯⟩
theorem Acn:Wt 1 2:=⟨⋯,⋯,⋯,⋯,⋯⟩
theorem w20:Wt 2 0:=⟨⋯,⋯,⋯,⋯,⋯⟩
theorem w21:Wt 2 1:=⟨⋯,⋯,⋯,⋯,⋯⟩
theorem w22:Wt 2 2:=⟨⋯,⋯,⋯,⋯,⋯⟩
end
theorem w12:∀q ns wf cf l R G B ζ b v x qu i,i<4->∀lamp,lamp<3->∀h,h<3->∀r,(r=none->i=0)->(WI i).map (iM q ns wf cf l R G B ζ b v x qu r i lamp h)=(WI i).map (iN q ns wf cf l R G B ζ b v x qu r i lamp h):=by
 intro q ns wf cf l R G B ζ b v x qu i hi lamp hl h hh r hr
 have w:=M8 (P:=λlamp=>∀h,h<3->Wt lamp h) (M8 w00 w01 w02) (M8 w10 w11 Acn) (M8 w20 w21 w22) lamp hl h hh
 cases r with
 |none=>
  cases hr rfl
  exact w.n ..
 |some t=>exact VA (P:=λi=>(WI i).map (iM q ns wf cf l R G B ζ b v x qu (some t) i lamp h)=(WI i).map (iN q ns wf cf l R G B ζ b v x qu (some t) i lamp h)) (w.a0 ..) (w.a1 ..) (w.a2 ..) (w.a3 ..) i hi
section
noncomputable def sg2(lamp:Nat):List Nat:=([114,103,98,114].drop lamp).take 2
def zF:List (List Nat):=[]::W3
def ua(w:List Nat)(lamp h:Nat):AV:=.tup [.int (((C7 10 (ML w lamp h)).getLastD []).length:Nat),sL (ML w lamp h)]
def pgA(w:List Nat)(lamp h:Nat):List AV:=[sL w,sL (sg2 lamp),.int h]
def i5(lo:Lo)(o:Ab (Rt AV)):Ab Rx:=(o.bind λx=>(Ua (ev 114) A6 lo x (gK (BU (db 5))) (Ec (BU (db 5)))).bind λy=>some (⟨y.v.2,y.S⟩ :Rt Aa)).bind λx=>cond x.v (Xs (ev 115) A6 lo x.S (B3 (db 5))) (Xs (ev 115) A6 lo x.S (lO (db 5)))
def loP5(wf cf:Nat->AV)(l:B8)(R G B:List Nat)(v:Nat->AV)(x:X5)(qu:Int)(n:AV)(i lamp h:Nat)(w d:List Nat)(tw ah:AV):Lo:=bG (vD v qu (s6 cf i tw)) l R G B x (.int h) (sL (Nr lamp)) (sL d) (.int lamp) ah (some n)
structure Vt(lamp h:Nat):Prop where
 p:∀H b,zF.map (λw=>IL (ev 113) 279 (pgA w lamp h) ⟨H,b⟩)=zF.map λw=>some ⟨ua w lamp h,⟨H,b⟩⟩
 k0:∀q ns wf cf l R G B ζ b v x qu n w d tw ah,(ev 116).X A6 (loP5 wf cf l R G B v x qu n 0 lamp h w d tw ah) ⟨HD q w ns wf l R G B ζ lamp 0,b⟩ (db 5)=i5 (loP5 wf cf l R G B v x qu n 0 lamp h w d tw ah) (IL (ev 113) 279 (pgA w lamp h) ⟨HD q w ns wf l R G B ζ lamp 0,b⟩)
 e0:∀q ns wf cf l R G B ζ b v x qu n,(WI 0).map (λw=>i5 (loP5 wf cf l R G B v x qu n 0 lamp h w (ML w lamp h) (I8 (Lm w)) (sL (VM w lamp))) (some ⟨ua w lamp h,⟨HD q w ns wf l R G B ζ lamp 0,b⟩⟩))=(WI 0).map (G5 q ns wf cf l R G B ζ b v x qu n 0 lamp h)
 kb:∀q ns wf cf l R G B ζ b v x qu n w d tw ah,(ev 116).X A6 (loP5 wf cf l R G B v x qu n 1 lamp h w d tw ah) ⟨HD q w ns wf l R G B ζ lamp 1,b⟩ (db 5)=i5 (loP5 wf cf l R G B v x qu n 1 lamp h w d tw ah) (IL (ev 113) 279 (pgA w lamp h) ⟨HD q w ns wf l R G B ζ lamp 1,b⟩)
 e1:∀q ns wf cf l R G B ζ b v x qu n,(WI 1).map (λw=>i5 (loP5 wf cf l R G B v x qu n 1 lamp h w (ML w lamp h) (I8 (Lm w)) (sL (VM w lamp))) (some ⟨ua w lamp h,⟨HD q w ns wf l R G B ζ lamp 1,b⟩⟩))=(WI 1).map (G5 q ns wf cf l R G B ζ b v x qu n 1 lamp h)
 k2:∀q ns wf cf l R G B ζ b v x qu n w d tw ah,(ev 116).X A6 (loP5 wf cf l R G B v x qu n 2 lamp h w d tw ah) ⟨HD q w ns wf l R G B ζ lamp 2,b⟩ (db 5)=i5 (loP5 wf cf l R G B v x qu n 2 lamp h w d tw ah) (IL (ev 113) 279 (pgA w lamp h) ⟨HD q w ns wf l R G B ζ lamp 2,b⟩)
 e2:∀q ns wf cf l R G B ζ b v x qu n,(WI 2).map (λw=>i5 (loP5 wf cf l R G B v x qu n 2 lamp h w (ML w lamp h) (I8 (Lm w)) (sL (VM w lamp))) (some ⟨ua w lamp h,⟨HD q w ns wf l R G B ζ lamp 2,b⟩⟩))=(WI 2).map (G5 q ns wf cf l R G B ζ b v x qu n 2 lamp h)
 k3:∀q ns wf cf l R G B ζ b v x qu n w d tw ah,(ev 116).X A6 (loP5 wf cf l R G B v x qu n 3 lamp h w d tw ah) ⟨HD q w ns wf l R G B ζ lamp 3,b⟩ (db 5)=i5 (loP5 wf cf l R G B v x qu n 3 lamp h w d tw ah) (IL (ev 113) 279 (pgA w lamp h) ⟨HD q w ns wf l R G B ζ lamp 3,b⟩)
 e3:∀q ns wf cf l R G B ζ b v x qu n,(WI 3).map (λw=>i5 (loP5 wf cf l R G B v x qu n 3 lamp h w (ML w lamp h) (I8 (Lm w)) (sL (VM w lamp))) (some ⟨ua w lamp h,⟨HD q w ns wf l R G B ζ lamp 3,b⟩⟩))=(WI 3).map (G5 q ns wf cf l R G B ζ b v x qu n 3 lamp h)
theorem Aco:Vt 0 0:=⟨⋯,⋯,⋯,⋯,⋯,⋯,⋯,⋯,⋯⟩
theorem Acp:Vt 0 1:=⟨⋯,⋯,⋯,⋯,⋯,⋯,⋯,⋯,⋯⟩
theorem Acq:Vt 0 2:=⟨⋯,⋯,⋯,⋯,⋯,⋯,⋯,⋯,⋯⟩
theorem Acr:Vt 1 0:=⟨⋯,⋯,⋯,⋯,⋯,⋯,⋯,⋯,⋯⟩
theorem Acs:Vt 1 1:=⟨⋯,⋯,⋯,⋯,⋯,⋯,⋯,⋯,⋯⟩
theorem Acu:Vt 1 2:=⟨⋯,⋯,⋯,⋯,⋯,⋯,⋯,⋯,⋯⟩
theorem Acv:Vt 2 0:=⟨⋯,⋯,⋯,⋯,⋯,⋯,⋯,⋯,⋯⟩
theorem Acw:Vt 2 1:=⟨⋯,⋯,⋯,⋯,⋯,⋯,⋯,⋯,⋯⟩
theorem Acx:Vt 2 2:=⟨⋯,⋯,⋯,⋯,⋯,⋯,⋯,⋯,⋯⟩
end
theorem w40:∀i,i<4->∀w,w∈WI i->w∈zF:=VA (P:=λi=>∀w,w∈WI i->w∈zF) ⋯ ⋯ ⋯ ⋯
theorem w5:∀q ns wf cf l R G B ζ b v x qu n i,i<4->∀lamp,lamp<3->∀h,h<3->(WI i).map (F5 q ns wf cf l R G B ζ b v x qu n i lamp h)=(WI i).map (G5 q ns wf cf l R G B ζ b v x qu n i lamp h):=by
 intro q ns wf cf l R G B ζ b v x qu n i hi lamp hl h hh
 have y:=M8 (P:=λlamp=>∀h,h<3->Vt lamp h) (M8 Aco Acp Acq) (M8 Acr Acs Acu) (M8 Acv Acw Acx) lamp hl h hh
 have k:=VA (P:=λi=>∀q ns wf cf l R G B ζ b v x qu n w d tw ah,(ev 116).X A6 (loP5 wf cf l R G B v x qu n i lamp h w d tw ah) ⟨HD q w ns wf l R G B ζ lamp i,b⟩ (db 5)=i5 (loP5 wf cf l R G B v x qu n i lamp h w d tw ah) (IL (ev 113) 279 (pgA w lamp h) ⟨HD q w ns wf l R G B ζ lamp i,b⟩)) y.k0 y.kb y.k2 y.k3 i hi
 have e:=VA (P:=λi=>∀q ns wf cf l R G B ζ b v x qu n,(WI i).map (λw=>i5 (loP5 wf cf l R G B v x qu n i lamp h w (ML w lamp h) (I8 (Lm w)) (sL (VM w lamp))) (some ⟨ua w lamp h,⟨HD q w ns wf l R G B ζ lamp i,b⟩⟩))=(WI i).map (G5 q ns wf cf l R G B ζ b v x qu n i lamp h)) y.e0 y.e1 y.e2 y.e3 i hi
 exact(LD λw hw=>(k ..).trans (Ai (i5 _) (LH.mp (y.p _ b) w (w40 i hi w hw)))).trans (e ..)
theorem plain_all(xs:List Int)(h:xs.length<=63):∃S,aj 118 xs=some ⟨.bool true,S⟩/\S.ob=true:=
 iW (λa b _ ha hb hc=>have y:=yT a ha b hb;mK hc y.f7 y.zz y.t6 y.zC) (λa b _ ha hb hc _ hg=>tC (tG hc (yT a ha b hb).ck) (tH w12 w5) hg) xs h
end
end
end Internal.Mine
theorem PySem.Challenge.cw_jc0041_01_holds : PySem.Challenge.rw_jc0041_01.Holds :=
 Internal.Mine.gJ Internal.Mine.plain_all
