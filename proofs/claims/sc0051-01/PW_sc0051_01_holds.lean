import PyProof.Rows.All
import Wide.All
import OpenK.AllK
import Wide.FinOn
import PySem.Challenge.RW_sc0051_01
set_option Elab.async false
namespace Mine
set_option linter.unusedVariables false
set_option maxRecDepth 100000
set_option maxHeartbeats 4000000
open Array renaming getElem?_toList->a9,getElem?_eq_getElem->bn,length_toList->cA,toList_push->fH,getElem?_eq_none->iP,eraseIdxIfInBounds->mz,size_push->oE
open Bool renaming and_eq_true->aI,false_ne_true->bY,false_eq_true->cY,and_true->dU,true_and->jG,eq_iff_iff->wk,and_false->x5,or_false->Aw
open ForInStep renaming yield->cO
open Int renaming natCast_nonneg->bN,le_trans->dA,lt_of_lt_of_le->ij,add_assoc->jF,negSucc->jO,add_le_add_right->jP,zero_add->kA,lt_of_le_of_lt->ly,toNat_natCast->mq,le_refl->pE,lt_trans->ts,neg_nonpos_of_nonneg->Av
open Int.ofNat renaming inj->Au
open List renaming length_map->af,length_append->au,getElem?_eq_getElem->aD,range->aM,append_nil->aO,map_append->aQ,append_assoc->aR,length_cons->aT,mem_of_getElem?->aU,getElem?_map->aW,flatMap_cons->aX,replicate->bb,nodup_nil->bx,getD_eq_getElem?_getD->bA,nil_append->bK,length_range->bL,map_map->bO,length_filter_le->bP,getElem?_set_ne->bU,map_cons->bX,flatten_append->cz,length_nil->cM,forIn_cons->cN,mem_append_right->cT,not_mem_nil->dw,flatten_cons->dJ,length_set->dL,getElem?_set_self->dT,mem_append_left->eA,eraseIdx_eq_take_drop_succ->eJ,length_drop->eS,take_of_length_le->fb,getElem?_drop->fc,length->fX,lookup_cons->gv,filter_cons->gw,map_take->hH,contains->hJ,length_replicate->jk,all_eq_true->jo,drop_append_of_le_length->jN,mem_cons_self->lj,getElem?_append_right->lm,forIn_nil->lq,drop_zero->lu,contains_cons->lw,eq_of_mem_replicate->mt,drop_nil->mu,length_take->nB,drop_of_length_le->nV,idxOf_cons->oD,getElem?_eq_none->oJ,tail_drop->pC,mem_cons_of_mem->pD,length_take_le->qJ,flatMap_append->qK,filterMap_cons->qL,take_nil->q8,map_drop->q9,size_toArray->td,take_length->uQ,getElem_mem->uR,range_succ->wj,map->xZ,Nodup->x3,sum_cons->Ao,mem_cons->Ap,getElem?_take_of_lt->Aq,filterMap_cons_some->Ar,filterMap_cons_none->As,drop->BF,map_nil->BN,flatMap->BO
open List.cons renaming inj->c7
open Nat renaming le_of_ble_eq_true->ag,le_trans->ah,le_refl->ai,lt_of_lt_of_le->ay,le_add_right->aF,le_of_eq->aJ,ne_of_lt->aK,le_succ->a8,le_of_lt->bf,lt_succ_self->bC,le_of_succ_le->bD,ble_eq_true_of_le->bE,zero_le->bH,le_of_not_lt->bI,ble->bT,le_succ_of_le->cm,ne_of_gt->cq,zero_add->cE,succ_le_succ->cQ,lt_of_lt_of_eq->cX,lt_succ_of_le->dc,blt->dl,lt_of_le_of_lt->du,le_add_left->dK,not_lt_zero->et,le_antisymm->eu,succ_ne_self->eR,lt_of_succ_lt_succ->e9,min_eq_left->fq,lt_irrefl->fw,lt_of_not_le->gu,mul_le_mul_left->gJ,add_assoc->hF,lt_succ_of_lt->iN,lt_of_sub_eq_succ->ji,le_of_sub_eq_zero->jj,add_le_add_right->jM,sub_add_cancel->k7,add_right_comm->lg,add_le_add->lh,add_sub_of_le->mo,zero_lt_succ->ny,succ->nz,not_lt_of_le->nA,succ_pos->nR,add_zero->nU,le_sub_of_add_le->pA,sub_self->s9,le_of_lt_succ->tc,sub_le->xY,beq->BL,add_comm->BM
open Nat.succ renaming inj->s8
open Option renaming bind_some->ac,none->bc,map_some->hU,isSome_none->rC,getD_some->uO,bind->v8,isNone->An
open Option.some renaming inj->ao
open Prod.mk renaming inj->e7
open PyProof.Rows renaming seqObj->gU,subscriptTail->BI,sortedAll_old->BJ
open PySem renaming wpAny_bind->aa,Shared->ab,wpAny_mono->al,wpAny_pure->aq,wpAny->ar,NameKind->az,foldedSetIterable->ba,wpAny_holding->bg,Comprehension->bF,wpAny_execs_cons->bW,wpAny_Call_Name_kw->ca,Params->cg,wpAny_standAt->cu,letOwnedTupleGo->cD,wpAny_newObj_type->cI,wpAny_Assign_Name->cJ,seqIndex?->cP,wpAny_field->c8,wpAny_callSpecial?_slot->c9,sliceBounds->da,seg_execs_cons->dm,Call_method1->dt,strIterType->dy,plainObj_wpAny_Assign_Attribute->dz,wpAny_call_entry->dF,wpAny_Name->dG,wpAny_Constant_int->dH,starEach->dO,callWith->dY,pyNext->ew,codeAny->eB,wpAny_loadName_local->eQ,firstAsync->eX,builtinsNs->eY,wpAny_of_eq->fF,wpAny_Constant_str->fJ,pushCells_keeps->fU,Operator->fV,attributeBase->f8,wpAny_storeName_local->gj,builtinLookup_eq_fast->gq,wpAny_truthy_bool->gG,mem_of_lookup->gI,newFunctionEnv->gV,interactive->gW,GenState->hK,BindsTo->ik,CmpOp->iy,wpAny_items_nil->iW,wpAny_execs_nil->iY,wpAny_call->i9,storeName->jh,wpAny_seqItems->jJ,wpAny_Expr_any->jK,execs->kj,swapsWith->kq,backTo->ku,wpAny_attempt->kW,holding->kX,model->kY,typeLookup_type->mf,isTrue->mh,Result->mj,bootBuiltins->mr,pushCells->mZ,wpAny_setField_rec->nu,clipAt->nv,bindArgs->nw,assignEach->nx,assign->nQ,wpAny_assign_Name->oA,relabel->oB,wpAny_comprehension_free->oH,IsEnum->oK,wpAny_isInstance->pq,compTurn->pw,sliceRange->qF,closureFor->qG,wpAny_updateSeq->qZ,wpAny_specialOf->q7,wpAny_isTrue_Compare1->rA,codeAny_call_function->rB,wpAny_layCells->sV,sizeLine_eq->sW,pyIter->sX,isSubtype_stop->sY,firstArgMember->sZ,assign->s7,IsPair->th,standAt->tM,ScopeKind->tN,wpAny_loadName_cell->uL,wpAny_Constant_none->uM,wpAny_Constant_bool->uN,field->vZ,comprehension->v6,behindInMarks->v7,wpAny_rule->wf,wpAny_load->wg,wpAny_List->wh,typeIs_str->wi,wpAny_truthy_list->xT,wpAny_pyIter_enum->xU,firstIterPos->xV,call->xW,nsFind->Aj,compareOp->Ak,IsPart->At,wpAny_alloc->BD,World->BE
open PySem.Builtin renaming divisionGoesByPylong->fY
open PySem.Builtin.List renaming listFitsIndex->dn,listExtendWith->mw
open PySem.Builtin.Range renaming rangeSize->aV,small->dp
open PySem.Builtin.SmallTypes renaming ownedTupleIsFree->d6,stopIteration->jR,nextOf->nX
open PySem.Builtin.Str renaming strSliceIndices->de
open PySem.Builtin.Tuple renaming tupleExact->iO
open PySem.Calls renaming spliced_cons->cR,evalArgs_plain->db,spliced_nil->gH,spliced_cons->ja,wpAny_keep->pF,callWith_builtin->qM,spliced_nil->x4
open PySem.Code renaming compLoop->oL
open PySem.Env renaming kindOf->fM
open PySem.GenOnly renaming setGen->tu
open PySem.Heap renaming get?_push_of_some->aA,get?_push_size->aB,lt_size->aC,size_push->aZ,get?_update_other->cy,size_after_update->d0,get?_update_self->gE,SameBut->jQ
open PySem.Heap.SameBut renaming update->uS
open PySem.NameKind renaming free->aL,cell->cG,globalImplicit->pB
open PySem.Obj renaming mapSeq->aS,data->fW,cls->ii,putName->oC
open PySem.P renaming append_list->km,pop_at_list->qI
open PySem.PyData renaming int->aw,strOk->bk,list->cj,str->dI,eqv->gY,canLay0->gZ,depth->jL,canLayAll0->xX,depthAll->BK
open PySem.SeqAt renaming shaped->b0,shaped->kZ
open PySem.Str renaming ofString->ad,mk->oI,empty->Am
open PySem.Txt renaming contains->fK,replace->gX
open PySem.Value renaming none->ez,ref->fm,type->qH,str->Al
open PySem.W renaming instObj->eI,mem_of_lookupK->fB,tabObj->jn,methodObj->jE,emptyDict->nI
open PySem.W.OpenRow renaming toRowW->uP
open Subtype renaming mk->cK
section
open Nat.Internal.Linear
noncomputable def Jd(x:Context)(g:Prop)(cs:List ExprCnstr):Prop:=cs.rec g λc _ r=>c.denote x->r
noncomputable def Jb(cs:List ExprCnstr):List Int->Expr × Expr:=cs.rec (λ_=>(.num 0,.num 0)) λc _ r ks=>ks.rec (.num 0,.num 0) λk ks _=>
 k.rec (λm=>(.add (.mulL m c.lhs) (r ks).1,.add (.mulL m c.rhs) (r ks).2)) λm=>bif c.eq then(.add (.mulL m.succ c.rhs) (r ks).1,.add (.mulL m.succ c.lhs) (r ks).2)else r ks
theorem Jm{A B:Prop}{x:Context}(h:A->B)(cs:List ExprCnstr):Jd x A cs->Jd x B cs:=by
 induction cs with
 |nil=>exact h
 |cons c cs ih=>exact λk d=>ih (k d)
theorem Jo{x:Context}(cs:List ExprCnstr):∀ks,Jd x ((Jb cs ks).1.denote x<=(Jb cs ks).2.denote x) cs:=by
 induction cs with
 |nil=>exact λ_=>ai _
 |cons c cs ih=>
  intro ks d
  cases ks with
  |nil=>exact Jm (λ_=>ai _) cs (ih [])
  |cons k ks=>
   refine Jm (λr=>?_) cs (ih ks)
   obtain⟨_|_,l,t⟩:=c
   ·cases k with
    |ofNat m=>exact lh (gJ m d) r
    |negSucc m=>exact r
   ·cases k with
    |ofNat m=>exact lh (aJ (congrArg (m * ·) d)) r
    |negSucc m=>exact lh (aJ (congrArg (m.succ * ·) d.symm)) r
noncomputable def Jk(cs:List ExprCnstr)(a b:Expr)(k:Nat)(ks:List Int):Bool:=(ExprCnstr.toNormPoly ⟨false,.add (.mulL k (.add b (.num 1))) (Jb cs ks).1,.add (.mulL k a) (Jb cs ks).2⟩).isUnsat
theorem Jx{x:Context}(cs:List ExprCnstr)(a b:Expr)(k:Nat)(ks:List Int)(h:Jk cs a b k ks=true):Jd x (a.denote x<=b.denote x) cs:=
 Jm (λr=>bI λt=>(ExprCnstr.eq_false_of_isUnsat x _ h).mp (lh (gJ k t) r)) cs (Jo cs ks)
theorem J1{a:Nat}(cs:List ExprCnstr)(p q:Expr)(k:Nat)(ks:List Int)(h:Jk cs p q k ks=true):Jd (.leaf a) (p.denote (.leaf a)<=q.denote (.leaf a)) cs:=Jx cs p q k ks h
theorem J2{a b:Nat}(cs:List ExprCnstr)(p q:Expr)(k:Nat)(ks:List Int)(h:Jk cs p q k ks=true):Jd (.branch 1 (.leaf a) (.leaf b)) (p.denote (.branch 1 (.leaf a) (.leaf b))<=q.denote (.branch 1 (.leaf a) (.leaf b))) cs:=Jx cs p q k ks h
theorem J3{a b c:Nat}(cs:List ExprCnstr)(p q:Expr)(k:Nat)(ks:List Int)(h:Jk cs p q k ks=true):Jd (.branch 1 (.leaf a) (.branch 2 (.leaf b) (.leaf c))) (p.denote (.branch 1 (.leaf a) (.branch 2 (.leaf b) (.leaf c)))<=q.denote (.branch 1 (.leaf a) (.branch 2 (.leaf b) (.leaf c)))) cs:=Jx cs p q k ks h
theorem J4{a b c d:Nat}(cs:List ExprCnstr)(p q:Expr)(k:Nat)(ks:List Int)(h:Jk cs p q k ks=true):Jd (.branch 2 (.branch 1 (.leaf a) (.leaf b)) (.branch 3 (.leaf c) (.leaf d))) (p.denote (.branch 2 (.branch 1 (.leaf a) (.leaf b)) (.branch 3 (.leaf c) (.leaf d)))<=q.denote (.branch 2 (.branch 1 (.leaf a) (.leaf b)) (.branch 3 (.leaf c) (.leaf d)))) cs:=Jx cs p q k ks h
theorem J5{a b c d e:Nat}(cs:List ExprCnstr)(p q:Expr)(k:Nat)(ks:List Int)(h:Jk cs p q k ks=true):Jd (.branch 2 (.branch 1 (.leaf a) (.leaf b)) (.branch 3 (.leaf c) (.branch 4 (.leaf d) (.leaf e)))) (p.denote (.branch 2 (.branch 1 (.leaf a) (.leaf b)) (.branch 3 (.leaf c) (.branch 4 (.leaf d) (.leaf e))))<=q.denote (.branch 2 (.branch 1 (.leaf a) (.leaf b)) (.branch 3 (.leaf c) (.branch 4 (.leaf d) (.leaf e))))) cs:=Jx cs p q k ks h
noncomputable abbrev Q0:Expr:=.var 0
noncomputable abbrev Q1:Expr:=.var 1
noncomputable abbrev Q2:Expr:=.var 2
noncomputable abbrev Q3:Expr:=.var 3
noncomputable abbrev Q4:Expr:=.var 4
noncomputable abbrev Qn(k:Nat):Expr:=.num k
noncomputable abbrev Qs(a:Expr)(k:Nat):Expr:=.add a (.num k)
noncomputable abbrev Qa(a b:Expr):Expr:=.add a b
noncomputable abbrev Qm(k:Nat)(a:Expr):Expr:=.mulL k a
noncomputable abbrev Ql(a b:Expr):ExprCnstr:=⟨false,a,b⟩
noncomputable abbrev Qe(a b:Expr):ExprCnstr:=⟨true,a,b⟩
theorem Qt:true=true:=rfl
end
theorem E9{k m:Nat}(h:k<=m)(b:bT m 4611686018427387904=true): -(2 ^ 63)<=(k:Int)/\(k:Int) < 2 ^ 63:=
 ⟨dA (by decide) (bN k),ly (Int.ofNat_le.mpr (ah h (ag b))) (by decide)⟩
theorem KM{a b c:Nat}(h:a < b)(k:b<=c):(a+b) / 2 < c:=Nat.div_lt_of_lt_mul (J3 [Ql (Qs Q0 1) Q1,Ql Q1 Q2] (Qs (Qa Q0 Q1) 1) (Qm 2 Q2) 1 [1,2] Qt h k)
theorem Kf{a b:Nat}(k:b < a):b<=(b+a) / 2:=(Nat.le_div_iff_mul_le (ny 1)).mpr (J2 [Ql (Qs Q0 1) Q1] (.mulR Q0 2) (Qa Q0 Q1) 1 [1] Qt k)
theorem La{a b c:Nat}(h:a - b < c+1)(k:b < a):a - ((b+a) / 2+1) < c:=ay (Nat.sub_lt_sub_left k (dc (Kf k))) (tc h)
theorem K9{a b c:Nat}(h:a - b < c+1)(k:b < a):(b+a) / 2 - b < c:=ay (Nat.sub_lt_sub_right (Kf k) (KM k (ai _))) (tc h)
theorem G6{n:Nat}(h:n=4\/n=5):n<=5:=h.elim (λe=>e▸a8 4) aJ
theorem KN(n:Nat):4+n % 2=4\/4+n % 2=5:=(Nat.mod_two_eq_zero_or_one n).imp (λe=>by rw[e]) (λe=>by rw[e])
theorem KX{a b:Nat}(h:a<=30):min b a+(a - b+1)<=31:=
 (Nat.le_total b a).elim (λk=>by rw[fq k,<-hF,mo k];exact cQ h) λk=>by rw[Nat.min_eq_right k,Nat.sub_eq_zero_of_le k];exact cQ h
theorem Ld{a b:Nat}(h:a<=b):max (0:Int) (min (a:Int) (b:Int))=a:=(congrArg (max 0) (Int.min_eq_left (Int.ofNat_le.mpr h))).trans (Int.max_eq_right (bN a))
section
universe u0 u1 u2 u3 u4 u5
theorem en{A B:Prop}{G:Prop}(q:A/\B)(k:A->B->G):G:=k q.1 q.2
theorem oG{A B C:Prop}{G:Prop}(q:A/\B/\C)(k:A->B->C->G):G:=k q.1 q.2.1 q.2.2
theorem wb{A B C D:Prop}{G:Prop}(q:A/\B/\C/\D)(k:A->B->C->D->G):G:=k q.1 q.2.1 q.2.2.1 q.2.2.2
theorem Jp{A B C D E:Prop}{G:Prop}(q:A/\B/\C/\D/\E)(k:A->B->C->D->E->G):G:=k q.1 q.2.1 q.2.2.1 q.2.2.2.1 q.2.2.2.2
theorem LB{A B C D E F:Prop}{G:Prop}(q:A/\B/\C/\D/\E/\F)(k:A->B->C->D->E->F->G):G:=k q.1 q.2.1 q.2.2.1 q.2.2.2.1 q.2.2.2.2.1 q.2.2.2.2.2
theorem LN{A B C D E F H I J:Prop}{G:Prop}(q:A/\B/\C/\D/\E/\F/\H/\I/\J)(k:A->B->C->D->E->F->H->I->J->G):G:=k q.1 q.2.1 q.2.2.1 q.2.2.2.1 q.2.2.2.2.1 q.2.2.2.2.2.1 q.2.2.2.2.2.2.1 q.2.2.2.2.2.2.2.1 q.2.2.2.2.2.2.2.2
theorem cU{α0:Sort u0}{A:α0->Prop}{G:Prop}(q:∃x,A x)(k:∀x,A x->G):G:=by obtain⟨x,q⟩:=q;exact k x q
theorem a7{α0:Sort u0}{A B:α0->Prop}{G:Prop}(q:∃x,A x/\B x)(k:∀x,A x->B x->G):G:=by obtain⟨x,q⟩:=q;exact k x q.1 q.2
theorem jH{α0:Sort u0}{A B C:α0->Prop}{G:Prop}(q:∃x,A x/\B x/\C x)(k:∀x,A x->B x->C x->G):G:=by obtain⟨x,q⟩:=q;exact k x q.1 q.2.1 q.2.2
theorem KA{α0:Sort u0}{A B C D:α0->Prop}{G:Prop}(q:∃x,A x/\B x/\C x/\D x)(k:∀x,A x->B x->C x->D x->G):G:=by obtain⟨x,q⟩:=q;exact k x q.1 q.2.1 q.2.2.1 q.2.2.2
theorem ml{α0:Sort u0}{α1:Sort u1}{A:α0->α1->Prop}{G:Prop}(q:∃x y,A x y)(k:∀x y,A x y->G):G:=by obtain⟨x,y,q⟩:=q;exact k x y q
theorem xQ{α0:Sort u0}{α1:Sort u1}{A B:α0->α1->Prop}{G:Prop}(q:∃x y,A x y/\B x y)(k:∀x y,A x y->B x y->G):G:=by obtain⟨x,y,q⟩:=q;exact k x y q.1 q.2
theorem xP{α0:Sort u0}{α1:Sort u1}{A B C:α0->α1->Prop}{G:Prop}(q:∃x y,A x y/\B x y/\C x y)(k:∀x y,A x y->B x y->C x y->G):G:=by obtain⟨x,y,q⟩:=q;exact k x y q.1 q.2.1 q.2.2
theorem BG{α0:Sort u0}{α1:Sort u1}{A B C D:α0->α1->Prop}{G:Prop}(q:∃x y,A x y/\B x y/\C x y/\D x y)(k:∀x y,A x y->B x y->C x y->D x y->G):G:=by obtain⟨x,y,q⟩:=q;exact k x y q.1 q.2.1 q.2.2.1 q.2.2.2
theorem LA{α0:Sort u0}{α1:Sort u1}{A B C D E:α0->α1->Prop}{G:Prop}(q:∃x y,A x y/\B x y/\C x y/\D x y/\E x y)(k:∀x y,A x y->B x y->C x y->D x y->E x y->G):G:=by obtain⟨x,y,q⟩:=q;exact k x y q.1 q.2.1 q.2.2.1 q.2.2.2.1 q.2.2.2.2
theorem Lz{α0:Sort u0}{α1:Sort u1}{A B C D E F:α0->α1->Prop}{G:Prop}(q:∃x y,A x y/\B x y/\C x y/\D x y/\E x y/\F x y)(k:∀x y,A x y->B x y->C x y->D x y->E x y->F x y->G):G:=by obtain⟨x,y,q⟩:=q;exact k x y q.1 q.2.1 q.2.2.1 q.2.2.2.1 q.2.2.2.2.1 q.2.2.2.2.2
theorem LM{α0:Sort u0}{α1:Sort u1}{A B C D E F H I:α0->α1->Prop}{G:Prop}(q:∃x y,A x y/\B x y/\C x y/\D x y/\E x y/\F x y/\H x y/\I x y)(k:∀x y,A x y->B x y->C x y->D x y->E x y->F x y->H x y->I x y->G):G:=by obtain⟨x,y,q⟩:=q;exact k x y q.1 q.2.1 q.2.2.1 q.2.2.2.1 q.2.2.2.2.1 q.2.2.2.2.2.1 q.2.2.2.2.2.2.1 q.2.2.2.2.2.2.2
theorem Kz{α0:Sort u0}{α1:Sort u1}{α2:Sort u2}{A:α0->α1->α2->Prop}{G:Prop}(q:∃x y z,A x y z)(k:∀x y z,A x y z->G):G:=by obtain⟨x,y,z,q⟩:=q;exact k x y z q
theorem I8{α0:Sort u0}{α1:Sort u1}{α2:Sort u2}{A B:α0->α1->α2->Prop}{G:Prop}(q:∃x y z,A x y z/\B x y z)(k:∀x y z,A x y z->B x y z->G):G:=by obtain⟨x,y,z,q⟩:=q;exact k x y z q.1 q.2
theorem Ky{α0:Sort u0}{α1:Sort u1}{α2:Sort u2}{A B C:α0->α1->α2->Prop}{G:Prop}(q:∃x y z,A x y z/\B x y z/\C x y z)(k:∀x y z,A x y z->B x y z->C x y z->G):G:=by obtain⟨x,y,z,q⟩:=q;exact k x y z q.1 q.2.1 q.2.2
theorem Kx{α0:Sort u0}{α1:Sort u1}{α2:Sort u2}{A B C D:α0->α1->α2->Prop}{G:Prop}(q:∃x y z,A x y z/\B x y z/\C x y z/\D x y z)(k:∀x y z,A x y z->B x y z->C x y z->D x y z->G):G:=by obtain⟨x,y,z,q⟩:=q;exact k x y z q.1 q.2.1 q.2.2.1 q.2.2.2
theorem Kw{α0:Sort u0}{α1:Sort u1}{α2:Sort u2}{A B C D E:α0->α1->α2->Prop}{G:Prop}(q:∃x y z,A x y z/\B x y z/\C x y z/\D x y z/\E x y z)(k:∀x y z,A x y z->B x y z->C x y z->D x y z->E x y z->G):G:=by obtain⟨x,y,z,q⟩:=q;exact k x y z q.1 q.2.1 q.2.2.1 q.2.2.2.1 q.2.2.2.2
theorem LK{α0:Sort u0}{α1:Sort u1}{α2:Sort u2}{α3:Sort u3}{A B C D:α0->α1->α2->α3->Prop}{G:Prop}(q:∃x y z u,A x y z u/\B x y z u/\C x y z u/\D x y z u)(k:∀x y z u,A x y z u->B x y z u->C x y z u->D x y z u->G):G:=by obtain⟨x,y,z,u,q⟩:=q;exact k x y z u q.1 q.2.1 q.2.2.1 q.2.2.2
theorem Kv{α0:Sort u0}{α1:Sort u1}{α2:Sort u2}{α3:Sort u3}{A B C D E:α0->α1->α2->α3->Prop}{G:Prop}(q:∃x y z u,A x y z u/\B x y z u/\C x y z u/\D x y z u/\E x y z u)(k:∀x y z u,A x y z u->B x y z u->C x y z u->D x y z u->E x y z u->G):G:=by obtain⟨x,y,z,u,q⟩:=q;exact k x y z u q.1 q.2.1 q.2.2.1 q.2.2.2.1 q.2.2.2.2
theorem Y2{α0:Sort u0}{α1:Sort u1}{P:α0->α1->Prop}(x:α0)(y:α1)(h:P x y):∃x y,P x y:=⟨x,y,h⟩
theorem Y3{α0:Sort u0}{α1:Sort u1}{α2:Sort u2}{P:α0->α1->α2->Prop}(x:α0)(y:α1)(z:α2)(h:P x y z):∃x y z,P x y z:=⟨x,y,z,h⟩
theorem Y4{α0:Sort u0}{α1:Sort u1}{α2:Sort u2}{α3:Sort u3}{P:α0->α1->α2->α3->Prop}(x:α0)(y:α1)(z:α2)(u:α3)(h:P x y z u):∃x y z u,P x y z u:=⟨x,y,z,u,h⟩
theorem Y5{α0:Sort u0}{α1:Sort u1}{α2:Sort u2}{α3:Sort u3}{α4:Sort u4}{P:α0->α1->α2->α3->α4->Prop}(x:α0)(y:α1)(z:α2)(u:α3)(v:α4)(h:P x y z u v):∃x y z u v,P x y z u v:=⟨x,y,z,u,v,h⟩
theorem Y6{α0:Sort u0}{α1:Sort u1}{α2:Sort u2}{α3:Sort u3}{α4:Sort u4}{α5:Sort u5}{P:α0->α1->α2->α3->α4->α5->Prop}(x:α0)(y:α1)(z:α2)(u:α3)(v:α4)(w:α5)(h:P x y z u v w):∃x y z u v w,P x y z u v w:=⟨x,y,z,u,v,w,h⟩
end
open PySem PySem.W PyProof.Rows
def vw:Program:={PySem.Challenge.pw_sc0051_01 with main:={PySem.Challenge.pw_sc0051_01.main with body:=[1,7,8,9,11,12,13,14,15,16,17,18,19,20,21].filterMap λi=>PySem.Challenge.pw_sc0051_01.main.body[i]? }}
def lso:List Str:=[ad "insort_right",ad "bisect_right",ad "bisect_left"]
set_option maxHeartbeats 40000000
theorem JF:PySem.Challenge.rw_sc0051_01.wellSaid=true:=by decide+kernel
theorem LE:RowW.promised (uP PySem.Challenge.rw_sc0051_01.row):=⟨[WData.list []],by decide+kernel,by decide+kernel⟩
theorem J8(H:Hook){d:DefRec}{kwd:List (Str × Expr)}(h1:defOf vw PySem.Challenge.rw_sc0051_01.row.name=some (d,kwd))(h2:PySem.Challenge.rw_sc0051_01.row.prog.theDef PySem.Challenge.rw_sc0051_01.row.name=some (d.params,d.body,d.scope))(h3:kwWritten? d.params.kwonlyargs d.params.kw_defaults=some kwd)
  (hl:LeftO PySem.Challenge.rw_sc0051_01.row.prog vw lso (λs=>xlAt vw [] s&&recOk (RowW.records (uP PySem.Challenge.rw_sc0051_01.row)) s) H.obs H.val 1916)(hw:RowW.promised (uP PySem.Challenge.rw_sc0051_01.row))(hc:WalkO vw lso (XL vw []) H.says (uP PySem.Challenge.rw_sc0051_01.row) d kwd λf vs=>xW f vs):PySem.Challenge.rw_sc0051_01.row.Holds:=
 holds_open hl H.of H.keeps (λs e=>xl_of s (Bool.and_eq_true_iff.mp e).1) XL.keeps h1 h2 h3 (λs e=>recFacts_of (Bool.and_eq_true_iff.mp e).2) (by rfl) (row_said JF) (by decide+kernel) ⟨rfl,rfl,rfl,rfl,rfl,by decide+kernel⟩ hw hc
local macro_rules |`(tactic|o_law)=>`(tactic|refine holds_law JF λ_=>?_)
local macro_rules |`(tactic|o_head $H)=>`(tactic|(refine J8 $H rfl rfl rfl ?hl ?hw ?hc;case hl=>exact λ_=>by kernel_rfl))
local macro_rules |`(tactic|w_witness2)=>`(tactic|exact LE)
open_top hd for PySem.Challenge.rw_sc0051_01
open PySem
theorem nG{G:Prop}(k:¬G->False):G:=Classical.byContradiction k
@[elab_as_elim] theorem gen{α:Sort u}{P:α->Prop}(a:α)(h:∀x,P x):P a:=h a
@[elab_as_elim] theorem xh{α:Sort u}{P:α->Prop}(a:α)(h:∀x,a=x->P x):P a:=h a rfl
theorem bo{a m n:Nat}(h:a<=m:=by assumption)(k:bT m n=true:=by rfl):a<=n:=ah h (ag k)
theorem pN{M:Model}{Γ:Ctx}{p:Pos}{t:Sem Fin}{fs:List Frame}{s s':ab}{e:End}(h:Runs M Γ p t fs s e s'):s.heap.objs.size<=s'.heap.objs.size:=by
 induction h<;>(try simp only[Shared.setGen,aZ,d0]at *)<;>omega
theorem x9{M:Model}{Γ:Ctx}{p:Pos}{g:Nat}{r:Resume}{s s':ab}{res:GenResult}(h:Wakes M Γ p g r s res s'):s.heap.objs.size<=s'.heap.objs.size:=by
 unfold Wakes at h
 split at h
 ·exact h.elim
 ·split at h
  ·obtain⟨e₁,s₁,hX⟩:=h;obtain rfl:=hX.2.2.2;refine(λhr=>?_) hX.1;exact(pN hr:(s.setGen g .running).heap.objs.size<=s₁.heap.objs.size)
  ·rw[h.2];exact ai _
  ·rw[h.2];exact ai _
 ·obtain⟨e₁,s₁,hX⟩:=h;obtain rfl:=hX.2.2.2;refine(λhr=>?_) hX.1;exact(pN hr:(s.setGen g .running).heap.objs.size<=s₁.heap.objs.size)
 ·rw[h.2];exact ai _
 ·rw[h.2];exact ai _
theorem E0{α:Type}(M:Model)(Γ:Ctx)(n:Nat)(t:Sem α):∀(Q:α->Pos->ab->Prop) (E:Value->Pos->ab->Prop) (p:Pos) (s:ab),n<=s.heap.objs.size->Sem.wp M Γ t Q E p s->
  Sem.wp M Γ t (λa p' s'=>n<=s'.heap.objs.size/\Q a p' s') (λe p' s'=>n<=s'.heap.objs.size/\E e p' s') p s:=by
 induction t with
 |pure a=>intro Q E p s hn h;exact⟨hn,h⟩
 |raise e=>intro Q E p s hn h;exact⟨hn,h⟩
 |unsupported _=>intro Q E p s _ h;exact h
 |finish _=>intro Q E p s _ h;exact h
 |rule _ k ih=>intro Q E p s hn h;exact ih () Q E p s hn h
 |«at» p' k ih=>intro Q E p s hn h;exact ih () Q E p' s hn h
 |load a _ k ih=>intro Q E p s hn h;refine a7 h λo ho h=>?_;exact⟨o,ho,ih o Q E p s hn h⟩
 |update a _ f k ih=>intro Q E p s hn h;exact⟨h.1,ih () Q E p _ (by show n<=(s.heap.update a f).objs.size;rw[d0];exact hn) h.2⟩
 |loadIfAlive a k ih=>intro Q E p s hn h;exact ih _ Q E p s hn h
 |point _ k ih=>intro Q E p s hn h;exact ih () Q E p s hn h
 |register _ _=>intro Q E p s _ h;exact h
 |alloc o k ih=>intro Q E p s hn h;exact ih _ Q E p _ (by show n<=(s.heap.push o).objs.size;rw[aZ];exact cm ‹_›) h
 |fresh k ih=>intro Q E p s hn h;exact ih _ Q E p _ hn h
 |ask k ih=>intro Q E p s hn h;exact ih _ Q E p s hn h
 |choose src m k ih=>intro Q E p s hn h;exact⟨h.1,ih _ Q E p _ hn h.2⟩
 |os q _ k ih=>intro Q E p s hn h;exact ih _ Q E p _ hn h
 |call c hd _ _ k ih=>intro Q E p s hn h;refine xQ h λr s' hr h=>?_;exact Y2 r s' ⟨hr,ih r Q E p s' (ah hn (pN hr)) h⟩
 |handled own k ih=>intro Q E p s hn h;exact ih _ Q E p s hn h
 |genState g k ih=>intro Q E p s hn h;refine a7 h λst hs h=>?_;exact⟨st,hs,ih _ Q E p s hn h⟩
 |newGen c k ih=>intro Q E p s hn h;exact ih _ Q E p _ hn h
 |resume g r _ k ih=>intro Q E p s hn h;refine xQ h λres s' hw h=>?_;exact Y2 res s' ⟨hw,ih res Q E p s' (ah hn (x9 hw)) h⟩
 |yield _ _ _ _=>intro Q E p s _ h;exact h
 |stack k ih=>intro Q E p s hn h;exact ih _ Q E p s hn h
 |fork _ _=>intro Q E p s _ h;exact h
 |thread k ih=>intro Q E p s hn h;exact ih _ Q E p s hn h
 |await _ _ _ _ _=>intro Q E p s _ h;exact h
theorem bR{α:Type}{M:Model}{A:Around}{t:Sem α}{Q:α->ab->Prop}{s:ab}(h:ar M A t (λa s'=>s.toks<=s'.toks->s.heap.objs.size<=s'.heap.objs.size->Q a s') (λ_ _=>False) s):ar M A t Q (λ_ _=>False) s:=by
 have h1:=wpAny_toks_of (ai s.toks) h
 have h2:ar M A t (λa s'=>s.heap.objs.size<=s'.heap.objs.size/\s.toks<=s'.toks/\(s.toks<=s'.toks->s.heap.objs.size<=s'.heap.objs.size->Q a s')) (λ_ s'=>s.heap.objs.size<=s'.heap.objs.size/\s.toks<=s'.toks/\False) s:=
  λΓ p hΓ=>E0 M Γ s.heap.objs.size t _ _ p s (ai _) (h1 Γ p hΓ)
 exact al h2 (λ_ _ x=>x.2.2 x.2.1 x.1) λ_ _ x=>x.2.2
open PySem PySem.Spec PySem.W PyProof.Rows PySem.Calls
abbrev D:=PyData
inductive cW{α β:Type}(R:α->β->Prop):List α->List β->Prop where
 |nil:cW R [] []
 |cons {a b l m}:R a b->cW R l m->cW R (a::l) (b::m)
section
variable{α β γ δ:Type}{R S:α->β->Prop}{l l':List α}{m m':List β}
theorem gQ(h:∀a b,R a b->S a b)(a:cW R l m):cW S l m:=by
 induction a with
 |nil=>exact .nil
 |cons a _ ih=>exact .cons (h _ _ a) ih
theorem eH(a:cW R l m):(∀a b,a∈l->R a b->S a b)->cW S l m:=by
 induction a with
 |nil=>exact λ_=>.nil
 |cons a _ ih=>exact λh=>.cons (h _ _ (.head _) a) (ih λa b m=>h a b (.tail _ m))
theorem fk(a:cW R l m):m.length=l.length:=by
 induction a with
 |nil=>rfl
 |cons _ _ ih=>exact congrArg nz ih
theorem sL(a:cW R l m)(b:cW R l' m'):cW R (l++l') (m++m'):=by
 induction a with
 |nil=>exact b
 |cons a _ ih=>exact .cons a ih
theorem uF(a:cW R l m):∀k,cW R (l.drop k) (m.drop k):=by
 induction a with
 |nil=>intro k;rw[mu,mu];exact .nil
 |cons a r ih=>intro k;cases k with
  |zero=>exact .cons a r
  |succ k=>exact ih k
theorem Bx(a:cW R l m):∀k,cW R (l.take k) (m.take k):=by
 induction a with
 |nil=>intro k;rw[q8,q8];exact .nil
 |cons a r ih=>intro k;cases k with
  |zero=>exact .nil
  |succ k=>exact .cons a (ih k)
theorem EA{x:α}{y:β}(r:R x y)(a:cW R l m):∀k,cW R (l.set k x) (m.set k y):=by
 induction a with
 |nil=>exact λ_=>.nil
 |cons a q ih=>intro k;cases k with
  |zero=>exact .cons r q
  |succ k=>exact .cons a (ih k)
theorem xG(a:cW R l m):∀{i:Nat} {y:β},m[i]? =some y->∃x,l[i]? =some x/\R x y:=by
 induction a with
 |nil=>exact λe=>nomatch e
 |cons a q ih=>intro i y e;cases i with
  |zero=>obtain rfl:=ao e;exact⟨_,rfl,a⟩
  |succ i=>exact ih e
theorem xF(f:γ->α)(g:δ->β){l:List γ}{m:List δ}(a:cW (λa b=>R (f a) (g b)) l m):cW R (l.map f) (m.map g):=by
 induction a with
 |nil=>exact .nil
 |cons a _ ih=>exact .cons a ih
theorem qi{a:α}{b:β}(q:cW R l m)(r:R a b):cW R (l++[a]) (m++[b]):=sL q (.cons r .nil)
theorem y7(a:cW R l m):m=[]->l=[]:=by cases a with
 |nil=>exact λ_=>rfl
 |cons=>exact λe=>nomatch e
theorem mY(a:cW R l m):∀{y m'},m=y::m'->∃x l',l=x::l'/\R x y/\cW R l' m':=by cases a with
 |nil=>exact λe=>nomatch e
 |cons a q=>exact λe=>Y2 _ _ ⟨rfl,(c7 e).1▸a,(c7 e).2▸q⟩
theorem qD(a:cW R l m):l=[]->m=[]:=by cases a with
 |nil=>exact λ_=>rfl
 |cons=>exact λe=>nomatch e
theorem gP(a:cW R l m):∀{x l'},l=x::l'->∃y m',m=y::m'/\R x y/\cW R l' m':=by cases a with
 |nil=>exact λe=>nomatch e
 |cons a q=>exact λe=>Y2 _ _ ⟨rfl,(c7 e).1▸a,(c7 e).2▸q⟩
end
def dj(h:Heap)(a:Addr)(vs:Array Value):Prop:=∃n,h.get? a=some {cls:=.type "list",data:=.seq vs n}
theorem dj.isList{h:Heap}{a:Addr}{vs:Array Value}(x:dj h a vs):h.IsList a vs:=by refine cU x λn e=>?_;exact⟨_,e,rfl,n,rfl⟩
theorem dj.at{h h':Heap}{a:Addr}{vs:Array Value}(x:dj h a vs)(e:∀o,h.get? a=some o->h'.get? a=some o):dj h' a vs:=
 by refine cU x λn e1=>?_;exact⟨n,e _ e1⟩
theorem Fj{vs ws:Array Value}{n m:Nat}(e:Data.seq vs n=Data.seq ws m):vs=ws:=(Data.seq.inj e).1
theorem dj.is{h:Heap}{a:Addr}{o:Obj}{vs ws:Array Value}{n:Nat}(x:dj h a vs)(e:h.get? a=some o)(d:o.data=.seq ws n):vs=ws:=
 by refine cU x λ_ f=>?_;exact Fj ((congrArg fW (ao (f.symm.trans e))).trans d)
theorem dj.inj{h:Heap}{a:Addr}{vs ws:Array Value}(x:dj h a vs)(y:dj h a ws):vs=ws:=by refine cU y λ_ e=>?_;exact x.is e rfl
def Hp(ok:Addr->Prop)(h:Heap)(as:List Addr):Prop:=∀a∈as,ok a/\∃vs,dj h a vs
def Rd(ok:Addr->Prop)(h:Heap)(v:Value)(d:D):Prop:=∃as,Reads h v d as/\Hp ok h as
abbrev dC(ok:Addr->Prop)(h:Heap)(vs:List Value)(ds:List D):Prop:=cW (Rd ok h) vs ds
def uH(h h':Heap)(as:List Addr):Prop:=∀b o,h.get? b=some o->((o.cls=.type "tuple"/\∃vs n,o.data=.seq vs n)\/b∈as)->h'.get? b=some o
theorem uH.sub{h h':Heap}{as bs:List Addr}(k:uH h h' bs)(s:∀a∈as,a∈bs):uH h h' as:=λb o e q=>k b o e (q.imp id (s b))
theorem Reads.part{h h':Heap}{v:Value}{d:PyData}{as:List Addr}(r:Reads h v d as):uH h h' as->Reads h' v d as:=
 Reads.rec (motive_1:=λv d as _=>uH h h' as->Reads h' v d as) (motive_2:=λvs ds as _=>uH h h' as->ReadsAll h' vs ds as)
  (λ_=>.none) (λb _=>.bool b) (λi t _=>.int i t) (λx t _=>.str x t)
  (λh1 h2 h3 _ ih k=>.list (k _ _ h1 (.inr (.head _))) h2 h3 (ih (k.sub λ_ m=>.tail _ m)))
  (λh1 h2 h3 _ ih k=>.tuple (k _ _ h1 (.inl ⟨h2,_,_,h3⟩)) h2 h3 (ih k))
  (λh1 h2 h3 _ _ ih ih' k=>.dict (k _ _ h1 (.inr (.head _))) h2 h3 (ih (k.sub λ_ m=>.tail _ (eA _ m))) (ih' (k.sub λ_ m=>.tail _ (cT _ m))))
  (λ_=>.nil) (λ_ _ ih ih' k=>.cons (ih (k.sub λ_=>eA _)) (ih' (k.sub λ_=>cT _))) r
def nP(h:Heap)(as:List Addr):Prop:=∀b∈as,∃o,h.get? b=some o
theorem nP.app{h:Heap}{as bs:List Addr}(x:nP h as)(y:nP h bs):nP h (as++bs):=λb m=>(List.mem_append.mp m).elim (x b) (y b)
theorem nP.cons{h:Heap}{a:Addr}{o:Obj}{bs:List Addr}(x:h.get? a=some o)(y:nP h bs):nP h (a::bs):=λb m=>(List.mem_cons.mp m).elim (λe=>e▸⟨o,x⟩) (y b)
theorem Reads.there{h:Heap}{v:Value}{d:PyData}{as:List Addr}(r:Reads h v d as):nP h as:=
 Reads.rec (motive_1:=λv d as _=>nP h as) (motive_2:=λvs ds as _=>nP h as)
  (λ_ m=>nomatch m) (λ_ _ m=>nomatch m) (λ_ _ _ m=>nomatch m) (λ_ _ _ m=>nomatch m) (λh1 _ _ _ ih=>ih.cons h1) (λ_ _ _ _ ih=>ih) (λh1 _ _ _ _ ih ih'=>(ih.cons h1).app ih')
  (λ_ m=>nomatch m) (λ_ _ ih ih'=>ih.app ih') r
section
variable{ok ok':Addr->Prop}{h h':Heap}{v:Value}{d:D}{vs vs':List Value}{ds ds':List D}
theorem Hp.app{as bs:List Addr}(x:Hp ok h as)(y:Hp ok h bs):Hp ok h (as++bs):=λa m=>(List.mem_append.mp m).elim (x a) (y a)
theorem dC.all(r:dC ok h vs ds):∃as,ReadsAll h vs ds as/\Hp ok h as:=by
 induction r with
 |nil=>exact⟨[],.nil,λ_ m=>nomatch m⟩
 |cons a _ ih=>exact by refine a7 a λ_ ra oa=>?_;exact by refine a7 ih λ_ rb ob=>?_;exact⟨_,.cons ra rb,oa.app ob⟩
theorem dC.of_all{as:List Addr}(r:ReadsAll h vs ds as):Hp ok h as->dC ok h vs ds:=
 ReadsAll.rec (motive_1:=λ_ _ _ _=>True) (motive_2:=λvs ds as _=>Hp ok h as->dC ok h vs ds)
  trivial (λ_=>trivial) (λ_ _=>trivial) (λ_ _=>trivial) (λ_ _ _ _ _=>trivial) (λ_ _ _ _ _=>trivial) (λ_ _ _ _ _ _ _=>trivial)
  (λ_=>cW.nil) (λa _ _ ih o=>cW.cons ⟨_,a,λx m=>o x (eA _ m)⟩ (ih λx m=>o x (cT _ m))) r
theorem Rd.mono(r:Rd ok h v d)(k:∀a,(∃o,h.get? a=some o)->ok a->ok' a):Rd ok' h v d:=by refine a7 r λas r o=>?_;exact⟨as,r,λa m=>⟨k a (Reads.there r a m) (o a m).1,(o a m).2⟩⟩
theorem dC.mono(r:dC ok h vs ds)(k:∀a,(∃o,h.get? a=some o)->ok a->ok' a):dC ok' h vs ds:=gQ (λ_ _ r=>r.mono k) r
theorem dC.nil:dC ok h [] []:=cW.nil
theorem dC.cons(a:Rd ok h v d)(b:dC ok h vs ds):dC ok h (v::vs) (d::ds):=cW.cons a b
theorem dC.uncons(r:dC ok h vs (d::ds)):∃v vs',vs=v::vs'/\Rd ok h v d/\dC ok h vs' ds:=mY r rfl
theorem dC.unnil(r:dC ok h vs []):vs=[]:=y7 r rfl
theorem dC.length(r:dC ok h vs ds):vs.length=ds.length:=(fk r).symm
theorem dC.get(r:dC ok h vs ds){i:Nat}{d:D}(e:ds[i]? =some d):∃v,vs[i]? =some v/\Rd ok h v d:=xG r e
theorem dC.append(r:dC ok h vs ds)(q:dC ok h vs' ds'):dC ok h (vs++vs') (ds++ds'):=sL r q
theorem dC.drop(r:dC ok h vs ds)(k:Nat):dC ok h (vs.drop k) (ds.drop k):=uF r k
theorem dC.take(r:dC ok h vs ds)(k:Nat):dC ok h (vs.take k) (ds.take k):=Bx r k
theorem Rd.int{i:Int}{t:Tok}:Rd ok h (.int i t) (.int i):=⟨[],.int i t,λ_ m=>nomatch m⟩
theorem Rd.str{x:Str}{t:Tok}:Rd ok h (.str x t) (.str x):=⟨[],.str x t,λ_ m=>nomatch m⟩
theorem Rd.bool{b:Bool}:Rd ok h (.bool b) (.bool b):=⟨[],.bool b,λ_ m=>nomatch m⟩
theorem Rd.none:Rd ok h .none .none:=⟨[],.none,λ_ m=>nomatch m⟩
def LO(ok:Addr->Prop)(h:Heap)(v:Value):D->Prop
 |.none=>v=.none
 |.bool b=>v=.bool b
 |.int i=>∃t,v=.int i t
 |.str x=>∃t,v=.str x t
 |.list ds=>∃a vs,v=.ref a/\ok a/\dj h a vs/\dC ok h vs.toList ds
 |.tuple ds=>∃a vs,v=.ref a/\h.IsTuple a vs/\dC ok h vs.toList ds
 |.dict _=>∃a,v=.ref a
theorem Rd.inv(r:Rd ok h v d):LO ok h v d:=by
 obtain⟨as,r,o⟩:=r
 cases r with
 |none=>rfl
 |bool b=>rfl
 |int i t=>exact⟨t,rfl⟩
 |str x t=>exact⟨t,rfl⟩
 |list h1 h2 h3 h4=>exact by obtain⟨ok1,vs,l⟩:=o _ (.head _);exact Y2 _ _ ⟨rfl,ok1,l.is h1 h3▸l,dC.of_all h4 λa m=>o a (.tail _ m)⟩
 |tuple h1 h2 h3 h4=>exact Y2 _ _ ⟨rfl,⟨_,h1,h2,_,h3⟩,dC.of_all h4 o⟩
 |dict=>exact⟨_,rfl⟩
theorem Rd.int_inv{i:Int}(r:Rd ok h v (.int i)):∃t,v=.int i t:=r.inv
theorem Rd.str_inv{x:Str}(r:Rd ok h v (.str x)):∃t,v=.str x t:=r.inv
theorem Rd.bool_inv{b:Bool}(r:Rd ok h v (.bool b)):v=.bool b:=r.inv
theorem Rd.none_inv(r:Rd ok h v .none):v=.none:=r.inv
theorem Rd.list_inv{ds:List D}(r:Rd ok h v (.list ds)):∃a vs,v=.ref a/\ok a/\dj h a vs/\dC ok h vs.toList ds:=r.inv
theorem Rd.tuple_inv{ds:List D}(r:Rd ok h v (.tuple ds)):∃a vs,v=.ref a/\h.IsTuple a vs/\dC ok h vs.toList ds:=r.inv
theorem Rd.list{a:Addr}{vs:Array Value}{ds:List D}(hl:dj h a vs)(ha:ok a)(r:dC ok h vs.toList ds):Rd ok h (.ref a) (.list ds):=
 by obtain⟨o,h1,h2,n,h3⟩:=hl.isList;exact by obtain⟨_,r,q⟩:=r.all;exact⟨_,.list h1 h2 h3 r,λb m=>(List.mem_cons.mp m).elim (λe=>e▸⟨ha,_,hl⟩) (q b)⟩
theorem Rd.tuple{a:Addr}{vs:Array Value}{ds:List D}(hl:h.IsTuple a vs)(r:dC ok h vs.toList ds):Rd ok h (.ref a) (.tuple ds):=
 by obtain⟨o,h1,h2,n,h3⟩:=hl;exact by obtain⟨_,r,q⟩:=r.all;exact⟨_,.tuple h1 h2 h3 r,q⟩
end
structure aH(W:Addr->Prop)(Wg:Nat->Prop)(s s':ab):Prop where
 heap:∀b o,¬W b->s.heap.get? b=some o->s'.heap.get? b=some o
 tup:∀b o,o.cls=.type "tuple"->(∃vs n,o.data=.seq vs n)->s.heap.get? b=some o->s'.heap.get? b=some o
 size:s.heap.objs.size<=s'.heap.objs.size
 gens:∀i g,¬Wg i->s.gens[i]? =some g->s'.gens[i]? =some g
 gsize:s.gens.size<=s'.gens.size
 bare:AllBare s.gens->AllBare s'.gens
 os:s'.os=s.os
 toks:s.toks<=s'.toks
abbrev xN:Addr->Prop:=λ_=>False
abbrev cx:Nat->Prop:=λ_=>False
abbrev bG(s s':ab):Prop:=aH xN cx s s'
section
variable{W W':Addr->Prop}{Wg Wg':Nat->Prop}{s s' s₁ s₂ s₃:ab}
theorem F4{h:Heap}{b:Addr}(e:h.objs.size<=b):h.get? b=bc:=by
 cases q:h.get? b with
 |none=>rfl
 |some o=>exact absurd (aC q) (Nat.not_lt.mpr e)
theorem aH.of_keep{h':Heap}{t:Nat}(ht:s.toks<=t)(hz:s.heap.objs.size<=h'.objs.size)(hk:∀b o,s.heap.get? b=some o->h'.get? b=some o):aH W Wg s {s with heap:=h',toks:=t}:=
 ⟨λb o _ e=>hk b o e,λb o _ _ e=>hk b o e,hz,λ_ _ _ e=>e,ai _,λx=>x,rfl,ht⟩
theorem aH.refl:aH W Wg s s:=⟨λ_ _ _ e=>e,λ_ _ _ _ e=>e,ai _,λ_ _ _ e=>e,ai _,λx=>x,rfl,ai _⟩
theorem aH.tk{t:Nat}(ht:s.toks<=t):aH W Wg s {s with toks:=t}:=⟨λ_ _ _ e=>e,λ_ _ _ _ e=>e,ai _,λ_ _ _ e=>e,ai _,λx=>x,rfl,ht⟩
theorem aH.tk1:aH W Wg s {s with toks:=s.toks+1}:=.tk (a8 _)
theorem aH.push{o:Obj}{t:Nat}(ht:s.toks<=t):aH W Wg s {s with heap:=s.heap.push o,toks:=t}:=aH.of_keep ht (by rw[aZ];exact a8 _) λ_ _ e=>aA _ e
theorem aH.push'{o:Obj}:aH W Wg s {s with heap:=s.heap.push o}:=aH.of_keep (t:=s.toks) (ai _) (by rw[aZ];exact a8 _) λ_ _ e=>aA _ e
theorem aH.same{a:Addr}{h':Heap}{t:Nat}{o₀:Obj}(hs:jQ a s.heap h')(h0:s.heap.get? a=some o₀)(hn:¬(o₀.cls=.type "tuple"/\∃vs n,o₀.data=.seq vs n))(ha:W a)(ht:s.toks<=t):
  aH W Wg s {s with heap:=h',toks:=t}:=by
 have hk:∀b o,¬W b->s.heap.get? b=some o->h'.get? b=some o:=λb o hb e=>(hs.2 b λq=>hb (q▸ha)).trans e
 refine⟨λb o hb e=>hk b o hb e,λb o hc hd e=>?_,aJ hs.1.symm,λ_ _ _ e=>e,ai _,λx=>x,rfl,ht⟩
 refine(hs.2 b λq=>?_).trans e
 subst q
 rw[h0]at e;cases e
 exact hn ⟨hc,hd⟩
theorem aH.ext{a:Addr}{h':Heap}{t:Nat}{o₀:Obj}(hs:Heap.ExtBut a s.heap h')(hz:s.heap.objs.size<=h'.objs.size)(h0:s.heap.get? a=some o₀)(hn:¬(o₀.cls=.type "tuple"/\∃vs n,o₀.data=.seq vs n))(ha:W a)(ht:s.toks<=t):
  aH W Wg s {s with heap:=h',toks:=t}:=by
 have hk:∀b o,¬W b->s.heap.get? b=some o->h'.get? b=some o:=λb o hb e=>hs b o (λq=>hb (q▸ha)) e
 refine⟨λb o hb e=>hk b o hb e,λb o hc hd e=>?_,hz,λ_ _ _ e=>e,ai _,λx=>x,rfl,ht⟩
 refine hs b o (λq=>?_) e
 subst q
 rw[h0]at e;cases e
 exact hn ⟨hc,hd⟩
theorem aH.trans(x:aH W Wg s₁ s₂)(y:aH W' Wg' s₂ s₃)(hw:∀b,W' b->W b\/s₁.heap.objs.size<=b)(hg:∀i,Wg' i->Wg i\/s₁.gens[i]? =none):aH W Wg s₁ s₃ where
 heap b o hb e:=y.heap b o (λw=>(hw b w).elim hb λz=>by rw[F4 z]at e;cases e) (x.heap b o hb e)
 tup b o hc hd e:=y.tup b o hc hd (x.tup b o hc hd e)
 size:=ah x.size y.size
 gens i g hi e:=y.gens i g (λw=>(hg i w).elim hi λz=>by rw[z]at e;cases e) (x.gens i g hi e)
 gsize:=ah x.gsize y.gsize
 bare b:=y.bare (x.bare b)
 os:=y.os.trans x.os
 toks:=ah x.toks y.toks
theorem aH.trans0(x:aH W Wg s₁ s₂)(y:bG s₂ s₃):aH W Wg s₁ s₃:=x.trans y (λ_ w=>w.elim) (λ_ w=>w.elim)
theorem aH.trans1(x:aH W Wg s₁ s₂)(y:aH W Wg s₂ s₃):aH W Wg s₁ s₃:=x.trans y (λ_ w=>.inl w) (λ_ w=>.inl w)
theorem aH.mono(x:aH W Wg s₁ s₂)(hw:∀b,W b->W' b\/s₁.heap.objs.size<=b)(hg:∀i,Wg i->Wg' i\/s₁.gens[i]? =none):aH W' Wg' s₁ s₂:=aH.trans aH.refl x hw hg
theorem aH.of0(x:bG s₁ s₂):aH W Wg s₁ s₂:=x.mono (λ_ w=>w.elim) (λ_ w=>w.elim)
theorem aH.keep0(x:bG s s'):∀b o,s.heap.get? b=some o->s'.heap.get? b=some o:=λb o e=>x.heap b o (λw=>w) e
theorem Rd.grow{ok:Addr->Prop}{v:Value}{d:D}(r:Rd ok s.heap v d)(g:aH W Wg s s')(hw:∀a,ok a->(∃vs,dj s.heap a vs)->¬W a):Rd ok s'.heap v d:=
 by refine a7 r λas r o=>?_;exact⟨as,Reads.part r λb ob e q=>q.elim (λq=>g.tup b ob q.1 q.2 e) λm=>g.heap b ob (hw b (o b m).1 (o b m).2) e,λa m=>⟨(o a m).1,by refine cU ((o a m).2) λvs l=>?_;exact⟨vs,l.at λob e=>g.heap _ ob (hw a (o a m).1 (o a m).2) e⟩⟩⟩
theorem dC.grow{ok:Addr->Prop}{v:List Value}{d:List D}(r:dC ok s.heap v d)(g:aH W Wg s s')(hw:∀a,ok a->(∃vs,dj s.heap a vs)->¬W a):dC ok s'.heap v d:=gQ (λ_ _ r=>r.grow g hw) r
theorem Rd.grow0{ok:Addr->Prop}{v:Value}{d:D}(r:Rd ok s.heap v d)(g:bG s s'):Rd ok s'.heap v d:=r.grow g λ_ _ _ w=>w
theorem dC.grow0{ok:Addr->Prop}{v:List Value}{d:List D}(r:dC ok s.heap v d)(g:bG s s'):dC ok s'.heap v d:=r.grow g λ_ _ _ w=>w
end
def EX(ok:Addr->Prop)(h:Heap):Prop:=∀a,h.objs.size<=a->ok a
theorem EX.grow{ok:Addr->Prop}{W:Addr->Prop}{Wg:Nat->Prop}{s s':ab}(k:EX ok s.heap)(g:aH W Wg s s'):EX ok s'.heap:=λa e=>k a (ah g.size e)
def bj(n:Nat)(A:Around):Prop:=A.handled=none/\A.depth+n<=500/\A.units+20 * n<=5000
theorem bj.hh{n:Nat}{A:Around}(r:bj n A):A.handled=none:=r.1
theorem bj.sum{a b m n:Nat}(h:a+n<=m)(k:b<=n):a+b<=m:=ah (Nat.add_le_add_left k a) h
theorem bj.depth{n:Nat}{A:Around}(r:bj n A):A.depth < recursionLimit:=du (ah (aF ..) r.2.1) (by decide)
theorem bj.units{n:Nat}{A:Around}(r:bj n A):A.units+64 < cLine:=du (jM (ah (aF ..) r.2.2) 64) (by decide)
theorem bj.deeper{n:Nat}{A:Around}{env:Env}(r:bj (n+1) A):bj n (A.deeper env):=⟨r.1,lg A.depth 1 n▸r.2.1,by
 show A.units+3+20 * n<=5000
 have:=r.2.2;exact J2 [Ql (Qa Q0 (Qm 20 (Qs Q1 1))) (Qn 5000)] (Qa (Qs Q0 3) (Qm 20 Q1)) (Qn 5000) 1 [1] Qt this⟩
theorem bj.in1{n:Nat}{A:Around}(r:bj (n+1) A):bj n A.in1:=⟨r.1,bj.sum r.2.1 (a8 n),by
 show A.units+1+20 * n<=5000
 have:=r.2.2;exact J2 [Ql (Qa Q0 (Qm 20 (Qs Q1 1))) (Qn 5000)] (Qa (Qs Q0 1) (Qm 20 Q1)) (Qn 5000) 1 [1] Qt this⟩
theorem bj.less{n m:Nat}{A:Around}(r:bj n A)(h:m<=n):bj m A:=⟨r.1,bj.sum r.2.1 h,bj.sum r.2.2 (gJ 20 h)⟩
set_option genInjectivity false in
set_option genSizeOf false in
structure Cx where
 prog:Program
 w:BE
 h₀:Heap
 tab:Addr
 os₀:OsState
 mg:Str->Option Value
 mb:Str->Option Value
 lexC:Addr
 lamFn:Addr->Addr->FuncData->Prop
abbrev Cx.M(C:Cx):Model:=kY C.prog C.w
structure dk(C:Cx):Prop where
 g:C.h₀.Ns mainGlobals C.mg
 b:C.h₀.Ns eY C.mb
 nolimit:C.h₀.NoLimit
 gne:mainGlobals≠C.tab
 bne:eY≠C.tab
 sne:cStatics≠C.tab
 tab0:∃o,C.h₀.get? C.tab=some o
structure Wd(C:Cx)(s:ab):Prop where
 kept:∀b o,b≠C.tab->C.h₀.get? b=some o->s.heap.get? b=some o
 tab:∃ps,s.heap.get? C.tab=some (jn ps)
 os:s.os=C.os₀
 toks:0 < s.toks
 bare:AllBare s.gens
set_option genInjectivity false in
set_option genSizeOf false in
structure cH where
 lex:Addr
 lexd:Addr
 pb:Addr
 st:Addr
 std:Addr
 fn:Addr
 cell:Addr
 sg:Addr
 co:Addr
set_option genSizeOf false in
structure LexSt where
 push:List Str
 rest:List Str
 line:Int
abbrev Lx:=Option (cH × LexSt)
def cH.all(a:cH)(b:Addr):Prop:=b=a.lex\/b=a.lexd\/b=a.pb\/b=a.st\/b=a.std\/b=a.fn\/b=a.cell\/b=a.sg\/b=a.co
def cH.mut(a:cH)(b:Addr):Prop:=b=a.lexd\/b=a.pb\/b=a.sg
def LW:Lx->Addr->Prop
 |none,_=>False
 |some (a,_),b=>a.all b
def W:Lx->Addr->Prop
 |none,_=>False
 |some (a,_),b=>a.mut b
def bV:Lx->Lx->Prop
 |none,none=>True
 |some (a,_),some (b,_)=>a=b
 |_,_=>False
def nj(vs:List Value)(xs:List Str):Prop:=cW (λv x=>∃t,v=.str x t) vs xs
structure xJ(a:cH)(t:LexSt)(m:Str->Option Value)(es:Array DictEntry):Prop where
 line:∃k,m "lineno"=some (.int t.line k)
 inst:m "instream"=some (.ref a.st)
 ws:∃k,m "whitespace"=some (.str "\n\t\u000d " k)
 push:m "pushback"=some (.ref a.pb)
 rest:∀x:Str,x≠"lineno"->x≠"instream"->x≠"whitespace"->x≠"pushback"->m x=none
 small:es.size<=64
abbrev pe(es:Array DictEntry)(n:Nat):Obj:={cls:=.type "dict",data:=.dict es n}
inductive eU(h:Heap)(a:Addr)(P:(Str->Option Value)->Array DictEntry->Prop):Prop where
 |mk (m:Str->Option Value) (es:Array DictEntry) (n:Nat) (get:h.get? a=some (pe es n)) (ns:h.Ns a m) (p:P m es)
inductive uI(C:Cx)(h:Heap)(fn cell co:Addr):Prop where
 |mk (o:Obj) (fd:FuncData) (oc:Obj) (vs:Array Value) (t:Tok) (get:h.get? fn=some o) (data:o.data=.func fd) (lam:C.lamFn cell co fd) (code:h.get? co=some oc) (fields:oc.data=.fields vs) (name:vs[1]? =some (.str fd.qualname t))
inductive oy(h:Heap)(a:Addr)(xs:List Str):Prop where
 |mk (vs:Array Value) (l:dj h a vs) (r:nj vs.toList xs)
structure cn(C:Cx)(a:cH)(t:LexSt)(h:Heap):Prop where
 lex:h.get? a.lex=some (eI C.lexC a.lexd)
 lexd:eU h a.lexd (xJ a t)
 pb:oy h a.pb t.push
 st:h.get? a.st=some (eI C.lexC a.std)
 std:eU h a.std λm _=>m "read"=some (.ref a.fn)
 fn:uI C h a.fn a.cell a.co
 cell:h.IsCell a.cell (some (.ref a.sg))
 sg:oy h a.sg t.rest
 apart:a.pb≠a.sg/\a.lexd≠a.std
theorem Ns.at{h h':Heap}{a:Addr}{m:Str->Option Value}(x:h.Ns a m)(e:∀o,h.get? a=some o->h'.get? a=some o):h'.Ns a m:=
 by refine I8 x λo es ep e1 r=>?_;exact Y3 o es ep ⟨e _ e1,r⟩
theorem IsCell.at{h h':Heap}{a:Addr}{v:Option Value}(x:h.IsCell a v)(e:∀o,h.get? a=some o->h'.get? a=some o):h'.IsCell a v:=
 by refine a7 x λo e1 r=>?_;exact⟨o,e _ e1,r⟩
theorem eU.at{h h':Heap}{a:Addr}{P:(Str->Option Value)->Array DictEntry->Prop}(x:eU h a P)(k:∀o,h.get? a=some o->h'.get? a=some o):eU h' a P:=by obtain⟨m,es,n,e,ns,p⟩:=x;exact⟨m,es,n,k _ e,Ns.at ns k,p⟩
theorem oy.at{h h':Heap}{a:Addr}{xs:List Str}(x:oy h a xs)(k:∀o,h.get? a=some o->h'.get? a=some o):oy h' a xs:=by obtain⟨vs,l,r⟩:=x;exact⟨vs,l.at k,r⟩
theorem uI.at{C:Cx}{h h':Heap}{fn cell co:Addr}(x:uI C h fn cell co)(k:∀o,h.get? fn=some o->h'.get? fn=some o)(k':∀o,h.get? co=some o->h'.get? co=some o):uI C h' fn cell co:=
 by obtain⟨o,fd,oc,vs,t,g,d,l,c,f,n⟩:=x;exact⟨o,fd,oc,vs,t,k _ g,d,l,k' _ c,f,n⟩
section
variable{a:cH}
theorem cH.lex_:a.all a.lex:=.inl rfl
theorem cH.lexd_:a.all a.lexd:=.inr (.inl rfl)
theorem cH.pb_:a.all a.pb:=.inr (.inr (.inl rfl))
theorem cH.st_:a.all a.st:=.inr (.inr (.inr (.inl rfl)))
theorem cH.std_:a.all a.std:=.inr (.inr (.inr (.inr (.inl rfl))))
theorem cH.fn_:a.all a.fn:=.inr (.inr (.inr (.inr (.inr (.inl rfl)))))
theorem cH.cell_:a.all a.cell:=.inr (.inr (.inr (.inr (.inr (.inr (.inl rfl))))))
theorem cH.sg_:a.all a.sg:=.inr (.inr (.inr (.inr (.inr (.inr (.inr (.inl rfl)))))))
theorem cH.co_:a.all a.co:=.inr (.inr (.inr (.inr (.inr (.inr (.inr (.inr rfl)))))))
theorem cH.all_k{P:Addr->Prop}{b:Addr}(x:a.all b)(h1:P a.lex)(h2:P a.lexd)(h3:P a.pb)(h4:P a.st)(h5:P a.std)(h6:P a.fn)(h7:P a.cell)(h8:P a.sg)(h9:P a.co):P b:=by
 rcases x with e|e|e|e|e|e|e|e|e<;>rw[e]<;>assumption
theorem cH.mut_k{P:Addr->Prop}{b:Addr}(x:a.mut b)(h2:P a.lexd)(h3:P a.pb)(h8:P a.sg):P b:=by
 rcases x with e|e|e<;>rw[e]<;>assumption
end
theorem cn.part{C:Cx}{a:cH}{t:LexSt}{h h':Heap}(x:cn C a t h)(k:∀b o,a.all b->h.get? b=some o->h'.get? b=some o):cn C a t h' where
 lex:=k _ _ cH.lex_ x.lex
 lexd:=x.lexd.at λo=>k _ o cH.lexd_
 pb:=x.pb.at λo=>k _ o cH.pb_
 st:=k _ _ cH.st_ x.st
 std:=x.std.at λo=>k _ o cH.std_
 fn:=x.fn.at (λo=>k _ o cH.fn_) λo=>k _ o cH.co_
 cell:=IsCell.at x.cell λo=>k _ o cH.cell_
 sg:=x.sg.at λo=>k _ o cH.sg_
 apart:=x.apart
def nN(C:Cx):Lx->Heap->Prop
 |none,_=>True
 |some (a,t),h=>cn C a t h
theorem bV.refl{l:Lx}:bV l l:=by cases l with
 |none=>trivial
 |some _=>rfl
theorem bV.trans{l m n:Lx}(a:bV l m)(b:bV m n):bV l n:=by
 cases l with
 |none=>cases m with
  |none=>exact b
  |some _=>exact a.elim
 |some _=>cases m with
  |none=>exact a.elim
  |some _=>cases n with
   |none=>exact b.elim
   |some _=>exact Eq.trans (show _=_ from a) (show _=_ from b)
theorem bV.both{l m:Lx}(a:bV l m):W m=W l/\LW m=LW l:=by
 cases l with
 |none=>cases m with
  |none=>exact⟨rfl,rfl⟩
  |some _=>exact a.elim
 |some _=>cases m with
  |none=>exact a.elim
  |some _=>exact⟨congrArg cH.mut (show _=_ from a).symm,congrArg cH.all (show _=_ from a).symm⟩
theorem bV.W{l m:Lx}(a:bV l m):W m=W l:=a.both.1
theorem bV.LW{l m:Lx}(a:bV l m):LW m=LW l:=a.both.2
theorem cC{l:Lx}{b:Addr}(h:W l b):LW l b:=by
 cases l with
 |none=>exact h
 |some p=>exact cH.mut_k (P:=p.1.all) h cH.lexd_ cH.pb_ cH.sg_
theorem nN.part{C:Cx}{h h':Heap}{lx:Lx}(x:nN C lx h)(k:∀b o,LW lx b->h.get? b=some o->h'.get? b=some o):nN C lx h':=by
 cases lx with
 |none=>trivial
 |some p=>exact cn.part x k
theorem nN.alive{C:Cx}{h:Heap}{lx:Lx}{b:Addr}(x:nN C lx h)(m:LW lx b):∃o,h.get? b=some o:=by
 cases lx with
 |none=>exact m.elim
 |some p=>exact cH.all_k (P:=λb=>∃o,h.get? b=some o) m ⟨_,cn.lex x⟩ (by obtain⟨_,_,_,e,_,_⟩:=cn.lexd x;exact⟨_,e⟩) (by obtain⟨_,⟨_,e⟩,_⟩:=cn.pb x;exact⟨_,e⟩) ⟨_,cn.st x⟩ (by obtain⟨_,_,_,e,_,_⟩:=cn.std x;exact⟨_,e⟩) (by obtain⟨_,_,_,_,_,e,_,_,_,_,_⟩:=cn.fn x;exact⟨_,e⟩) (by obtain⟨_,e,_⟩:=cn.cell x;exact⟨_,e⟩) (by obtain⟨_,⟨_,e⟩,_⟩:=cn.sg x;exact⟨_,e⟩) (by obtain⟨_,_,_,_,_,_,_,_,e,_,_⟩:=cn.fn x;exact⟨_,e⟩)
inductive Va where
 |dat (d:D)
 |bor (d:D)
 |lex
def RV(ok okb:Addr->Prop)(lx:Lx)(h:Heap):Va->Value->Prop
 |.dat d,v=>Rd ok h v d
 |.bor d,v=>Rd okb h v d
 |.lex,v=>∃a t,lx=some (a,t)/\v=.ref a.lex
abbrev iZ(x y z:Value):Obj:={cls:=.type "callable_iterator",data:=.fields #[x,y,z]}
inductive LV where
 |un
 |dat (d:D)
 |bor (d:D)
 |own (ds:List D)
 |own2 (dss:List (List D))
 |ci (it f:Addr) (live:Bool)
 |raw (v:Value)
 |lex
def vX(ok:Addr->Prop)(h:Heap)(bs:List Addr)(dss:List (List D)):Prop:=
 cW (λb ds=>∃vs,dj h b vs/\dC ok h vs.toList ds) bs dss
def jf(ok okb:Addr->Prop)(lx:Lx)(h:Heap):LV->Option Value->List Addr->Prop
 |.un,_,as=>as=[]
 |.dat d,u,as=>as=[]/\∃v,u=some v/\Rd ok h v d
 |.bor d,u,as=>as=[]/\∃v,u=some v/\Rd okb h v d
 |.own ds,u,as=>∃a vs,u=some (.ref a)/\as=[a]/\dj h a vs/\dC ok h vs.toList ds
 |.raw v,u,as=>as=[]/\u=some v
 |.ci it f live,u,as=>∃bm a t,u=some (.ref it)/\as=[it,bm]/\lx=some (a,t)/\h.get? bm=some (jE (.ref f) (.ref a.lex))/\(if live=true then ∃t0,h.get? it=some (iZ (.ref bm) (.str "" t0) (.bool false))else h.get? it=some (iZ .none .none (.bool true)))
 |.own2 dss,u,as=>∃a bs vs,u=some (.ref a)/\as=a::bs/\dj h a vs/\vs.toList=bs.map fm/\vX ok h bs dss
 |.lex,u,as=>as=[]/\∃a t,lx=some (a,t)/\u=some (.ref a.lex)
structure aY(sc:Scope)(env:Env):Prop where
 scope:env.scope=sc
 kind:sc.kind=.function
 globals:env.globals=mainGlobals
 builtins:env.builtins=eY
 apart:env.cells.Pairwise λx y=>x.2≠y.2
 nodup:(sc.names.map (·.1)).Nodup
structure St(C:Cx)(sc:Scope)(env:Env)(ρ:List LV)(lx:Lx)(ok okb:Addr->Prop)(og:Nat->List Addr)(μ:Str->Option Value)(s:ab):Prop where
 wd:Wd C s
 okf:EX ok s.heap
 sub:∀a,ok a->okb a
 len:ρ.length=sc.names.length
 ns:∃m,s.heap.Ns env.locals m/\∀x,sc.names.lookup x=some .local->m x=μ x
 cell:∀x,sc.names.lookup x=some .cell->∃c,env.cells.lookup x=some c/\s.heap.IsCell c (μ x)
 cellx:∀x c,env.cells.lookup x=some c->∃v,s.heap.IsCell c v
 vars:∀i x k lv,sc.names[i]? =some (x,k)->ρ[i]? =some lv->jf ok okb lx s.heap lv (μ x) (og i)
 owns:∀i a,a∈og i->okb a/\¬ok a/\C.h₀.get? a=none/\a≠C.tab
 ownd:∀i,(og i).Nodup
 ownx:∀i j a,a∈og i->a∈og j->i=j
 lxr:nN C lx s.heap
 lxok:∀b,okb b->¬LW lx b
 lxf:¬LW lx env.locals/\∀x c,env.cells.lookup x=some c->¬LW lx c
 lx0:∀b,W lx b->C.h₀.get? b=none/\b≠C.tab
 fr0:(C.h₀.get? env.locals=none/\env.locals≠C.tab)/\∀x c,env.cells.lookup x=some c->C.h₀.get? c=none/\c≠C.tab
theorem bV.get{lx lx':Lx}(sa:bV lx lx'){a:cH}{t:LexSt}(e:lx=some (a,t)):∃t',lx'=some (a,t'):=by
 subst e
 cases lx' with
 |none=>exact sa.elim
 |some p=>exact⟨p.2,congrArg (λb=>some (b,p.2)) (show a=p.1 from sa).symm⟩
section
variable{ok okb ok' okb':Addr->Prop}{lx lx':Lx}{W:Addr->Prop}{Wg:Nat->Prop}{s s':ab}
theorem RV.grow(g:aH W Wg s s')(h1:∀a,ok a->(∃vs,dj s.heap a vs)->¬W a)(h2:∀a,okb a->(∃vs,dj s.heap a vs)->¬W a)(sa:bV lx lx'){r:Va}{v:Value}(x:RV ok okb lx s.heap r v):RV ok okb lx' s'.heap r v:=by
 cases r with
 |dat _=>exact Rd.grow x g h1
 |bor _=>exact Rd.grow x g h2
 |lex=>exact by refine xQ x λa _ e e2=>?_;exact by refine cU (sa.get e) λt' e'=>?_;exact Y2 a t' ⟨e',e2⟩
theorem Rd.move(g:aH W Wg s s')(h1:∀a,ok a->(∃vs,dj s.heap a vs)->¬W a)(k1:∀a,a < s.heap.objs.size->ok a->ok' a){v:Value}{d:D}(r:Rd ok s.heap v d):Rd ok' s'.heap v d:=
 Rd.mono (Rd.grow (r.mono (ok':=λa=>ok a/\ok' a) λa ⟨_,e⟩ o=>⟨o,k1 a (aC e) o⟩) g λa o l=>h1 a o.1 l) λ_ _ o=>o.2
theorem dC.move(g:aH W Wg s s')(h1:∀a,ok a->(∃vs,dj s.heap a vs)->¬W a)(k1:∀a,a < s.heap.objs.size->ok a->ok' a){v:List Value}{d:List D}(r:dC ok s.heap v d):dC ok' s'.heap v d:=gQ (λ_ _ r=>r.move g h1 k1) r
theorem dj.grow(g:aH W Wg s s'){a:Addr}{vs:Array Value}(h:¬W a)(x:dj s.heap a vs):dj s'.heap a vs:=x.at λo e=>g.heap _ o h e
theorem jf.move(g:aH W Wg s s')(sa:bV lx lx')
  (h1:∀a,ok a->(∃vs,dj s.heap a vs)->¬W a)(h2:∀a,okb a->(∃vs,dj s.heap a vs)->¬W a)(k1:∀a,a < s.heap.objs.size->ok a->ok' a)(k2:∀a,a < s.heap.objs.size->okb a->okb' a)
  {lv:LV}{u:Option Value}{as:List Addr}(ho:∀a∈as,¬W a)(x:jf ok okb lx s.heap lv u as):jf ok' okb' lx' s'.heap lv u as:=by
 cases lv with
 |un=>exact x
 |raw _=>exact x
 |dat _=>exact⟨x.1,by refine a7 x.2 λv e r=>?_;exact⟨v,e,r.move g h1 k1⟩⟩
 |bor _=>exact⟨x.1,by refine a7 x.2 λv e r=>?_;exact⟨v,e,r.move g h2 k2⟩⟩
 |own _=>refine ml x λa vs hX=>?_;obtain rfl:=hX.2.1;refine wb hX λe1 _ l r=>?_;exact Y2 a vs ⟨e1,rfl,dj.grow g (ho a (.head _)) l,r.move g h1 k1⟩
 |ci it _ live=>
  obtain⟨bm,a,t,e1,rfl,e3,m,c⟩:=x
  refine cU (sa.get e3) λt' e4=>?_
  refine Y3 bm a t' ⟨e1,rfl,e4,g.heap _ _ (ho bm (.tail _ (.head _))) m,?_⟩
  cases live with
  |true=>exact by refine cU c λt0 c=>?_;exact⟨t0,g.heap _ _ (ho it (.head _)) c⟩
  |false=>exact g.heap _ _ (ho it (.head _)) c
 |own2 _=>refine Kz x λa bs vs hX=>?_;obtain rfl:=hX.2.1;refine Jp hX λe1 _ l e3 r=>?_;exact Y3 a bs vs ⟨e1,rfl,dj.grow g (ho a (.head _)) l,e3,eH r λb ds m y=>by refine a7 y λws l r=>?_;exact⟨ws,dj.grow g (ho b (.tail _ m)) l,r.move g h1 k1⟩⟩
 |lex=>exact⟨x.1,by refine xQ x.2 λa t e1 e2=>?_;exact by refine cU (sa.get e1) λt' e3=>?_;exact Y2 a t' ⟨e3,e2⟩⟩
end
theorem Wd.grow{C:Cx}{W:Addr->Prop}{Wg:Nat->Prop}{s s':ab}(x:Wd C s)(g:aH W Wg s s')(hw:∀b,W b->C.h₀.get? b=none/\b≠C.tab):Wd C s' where
 kept b o hb e:=g.heap b o (λw=>by rw[(hw b w).1]at e;cases e) (x.kept b o hb e)
 tab:=by refine cU x.tab λps e=>?_;exact⟨ps,g.heap _ _ (λw=>(hw _ w).2 rfl) e⟩
 os:=g.os.trans x.os
 toks:=ay x.toks g.toks
 bare:=g.bare x.bare
theorem St.move{C:Cx}{sc:Scope}{env:Env}{ρ:List LV}{lx lx':Lx}{ok okb ok' okb':Addr->Prop}{og:Nat->List Addr}{μ:Str->Option Value}{s s':ab}(x:St C sc env ρ lx ok okb og μ s)
  (g:aH (W lx) cx s s')(sa:bV lx lx')(l:nN C lx' s'.heap)
  (k1:∀a,a < s.heap.objs.size->ok a->ok' a)(k1':∀a,ok' a->ok a)(k2:∀a,a < s.heap.objs.size->okb a->okb' a)(k2':∀a,okb' a->okb a)(hs:∀a,ok' a->okb' a)(hf:EX ok' s'.heap):
  St C sc env ρ lx' ok' okb' og μ s':=by
 have hb:∀a,okb a->¬W lx a:=λa o w=>x.lxok a o (cC w)
 have ex:∀i a,a∈og i->a < s.heap.objs.size:=λi a m=>gu λq=>(x.owns i a m).2.1 (x.okf a q)
 exact{
  wd:=x.wd.grow g x.lx0
  okf:=hf
  sub:=hs
  len:=x.len
  ns:=by refine a7 x.ns λm n r=>?_;exact⟨m,Ns.at n λo=>g.heap _ o (λw=>x.lxf.1 (cC w)),r⟩
  cell:=λy e=>by refine a7 (x.cell y e) λc e1 e2=>?_;exact⟨c,e1,IsCell.at e2 λo=>g.heap _ o (λw=>x.lxf.2 _ _ e1 (cC w))⟩
  cellx:=λy c e=>by refine cU (x.cellx y c e) λv e2=>?_;exact⟨v,IsCell.at e2 λo=>g.heap _ o (λw=>x.lxf.2 _ _ e (cC w))⟩
  vars:=λi y k lv e1 e2=>jf.move g sa (λa o _=>hb a (x.sub a o)) (λa o _=>hb a o) k1 k2 (λa m w=>hb a (x.owns i a m).1 w) (x.vars i y k lv e1 e2)
  owns:=λi a m=>⟨k2 a (ex i a m) (x.owns i a m).1,λo=>(x.owns i a m).2.1 (k1' a o),(x.owns i a m).2.2⟩
  ownd:=x.ownd
  ownx:=x.ownx
  lxr:=l
  lxok:=λb o=>by rw[sa.LW];exact x.lxok b (k2' b o)
  lxf:=by rw[sa.LW];exact x.lxf
  lx0:=by rw[sa.W];exact x.lx0
  fr0:=x.fr0}
theorem St.grow{C:Cx}{sc:Scope}{env:Env}{ρ:List LV}{lx lx':Lx}{ok okb:Addr->Prop}{og:Nat->List Addr}{μ:Str->Option Value}{s s':ab}(x:St C sc env ρ lx ok okb og μ s)
  (g:aH (W lx) cx s s')(sa:bV lx lx')(l:nN C lx' s'.heap):St C sc env ρ lx' ok okb og μ s':=
 x.move g sa l (λ_ _ o=>o) (λ_ o=>o) (λ_ _ o=>o) (λ_ o=>o) x.sub (x.okf.grow g)
theorem nN.grow0{C:Cx}{lx:Lx}{s s':ab}(x:nN C lx s.heap)(g:bG s s'):nN C lx s'.heap:=x.part λb o _ e=>g.keep0 b o e
theorem St.grow0{C:Cx}{sc:Scope}{env:Env}{ρ:List LV}{lx:Lx}{ok okb:Addr->Prop}{og:Nat->List Addr}{μ:Str->Option Value}{s s':ab}(x:St C sc env ρ lx ok okb og μ s)
  (g:bG s s'):St C sc env ρ lx ok okb og μ s':=x.grow g.of0 .refl (x.lxr.grow0 g)
inductive iV(C:Cx)(ok okb:Addr->Prop)(lx:Lx)(s:ab)(Q:Va->Lx->Prop)(v:Value)(s':ab):Prop where
 |mk (r:Va) (lx':Lx) (q:Q r lx') (rv:RV ok okb lx' s'.heap r v) (sa:bV lx lx') (l:nN C lx' s'.heap) (g:aH (W lx) cx s s')
abbrev bJ:Value->ab->Prop:=λ_ _=>False
def Ev(C:Cx)(n:Nat)(sc:Scope)(e:Expr)(ρ:List LV)(lx:Lx)(Q:Va->Lx->Prop):Prop:=
 ∀A env ok okb og μ s,bj n A->aY sc env->St C sc env ρ lx ok okb og μ s->ar C.M A (eval e env) (iV C ok okb lx s Q) bJ s
noncomputable def qX(C:Cx)(n:Nat)(sc:Scope):List Expr->List LV->Lx->(List Va->Lx->Prop)->Prop
 |[],_,lx,Q=>Q [] lx
 |e::es,ρ,lx,Q=>Ev C n sc e ρ lx λr lx1=>qX C n sc es ρ lx1 λrs lx2=>Q (r::rs) lx2
section
variable{C:Cx}{n:Nat}{sc:Scope}{ρ:List LV}{lx:Lx}
theorem Ev.mono{e:Expr}{Q Q':Va->Lx->Prop}(h:Ev C n sc e ρ lx Q)(k:∀r l,Q r l->Q' r l):Ev C n sc e ρ lx Q':=
 λA env ok okb og μ s r E S=>al (h A env ok okb og μ s r E S) (by rintro _ _ ⟨r,l,q,x,y,z,w⟩;exact⟨r,l,k _ _ q,x,y,z,w⟩) λ_ _ x=>x
theorem iV.of0{ok okb:Addr->Prop}{s s':ab}{Q:Va->Lx->Prop}{v:Value}{r:Va}(q:Q r lx)(x:RV ok okb lx s'.heap r v)(l:nN C lx s.heap)(g:bG s s'):iV C ok okb lx s Q v s':=
 ⟨r,lx,q,x,.refl,l.grow0 g,g.of0⟩
theorem iV.then{ok okb:Addr->Prop}{s s₁ s':ab}{lx₁:Lx}{Q:Va->Lx->Prop}{v:Value}(g:aH (W lx) cx s s₁)(sa:bV lx lx₁)(p:iV C ok okb lx₁ s₁ Q v s'):iV C ok okb lx s Q v s':=by
 obtain⟨r,l,q,x,sa',l',g'⟩:=p
 exact⟨r,l,q,x,sa.trans sa',l',g.trans1 (sa.W▸g')⟩
theorem Ev.int{i:Int}{k:Nat}{pos:Pos}{Q:Va->Lx->Prop}(h:Q (.dat (.int i)) lx):Ev C n sc (.Constant (.int i) k pos) ρ lx Q:=
 λ_ _ _ _ _ _ _ _ _ S=>dH (.of0 h Rd.int S.lxr .tk1)
theorem Ev.str{x:Str}{k:Nat}{pos:Pos}{Q:Va->Lx->Prop}(h:Q (.dat (.str x)) lx):Ev C n sc (.Constant (.str x) k pos) ρ lx Q:=
 λ_ _ _ _ _ _ _ _ _ S=>fJ (.of0 h Rd.str S.lxr .tk1)
theorem Ev.bool{b:Bool}{k:Nat}{pos:Pos}{Q:Va->Lx->Prop}(h:Q (.dat (.bool b)) lx):Ev C n sc (.Constant (.bool b) k pos) ρ lx Q:=
 λ_ _ _ _ _ _ _ _ _ S=>uN (.of0 h Rd.bool S.lxr .refl)
theorem Ev.none{k:Nat}{pos:Pos}{Q:Va->Lx->Prop}(h:Q (.dat .none) lx):Ev C n sc (.Constant .none k pos) ρ lx Q:=
 λ_ _ _ _ _ _ _ _ _ S=>uM (.of0 h Rd.none S.lxr .refl)
theorem cS{α:Type}{l:List (Str × α)}{x:Str}{k:α}:∀{i:Nat},(l.map (·.1)).Nodup->l[i]? =some (x,k)->l.lookup x=some k:=by
 induction l with
 |nil=>exact λ_ e=>by cases e
 |cons p r ih=>
  intro i h e
  cases i with
  |zero=>obtain rfl:=ao e;rw[gv,beq_self_eq_true]
  |succ i=>
   have hn:=List.nodup_cons.mp h
   rw[gv,beq_eq_false_iff_ne.mpr λ(q:x=p.1)=>hn.1 (show p.1∈r.map (·.1)from q▸List.mem_map.mpr ⟨_,aU (show r[i]? =some (x,k)from e),rfl⟩)]
   exact ih hn.2 e
def d5(ns:List (Str × az))(ρ:List LV)(i:Nat)(x:Str)(k:az)(lv:LV):Prop:=ns[i]? =some (x,k)/\ρ[i]? =some lv
theorem d5.get{ns:List (Str × az)}{ρ:List LV}{i:Nat}{x:Str}{k:az}{lv:LV}(h:d5 ns ρ i x k lv):ns[i]? =some (x,k)/\ρ[i]? =some lv:=h
noncomputable def LV.va:LV->Option Va
 |.un=>bc
 |.dat d=>some (.dat d)
 |.bor d=>some (.bor d)
 |.own ds=>some (.bor (.list ds))
 |.own2 dss=>some (.bor (.list (dss.map .list)))
 |.ci _ _ _=>bc
 |.raw _=>bc
 |.lex=>some .lex
theorem CA{ok okb:Addr->Prop}{h:Heap}{bs:List Addr}{dss:List (List D)}(x:vX ok h bs dss)(k:∀a,ok a->okb a)(m:∀b∈bs,okb b):dC okb h (bs.map fm) (dss.map .list):=
 xF _ _ (eH x λb ds hb y=>by refine a7 y λ_ l r=>?_;exact Rd.list l (m b hb) (r.mono λa _ o=>k a o))
theorem jf.rv{ok okb:Addr->Prop}{lx:Lx}{h:Heap}(k:∀a,ok a->okb a){lv:LV}{u:Option Value}{as:List Addr}{r:Va}(o:∀a∈as,okb a)(x:jf ok okb lx h lv u as)(e:lv.va=some r):∃v,u=some v/\RV ok okb lx h r v:=by
 cases lv with
 |un=>exact by cases e
 |ci _ _ _=>exact by cases e
 |raw _=>exact by cases e
 |dat _=>exact ao e▸x.2
 |bor _=>exact ao e▸x.2
 |own _=>exact ao e▸by refine nG λkG=>?_;obtain⟨a,vs,hX⟩:=x;refine kG ?_;refine(λe1 e2 l x=>?_) hX.1 hX.2.1 hX.2.2.1 hX.2.2.2;exact⟨_,e1,Rd.list l (o a (e2▸.head _)) (x.mono λa _ o=>k a o)⟩
 |own2 _=>exact ao e▸by refine Kw x λa bs vs e1 e2 l e3 x=>?_;exact⟨_,e1,Rd.list l (o a (e2▸.head _)) (e3▸CA x k λb m=>o b (e2▸.tail _ m))⟩
 |lex=>exact ao e▸by refine nG λkG=>?_;obtain⟨a,t,e1,e2⟩:=x.2;refine kG ?_;exact⟨_,e2,a,t,e1,rfl⟩
theorem Ev.name{i:Nat}{x:Str}{k:az}{lv:LV}{r:Va}{pos:Pos}{Q:Va->Lx->Prop}(a:d5 sc.names ρ i x k lv)(hk:k=.local\/k=.cell)(hr:lv.va=some r)(h:Q r lx)(hd:(x==("__debug__":Str))=false):
  Ev C n sc (.Name x pos) ρ lx Q:=λA env ok okb og μ s hR E S=>by
 refine en a.get λe1 e2=>?_
 have hl:=cS E.nodup e1
 refine a7 ((S.vars i x k lv e1 e2).rv S.sub (λa m=>(S.owns i a m).1) hr) λv hv rv=>?_
 rcases hk with rfl|rfl
 ·refine a7 S.ns λm hn hm=>?_
  exact dG (eQ (by rw[E.scope];exact E.kind) (by unfold fM;rw[E.scope];exact hl) hn ((hm x hl).trans hv) (.of0 h rv S.lxr .refl)) hd
 ·refine a7 (S.cell x hl) λc hc hcell=>?_
  rw[hv]at hcell
  exact dG (uL (by rw[E.scope];exact E.kind) (by unfold fM;rw[E.scope];exact hl) hc hcell (.of0 h rv S.lxr .refl)) hd
end
def mn(C:Cx)(op:fV)(a b:Va)(K:Va->Prop):Prop:=
 ∀A ok okb lx s x y,bj 2 A->EX ok s.heap->(∀a,ok a->okb a)->RV ok okb lx s.heap a x->RV ok okb lx s.heap b y->ar C.M A (binaryOp op x y) (λv s'=>∃r,K r/\RV ok okb lx s'.heap r v/\bG s s') bJ s
def iM(C:Cx)(op:iy)(a b:Va)(K:Bool->Prop):Prop:=
 ∀A ok okb lx s x y,bj 2 A->EX ok s.heap->(∀a,ok a->okb a)->RV ok okb lx s.heap a x->RV ok okb lx s.heap b y->ar C.M A (Ak op x y) (λv s'=>∃c,v=.bool c/\K c/\bG s s') bJ s
section
variable{C:Cx}{K:Va->Prop}{L:Bool->Prop}
theorem mn.add_int{a b:Int}(h:K (.dat (.int (a+b)))):mn C .Add (.dat (.int a)) (.dat (.int b)) K:=λA ok okb lx s x y _ _ _ rx ry=>by
 obtain⟨t,rfl⟩:=Rd.int_inv rx;obtain⟨u,rfl⟩:=Rd.int_inv ry
 exact PyProof.Rows.add_int ⟨_,h,Rd.int,.tk1⟩
theorem mn.sub_int{a b:Int}(h:K (.dat (.int (a - b)))):mn C .Sub (.dat (.int a)) (.dat (.int b)) K:=λA ok okb lx s x y _ _ _ rx ry=>by
 obtain⟨t,rfl⟩:=Rd.int_inv rx;obtain⟨u,rfl⟩:=Rd.int_inv ry
 exact PyProof.Rows.sub_int ⟨_,h,Rd.int,.tk1⟩
theorem mn.mul_int{a b:Int}(hm:IntMulOk a b)(h:K (.dat (.int (a * b)))):mn C .Mult (.dat (.int a)) (.dat (.int b)) K:=λA ok okb lx s x y _ _ _ rx ry=>by
 obtain⟨t,rfl⟩:=Rd.int_inv rx;obtain⟨u,rfl⟩:=Rd.int_inv ry
 exact PyProof.Rows.mul_int ⟨_,h,Rd.int,.tk1⟩ hm
theorem mn.fdiv{a b:Int}(hb:b≠0)(hp:fY a b=false)(h:K (.dat (.int (a.fdiv b)))):mn C .FloorDiv (.dat (.int a)) (.dat (.int b)) K:=λA ok okb lx s x y _ _ _ rx ry=>by
 obtain⟨t,rfl⟩:=Rd.int_inv rx;obtain⟨u,rfl⟩:=Rd.int_inv ry
 exact PyProof.Rows.floordiv_int hb ⟨_,h,Rd.int,.tk1⟩ (.inl hp)
theorem mn.fmod{a b:Int}(hb:b≠0)(h:K (.dat (.int (a.fmod b)))):mn C .Mod (.dat (.int a)) (.dat (.int b)) K:=λA ok okb lx s x y _ _ _ rx ry=>by
 obtain⟨t,rfl⟩:=Rd.int_inv rx;obtain⟨u,rfl⟩:=Rd.int_inv ry
 exact PyProof.Rows.mod_int' hb ⟨_,h,Rd.int,.tk1⟩
theorem mn.add_str{a b:Str}(hs:a.length+b.length<=sizeLine)(h:K (.dat (.str (a++b)))):mn C .Add (.dat (.str a)) (.dat (.str b)) K:=λA ok okb lx s x y _ _ _ rx ry=>by
 obtain⟨t,rfl⟩:=Rd.str_inv rx;obtain⟨u,rfl⟩:=Rd.str_inv ry
 exact bR (PyProof.Rows.add_str (λt' tk hle _=>⟨_,h,Rd.str,.tk hle⟩) hs)
theorem mn.add_list{a b:List D}(hs:a.length+b.length<=sizeLine)(h:K (.dat (.list (a++b)))):mn C .Add (.dat (.list a)) (.dat (.list b)) K:=λA ok okb lx s x y _ hf _ rx ry=>by
 refine ml (Rd.list_inv rx) λl vs hX=>?_;obtain rfl:=hX.1;refine wb hX λ_ _ hY2 r1=>?_;refine cU hY2 λn e1=>?_
 refine ml (Rd.list_inv ry) λm ws hX=>?_;obtain rfl:=hX.1;refine wb hX λ_ _ hY2 r2=>?_;refine cU hY2 λn' f1=>?_
 refine PySem.P.add_list e1 f1 ?_ (by have h1:=r1.length;have h2:=r2.length;simp only[cA]at *;exact J5 [Qe Q0 Q3,Qe Q1 Q4,Ql (Qa Q3 Q4) Q2] (Qa Q0 Q1) Q2 1 [1,1,1] Qt h1 h2 hs)
 have g:bG s {s with heap:=s.heap.push {cls:=.type "list",data:=.seq (vs++ws)}}:=.push'
 refine⟨_,h,Rd.list (vs:=vs++ws) ⟨0,aB _ rfl⟩ (hf _ (ai _)) ?_,g⟩
 rw[Array.toList_append]
 exact(r1.grow0 g).append (r2.grow0 g)
theorem mn.add_listB{a b:List D}(hs:a.length+b.length<=sizeLine)(h:K (.bor (.list (a++b)))):mn C .Add (.dat (.list a)) (.bor (.list b)) K:=λA ok okb lx s x y _ hf k rx ry=>by
 refine ml (Rd.list_inv rx) λl vs hX=>?_;obtain rfl:=hX.1;refine wb hX λ_ _ hY2 r1=>?_;refine cU hY2 λn e1=>?_
 refine ml (Rd.list_inv ry) λm ws hX=>?_;obtain rfl:=hX.1;refine wb hX λ_ _ hY2 r2=>?_;refine cU hY2 λn' f1=>?_
 refine PySem.P.add_list e1 f1 ?_ (by have h1:=r1.length;have h2:=r2.length;simp only[cA]at *;exact J5 [Qe Q0 Q3,Qe Q1 Q4,Ql (Qa Q3 Q4) Q2] (Qa Q0 Q1) Q2 1 [1,1,1] Qt h1 h2 hs)
 have g:bG s {s with heap:=s.heap.push {cls:=.type "list",data:=.seq (vs++ws)}}:=.push'
 refine⟨_,h,Rd.list (vs:=vs++ws) ⟨0,aB _ rfl⟩ (k _ (hf _ (ai _))) ?_,g⟩
 rw[Array.toList_append]
 exact((r1.mono λa _ o=>k a o).grow0 g).append (r2.grow0 g)
theorem iM.lt{a b:Int}(h:L (decide (a < b))):iM C .Lt (.dat (.int a)) (.dat (.int b)) L:=λA ok okb lx s x y _ _ _ rx ry=>by
 obtain⟨t,rfl⟩:=Rd.int_inv rx;obtain⟨u,rfl⟩:=Rd.int_inv ry
 exact PyProof.Rows.lt_int ⟨_,rfl,h,.refl⟩
theorem iM.le{a b:Int}(h:L (decide (a<=b))):iM C .LtE (.dat (.int a)) (.dat (.int b)) L:=λA ok okb lx s x y _ _ _ rx ry=>by
 obtain⟨t,rfl⟩:=Rd.int_inv rx;obtain⟨u,rfl⟩:=Rd.int_inv ry
 exact PyProof.Rows.le_int ⟨_,rfl,h,.refl⟩
theorem iM.gt{a b:Int}(h:L (decide (b < a))):iM C .Gt (.dat (.int a)) (.dat (.int b)) L:=λA ok okb lx s x y _ _ _ rx ry=>by
 obtain⟨t,rfl⟩:=Rd.int_inv rx;obtain⟨u,rfl⟩:=Rd.int_inv ry
 exact PyProof.Rows.gt_int ⟨_,rfl,h,.refl⟩
noncomputable def Va.d:Va->Option D
 |.dat d=>some d
 |.bor d=>some d
 |.lex=>bc
theorem RV.rd{ok okb:Addr->Prop}{lx:Lx}{h:Heap}(k:∀a,ok a->okb a){r:Va}{v:Value}{d:D}(x:RV ok okb lx h r v)(e:r.d=some d):Rd okb h v d:=by
 cases r with
 |dat _=>exact ao e▸Rd.mono x λa _ o=>k a o
 |bor _=>exact ao e▸x
 |lex=>exact by cases e
theorem bj.eq{A:Around}(r:bj 2 A):A.units+64 < cLine:=r.units
theorem iM.eq{a b:Va}{x y:D}(ha:a.d=some x)(hb:b.d=some y)(h1:kZ x=true)(h2:kZ y=true)(h:L (gY x y)):iM C .Eq a b L:=λA ok okb lx s v w r _ k rx ry=>by
 refine a7 (rx.rd k ha) λas ra _=>?_
 refine a7 (ry.rd k hb) λbs rb _=>?_
 exact eq_dataH ra rb h1 h2 r.eq ⟨_,rfl,h,.refl⟩
theorem iM.ne{a b:Va}{x y:D}(ha:a.d=some x)(hb:b.d=some y)(h1:kZ x=true)(h2:kZ y=true)(h:L (!gY x y)):iM C .NotEq a b L:=λA ok okb lx s v w r _ k rx ry=>by
 refine a7 (rx.rd k ha) λas ra _=>?_
 refine a7 (ry.rd k hb) λbs rb _=>?_
 exact ne_dataH ra rb h1 h2 r.eq ⟨_,rfl,h,.refl⟩
theorem iM.inStr{a b:Str}(h:L (fK b a)):iM C .In (.dat (.str a)) (.dat (.str b)) L:=λA ok okb lx s x y _ _ _ rx ry=>by
 obtain⟨t,rfl⟩:=Rd.str_inv rx;obtain⟨u,rfl⟩:=Rd.str_inv ry
 exact PySem.SB.contains ⟨_,rfl,h,.refl⟩
theorem iM.notInStr{a b:Str}(h:L (!(fK b a))):iM C .NotIn (.dat (.str a)) (.dat (.str b)) L:=λA ok okb lx s x y _ _ _ rx ry=>by
 obtain⟨t,rfl⟩:=Rd.str_inv rx;obtain⟨u,rfl⟩:=Rd.str_inv ry
 exact PySem.SB.notContains ⟨_,rfl,h,.refl⟩
noncomputable def isNone:Va->Bool
 |.dat .none=>true
 |.bor .none=>true
 |_=>false
theorem Rd.isNone{ok:Addr->Prop}{h:Heap}{v:Value}{d:D}(r:Rd ok h v d):(v==ez)=Mine.isNone (.dat d):=by
 have r:=r.inv
 cases d with
 |none=>obtain rfl:=(show v=_ from r);rfl
 |bool b=>obtain rfl:=(show v=_ from r);rfl
 |int i=>obtain⟨t,rfl⟩:=r;rfl
 |str i=>obtain⟨t,rfl⟩:=r;rfl
 |list i=>obtain⟨t,_,rfl,_⟩:=r;rfl
 |tuple i=>obtain⟨t,_,rfl,_⟩:=r;rfl
 |dict i=>obtain⟨t,rfl⟩:=r;rfl
theorem RV.isNone{ok okb:Addr->Prop}{lx:Lx}{h:Heap}{a:Va}{v:Value}(r:RV ok okb lx h a v)(hd:a.d.isSome=true):(v==ez)=Mine.isNone a:=by
 cases a with
 |dat d=>exact Rd.isNone r
 |bor d=>exact(Rd.isNone r).trans (by cases d<;>rfl)
 |lex=>exact by cases hd
theorem iM.isNone{a:Va}(h:L (Mine.isNone a))(hd:a.d.isSome=true):iM C .Is a (.dat .none) L:=λA ok okb lx s x y _ _ _ rx ry=>by
 rw[Rd.none_inv ry]
 exact PySem.is_none ⟨_,rfl,RV.isNone rx hd▸h,.refl⟩
theorem iM.isNotNone{a:Va}(h:L (!Mine.isNone a))(hd:a.d.isSome=true):iM C .IsNot a (.dat .none) L:=λA ok okb lx s x y _ _ _ rx ry=>by
 rw[Rd.none_inv ry]
 exact PySem.isNot_none ⟨_,rfl,RV.isNone rx hd▸h,.refl⟩
theorem iM.isTrue{a:Bool}(h:L a):iM C .Is (.dat (.bool a)) (.dat (.bool true)) L:=λA ok okb lx s x y _ _ _ rx ry=>by
 rw[Rd.bool_inv rx,Rd.bool_inv ry]
 refine wpAny_is_plain rfl ⟨_,rfl,?_,.refl⟩
 cases a<;>exact h
end
section
variable{C:Cx}{n:Nat}{sc:Scope}{ρ:List LV}{lx:Lx}
theorem bj.two(r:bj (n+2) A):bj 2 A:=r.less (dK 2 n)
theorem Ev.bin{l r:Expr}{op:fV}{pos:Pos}{Q:Va->Lx->Prop}(h:Ev C (n+2) sc l ρ lx λa lx1=>Ev C (n+2) sc r ρ lx1 λb lx2=>mn C op a b λc=>Q c lx2):Ev C (n+2) sc (.BinOp l op r pos) ρ lx Q:=
 λA env ok okb og μ s R E S=>wpAny_BinOp (al (h A env ok okb og μ s R E S) (λx s₁ ⟨a,lx₁,q1,r1,sa1,l1,g1⟩=>
  have S1:=S.grow g1 sa1 l1
  al (q1 A env ok okb og μ s₁ R E S1) (λy s₂ ⟨b,lx₂,q2,r2,sa2,l2,g2⟩=>
   have S2:=S1.grow g2 sa2 l2
   al (q2 A ok okb lx₂ s₂ x y R.two S2.okf S2.sub (r1.grow g2 (λa o _ w=>S1.lxok a (S1.sub a o) (cC w)) (λa o _ w=>S1.lxok a o (cC w)) sa2) r2)
    (λv s₃ ⟨c,q3,r3,g3⟩=>iV.then (g1.trans1 (sa1.W▸g2)) (sa1.trans sa2) (.of0 q3 r3 l2 g3)) λ_ _ x=>x) λ_ _ x=>x) λ_ _ x=>x)
end
inductive gi{α:Type}(C:Cx)(lx:Lx)(s:ab)(Q:α->Lx->Prop)(v:α)(s':ab):Prop where
 |mk (lx':Lx) (q:Q v lx') (sa:bV lx lx') (l:nN C lx' s'.heap) (g:aH (W lx) cx s s')
def jI(C:Cx)(n:Nat)(sc:Scope)(e:Expr)(ρ:List LV)(lx:Lx)(Q:Bool->Lx->Prop):Prop:=
 ∀A env ok okb og μ s,bj n A->aY sc env->St C sc env ρ lx ok okb og μ s->ar C.M A (mh e env (eval e env)) (gi C lx s Q) bJ s
section
variable{C:Cx}{n:Nat}{sc:Scope}{ρ:List LV}{lx:Lx}
theorem gi.of0{α:Type}{s s':ab}{Q:α->Lx->Prop}{v:α}(q:Q v lx)(l:nN C lx s.heap)(g:bG s s'):gi C lx s Q v s':=⟨lx,q,.refl,l.grow0 g,g.of0⟩
theorem gi.then{α:Type}{s s₁ s':ab}{lx₁:Lx}{Q:α->Lx->Prop}{v:α}(g:aH (W lx) cx s s₁)(sa:bV lx lx₁)(p:gi C lx₁ s₁ Q v s'):gi C lx s Q v s':=
 by obtain⟨l,q,sa',l',g'⟩:=p;exact⟨l,q,sa.trans sa',l',g.trans1 (sa.W▸g')⟩
section
variable{A:Around}{env:Env}{ok okb:Addr->Prop}{og:Nat->List Addr}{μ:Str->Option Value}{s:ab}
theorem St.rv{s':ab}{lx':Lx}{r:Va}{v:Value}(S:St C sc env ρ lx ok okb og μ s)(g:aH (W lx) cx s s')(sa:bV lx lx')(x:RV ok okb lx s.heap r v):RV ok okb lx' s'.heap r v:=
 x.grow g (λa o _ w=>S.lxok a (S.sub a o) (cC w)) (λa o _ w=>S.lxok a o (cC w)) sa
theorem Ev.go{e:Expr}{Q:Va->Lx->Prop}(h:Ev C n sc e ρ lx Q)(R:bj n A)(E:aY sc env)(S:St C sc env ρ lx ok okb og μ s){P:Value->ab->Prop}
  (k:∀v s₁ r lx₁,Q r lx₁->RV ok okb lx₁ s₁.heap r v->St C sc env ρ lx₁ ok okb og μ s₁->bV lx lx₁->aH (W lx) cx s s₁->P v s₁):ar C.M A (eval e env) P bJ s:=
 al (h A env ok okb og μ s R E S) (λv s₁ p=>by obtain⟨r,lx₁,q,rv,sa,l,g⟩:=p;exact k v s₁ r lx₁ q rv (S.grow g sa l) sa g) λ_ _ x=>x
theorem Ev.here{e:Expr}{Q:Va->Lx->Prop}{lx₀:Lx}{s₀:ab}(h:Ev C n sc e ρ lx Q)(R:bj n A)(E:aY sc env)(S:St C sc env ρ lx ok okb og μ s)(sa:bV lx₀ lx)(g:aH (W lx₀) cx s₀ s):ar C.M A (eval e env) (iV C ok okb lx₀ s₀ Q) bJ s:=
 al (h A env ok okb og μ s R E S) (λ_ _ p=>iV.then g sa p) λ_ _ x=>x
theorem jI.go{e:Expr}{Q:Bool->Lx->Prop}(h:jI C n sc e ρ lx Q)(R:bj n A)(E:aY sc env)(S:St C sc env ρ lx ok okb og μ s){P:Bool->ab->Prop}
  (k:∀c s₁ lx₁,Q c lx₁->St C sc env ρ lx₁ ok okb og μ s₁->bV lx lx₁->aH (W lx) cx s s₁->P c s₁):ar C.M A (mh e env (eval e env)) P bJ s:=
 al (h A env ok okb og μ s R E S) (λc s₁ p=>by obtain⟨lx₁,q,sa,l,g⟩:=p;exact k c s₁ lx₁ q (S.grow g sa l) sa g) λ_ _ x=>x
theorem jI.here{e:Expr}{Q:Bool->Lx->Prop}{lx₀:Lx}{s₀:ab}(h:jI C n sc e ρ lx Q)(R:bj n A)(E:aY sc env)(S:St C sc env ρ lx ok okb og μ s)(sa:bV lx₀ lx)(g:aH (W lx₀) cx s₀ s):ar C.M A (mh e env (eval e env)) (gi C lx₀ s₀ Q) bJ s:=
 al (h A env ok okb og μ s R E S) (λ_ _ p=>gi.then g sa p) λ_ _ x=>x
theorem iM.go{op:iy}{a b:Va}{K:Bool->Prop}(h:iM C op a b K)(R:bj (n+2) A)(S:St C sc env ρ lx ok okb og μ s){x y:Value}(rx:RV ok okb lx s.heap a x)(ry:RV ok okb lx s.heap b y){P:Value->ab->Prop}
  (k:∀c s',K c->bG s s'->P (.bool c) s'):ar C.M A (Ak op x y) P bJ s:=
 al (h A ok okb lx s x y R.two S.okf S.sub rx ry) (λv s' p=>by refine jH p λc e q g=>?_;exact e▸k c s' q g) λ_ _ x=>x
end
theorem zW{A:Around}{env:Env}{ok okb:Addr->Prop}{og:Nat->List Addr}{μ:Str->Option Value}{s:ab}{l r:Expr}{op:iy}{Q:Bool->Lx->Prop}(R:bj (n+2) A)(E:aY sc env)(S:St C sc env ρ lx ok okb og μ s)
  (h:Ev C (n+2) sc l ρ lx λa lx1=>Ev C (n+2) sc r ρ lx1 λb lx2=>iM C op a b λc=>Q c lx2){P:Value->ab->Prop}(k:∀c s',gi C lx s Q c s'->P (.bool c) s'):
  ar C.M A (eval l env) (λx s₁=>ar C.M A (eval r env) (λy s₂=>ar C.M A (Ak op x y) P bJ s₂) bJ s₁) bJ s:=
 h.go R E S λx s₁ a lx₁ q1 r1 S1 sa1 g1=>q1.go R E S1 λy s₂ b lx₂ q2 r2 S2 sa2 g2=>q2.go R S2 (S1.rv g2 sa2 r1) r2 λc s₃ q3 g3=>k c s₃ (gi.then (g1.trans1 (sa1.W▸g2)) (sa1.trans sa2) (.of0 q3 S2.lxr g3))
theorem Ev.cmp{l r:Expr}{op:iy}{pos:Pos}{Q:Va->Lx->Prop}(h:Ev C (n+2) sc l ρ lx λa lx1=>Ev C (n+2) sc r ρ lx1 λb lx2=>iM C op a b λc=>Q (.dat (.bool c)) lx2)
  (hm:v7 op r=false):Ev C (n+2) sc (.Compare l [op] [r] pos) ρ lx Q:=λA env ok okb og μ s R E S=>
 wpAny_Compare1 (zW (Q:=λc l=>Q (.dat (.bool c)) l) R E S h λc s' p=>by obtain⟨l,q,sa,l',g⟩:=p;exact⟨_,l,q,Rd.bool,sa,l',g⟩) hm
theorem jI.cmp{l r:Expr}{op:iy}{pos:Pos}{Q:Bool->Lx->Prop}(h:Ev C (n+2) sc l ρ lx λa lx1=>Ev C (n+2) sc r ρ lx1 λb lx2=>iM C op a b λc=>Q c lx2)
  (hm:v7 op r=false):jI C (n+2) sc (.Compare l [op] [r] pos) ρ lx Q:=λA env ok okb og μ s R E S=>
 rA (zW R E S h λc s' p=>gG p) hm
noncomputable def Ai(C:Cx)(n:Nat)(sc:Scope)(ρ:List LV):Va->List iy->List Expr->Lx->(Bool->Lx->Prop)->Prop
 |_,[],_,_,_=>False
 |a,op::ops,rs,lx,Q=>match rs with
  |[]=>False
  |r::rs=>ops.length=rs.length/\Ev C n sc r ρ lx λb lx1=>iM C op a b λc=>match ops with
   |[]=>Q c lx1
   |_::_=>if c=true then Ai C n sc ρ b ops rs lx1 Q else Q false lx1
theorem Bn{A:Around}{env:Env}{ok okb:Addr->Prop}{og:Nat->List Addr}{μ:Str->Option Value}{pos:Pos}{Q:Bool->Lx->Prop}(R:bj (n+2) A)(E:aY sc env)(ops:List iy):∀(rs:List Expr) (lx:Lx) (a:Va) (x:Value) (s:ab),
  St C sc env ρ lx ok okb og μ s->RV ok okb lx s.heap a x->Ai C (n+2) sc ρ a ops rs lx Q->ar C.M A (testChain pos x ops (evalEach rs env)) (gi C lx s Q) bJ s:=by
 induction ops with
 |nil=>exact λ_ _ _ _ _ _ _ h=>h.elim
 |cons op ops ih=>
  intro rs lx a x s S rx h
  cases rs with
  |nil=>exact h.elim
  |cons r rs=>
   obtain⟨hl,h⟩:=h
   cases ops with
   |nil=>
    cases rs with
    |cons _ _=>exact by cases hl
    |nil=>
     show ar _ _ (do
      let rv <-kX [x] (eval r env)
      tM pos
      let c <-operate [x,rv] (Ak op x rv)
      kX [c] (truthy c)) _ _ _
     exact aa (bg (Ev.go h R E S λy s₁ b lx₁ q1 r1 S1 sa1 g1=>aa (cu (aa (wpAny_operate' (q1.go R S1 (S.rv g1 sa1 rx) r1 λc s₂ q2 g2=>bg (gG (gi.then g1 sa1 (.of0 q2 S1.lxr g2)))))))))
   |cons op' ops=>
    cases rs with
    |nil=>exact by cases hl
    |cons r' rs=>
     show ar _ _ (do
      let rv <-kX [x] (eval r env)
      tM pos
      let c <-kX [x,rv] (Ak op x rv)
      release [x,rv] [c]
      if <-kX [c,rv] (truthy c)then testChain pos rv (op'::ops) (evalEach (r'::rs) env)else pure false) _ _ _
     refine aa (bg (Ev.go h R E S λy s₁ b lx₁ q1 r1 S1 sa1 g1=>aa (cu (aa (bg (q1.go R S1 (S.rv g1 sa1 rx) r1 λc s₂ q2 g2=>aa (wpAny_release' (aa (bg (gG ?_))))))))))
     cases c with
     |false=>exact aq (gi.then g1 sa1 (.of0 q2 S1.lxr g2))
     |true=>exact al (ih (r'::rs) lx₁ b y s₂ (S1.grow0 g2) (S1.rv g2.of0 .refl r1) q2) (λv s₃ p=>gi.then g1 sa1 (gi.then g2.of0 .refl p)) λ_ _ x=>x
theorem jI.chain{l r1 r2:Expr}{rs:List Expr}{o1 o2:iy}{ops:List iy}{pos:Pos}{Q:Bool->Lx->Prop}(h:Ev C (n+2) sc l ρ lx λa lx1=>Ai C (n+2) sc ρ a (o1::o2::ops) (r1::r2::rs) lx1 Q)
  (hm:lastMarks (o1::o2::ops) (r1::r2::rs)=false):jI C (n+2) sc (.Compare l (o1::o2::ops) (r1::r2::rs) pos) ρ lx Q:=λA env ok okb og μ s R E S=>
 isTrue_chain (h.go R E S λx s₁ a lx₁ q1 r1 S1 sa1 g1=>al (Bn (pos:=pos) R E _ _ lx₁ a x s₁ S1 r1 q1) (λv s₂ p=>gi.then g1 sa1 p) λ_ _ x=>x) hm
theorem jI.orNil{pos:Pos}{Q:Bool->Lx->Prop}(h:Q false lx):jI C n sc (.BoolOp .Or [] pos) ρ lx Q:=λA env ok okb og μ s R E S=>isTrue_or_nil (gi.of0 h S.lxr .refl)
theorem jI.andNil{pos:Pos}{Q:Bool->Lx->Prop}(h:Q true lx):jI C n sc (.BoolOp .And [] pos) ρ lx Q:=λA env ok okb og μ s R E S=>isTrue_and_nil (gi.of0 h S.lxr .refl)
theorem jI.or{x:Expr}{rest:List Expr}{pos:Pos}{Q:Bool->Lx->Prop}(h:jI C n sc x ρ lx λc lx1=>if c=true then Q true lx1 else jI C n sc (.BoolOp .Or rest pos) ρ lx1 Q):jI C n sc (.BoolOp .Or (x::rest) pos) ρ lx Q:=λA env ok okb og μ s R E S=>
 isTrue_or (h.go R E S λc s₁ lx₁ q S1 sa g=>by
  cases c with
  |true=>exact⟨lx₁,q,sa,S1.lxr,g⟩
  |false=>exact jI.here (e:=.BoolOp .Or rest pos) q R E S1 sa g)
theorem jI.and{x:Expr}{rest:List Expr}{pos:Pos}{Q:Bool->Lx->Prop}(h:jI C n sc x ρ lx λc lx1=>if c=true then jI C n sc (.BoolOp .And rest pos) ρ lx1 Q else Q false lx1):jI C n sc (.BoolOp .And (x::rest) pos) ρ lx Q:=λA env ok okb og μ s R E S=>
 isTrue_and (h.go R E S λc s₁ lx₁ q S1 sa g=>by
  cases c with
  |false=>exact⟨lx₁,q,sa,S1.lxr,g⟩
  |true=>exact jI.here (e:=.BoolOp .And rest pos) q R E S1 sa g)
noncomputable def BZ:D->Option Bool
 |.none=>some false
 |.bool b=>some b
 |.int i=>some (i != 0)
 |.str x=>some ((x.length:Int) != 0)
 |.list ds=>some (!ds.isEmpty)
 |_=>bc
theorem w9{α β:Type}{vs:Array α}{ds:List β}(h:vs.toList.length=ds.length):vs.isEmpty=ds.isEmpty:=by
 obtain⟨l⟩:=vs
 cases l with
 |nil=>cases ds with
  |nil=>rfl
  |cons _ _=>exact by cases h
 |cons _ _=>cases ds with
  |nil=>exact by cases h
  |cons _ _=>rfl
theorem mD{n:Nat}(h:n<=sizeLine):(n:Int) < 2 ^ 63:=ly (Int.ofNat_le.mpr h) (by decide)
theorem yb{A:Around}{ok okb:Addr->Prop}{s:ab}{r:Va}{v:Value}{d:D}{c:Bool}(k:∀a,ok a->okb a)(x:RV ok okb lx s.heap r v)(hd:r.d=some d)(hc:BZ d=some c)
  (hl:(∀ds,d=.list ds->ds.length<=sizeLine)/\∀x,d=.str x->x.length<=sizeLine){Q:Bool->ab->Prop}(h:∀t,s.toks<=t->Q c {s with toks:=t}):ar C.M A (truthy v) Q bJ s:=by
 have rd:=(x.rd k hd).inv
 have h0:=h s.toks (ai _)
 cases d with
 |none=>obtain rfl:=(show v=_ from rd);exact truthy_none (ao hc▸h0)
 |bool b=>obtain rfl:=(show v=_ from rd);exact gG (ao hc▸h0)
 |int i=>obtain⟨t,rfl⟩:=rd;exact PyProof.Rows.truthy_int (ao hc▸h0)
 |str y=>obtain⟨t,rfl⟩:=rd;exact PySem.P.truthy_str (Int.not_le.mpr (mD (hl.2 y rfl))) (ao hc▸h _ (aF _ 2))
 |list ds=>
  refine ml rd λa vs hX=>?_;obtain rfl:=hX.1;refine wb hX λ_ _ l rs=>?_
  exact xT l.isList (mD (ah (aJ rs.length) (hl.1 ds rfl))) (w9 rs.length▸ao hc▸h _ (aF _ 2))
 |tuple _=>exact by cases hc
 |dict _=>exact by cases hc
theorem jI.val{e:Expr}{Q:Bool->Lx->Prop}(h:Ev C n sc e ρ lx λr lx1=>∃d c,r.d=some d/\BZ d=some c/\((∀ds,d=.list ds->ds.length<=sizeLine)/\∀x,d=.str x->x.length<=sizeLine)/\Q c lx1)
  (he:∀env whole,mh e env whole=(do let v <-whole;tM e.pos;kX [v] (truthy v))):jI C n sc e ρ lx Q:=λA env ok okb og μ s R E S=>
 isTrue_plain (h.go R E S λv s₁ r lx₁ q rv S1 sa g=>by refine BG q λd c hd hc hl q=>?_;exact yb S1.sub rv hd hc hl λt ht=>gi.then g sa (.of0 q S1.lxr (.tk ht))) (he env _)
theorem Ev.ifexp{t b o:Expr}{pos:Pos}{Q:Va->Lx->Prop}(h:jI C n sc t ρ lx λc lx1=>if c=true then Ev C n sc b ρ lx1 Q else Ev C n sc o ρ lx1 Q):Ev C n sc (.IfExp t b o pos) ρ lx Q:=λA env ok okb og μ s R E S=>
 IfExp_ (h.go R E S λc s₁ lx₁ q S1 sa g=>by
  cases c with
  |true=>exact Ev.here (e:=b) q R E S1 sa g
  |false=>exact Ev.here (e:=o) q R E S1 sa g)
theorem Ev.neg{x:Expr}{pos:Pos}{Q:Va->Lx->Prop}(h:Ev C n sc x ρ lx λr lx1=>∃i,r=.dat (.int i)/\Q (.dat (.int (-i))) lx1):Ev C n sc (.UnaryOp .USub x pos) ρ lx Q:=λA env ok okb og μ s R E S=>
 wpAny_UnaryOp (h.go R E S λv s₁ r lx₁ q rv S1 sa g=>by
  obtain⟨i,rfl,q⟩:=q
  obtain⟨t,rfl⟩:=Rd.int_inv rv
  exact PyProof.Rows.neg_int (iV.then g sa (.of0 q Rd.int S1.lxr .tk1)))
noncomputable def CJ:Expr->Bool
 |.Starred _ _=>false
 |_=>true
noncomputable def bt:List Expr->Bool
 |[]=>true
 |e::r=>CJ e&&bt r
theorem AR{e:Expr}{es:List Expr}{env:Env}(h:CJ e=true):dO (e::es) env=(false,eval e env)::dO es env:=by
 cases e<;>first|rfl|exact by cases h
theorem bq{e:Expr}{es:List Expr}{env:Env}(h:bt (e::es)=true):dO (e::es) env=(false,eval e env)::dO es env/\bt es=true:=
 by refine en (Bool.and_eq_true_iff.mp h) λa b=>?_;exact⟨AR a,b⟩
inductive KE(C:Cx)(ok okb:Addr->Prop)(lx:Lx)(s:ab)(Q:List Va->Lx->Prop)(vs:List Value)(s':ab):Prop where
 |mk (rs:List Va) (lx':Lx) (q:Q rs lx') (r:cW (RV ok okb lx' s'.heap) rs vs) (sa:bV lx lx') (l:nN C lx' s'.heap) (g:aH (W lx) cx s s')
theorem zN{A:Around}{env:Env}{ok okb:Addr->Prop}{og:Nat->List Addr}{μ:Str->Option Value}{pos:Pos}(R:bj n A)(E:aY sc env)(es:List Expr):∀(lx:Lx) (s:ab) (Q:List Va->Lx->Prop),
  St C sc env ρ lx ok okb og μ s->bt es=true->qX C n sc es ρ lx Q->ar C.M A (spliced (ku pos (dO es env))) (KE C ok okb lx s Q) bJ s:=by
 induction es with
 |nil=>exact λlx s Q S _ h=>iW ⟨[],lx,h,.nil,.refl,S.lxr,.refl⟩
 |cons e es ih=>exact λlx s Q S hs h=>wpAny_items_cons (Ev.go h R E S λv s₁ r lx₁ q rv S1 sa g=>al (ih lx₁ s₁ _ S1 (bq (env:=env) hs).2 q) (λvs s₂ p=>
   by obtain⟨rs,lx₂,q2,r2,sa2,l2,g2⟩:=p;exact⟨r::rs,lx₂,q2,.cons (S1.rv g2 sa2 rv) r2,sa.trans sa2,l2,g.trans1 (sa.W▸g2)⟩) λ_ _ x=>x) (bq hs).1
theorem qX.go{A:Around}{env:Env}{ok okb:Addr->Prop}{og:Nat->List Addr}{μ:Str->Option Value}{s:ab}{pos:Pos}{es:List Expr}{Q:List Va->Lx->Prop}(h:qX C n sc es ρ lx Q)(hs:bt es=true)(R:bj n A)(E:aY sc env)(S:St C sc env ρ lx ok okb og μ s){P:List Value->ab->Prop}
  (k:∀vs s₁ rs lx₁,Q rs lx₁->cW (RV ok okb lx₁ s₁.heap) rs vs->St C sc env ρ lx₁ ok okb og μ s₁->bV lx lx₁->aH (W lx) cx s s₁->P vs s₁):ar C.M A (spliced (ku pos (dO es env))) P bJ s:=
 al (zN R E es lx s Q S hs h) (λvs s₁ p=>by obtain⟨rs,lx₁,q,r,sa,l,g⟩:=p;exact k vs s₁ rs lx₁ q r (S.grow g sa l) sa g) λ_ _ x=>x
theorem CB{ok okb:Addr->Prop}{h:Heap}{ds:List D}:∀{rs:List Va} {vs:List Value},rs=ds.map Va.dat->cW (RV ok okb lx h) rs vs->dC ok h vs ds:=by
 induction ds with
 |nil=>exact λe a=>(qD a e)▸.nil
 |cons d ds ih=>exact λe a=>by refine xP (gP a e) λy m e1 r q=>?_;exact e1▸.cons r (ih rfl q)
theorem bB{s:ab}{o:Obj}:bG s {s with heap:=s.heap.push o}:=.push'
theorem Ev.list{es:List Expr}{pos:Pos}{Q:Va->Lx->Prop}(h:qX C n sc es ρ lx λrs lx1=>∃ds,rs=ds.map Va.dat/\ds.length<=sizeLine/\Q (.dat (.list ds)) lx1)(hs:bt es=true):Ev C n sc (.List es pos) ρ lx Q:=λA env ok okb og μ s R E S=>
 wh (h.go hs R E S λvs s₁ rs lx₁ q r S1 sa g=>by refine jH q λds e hl q=>?_;exact have rd:=CB e r
  ⟨rd.length▸hl,iV.then g sa (.of0 q (Rd.list ⟨0,aB _ rfl⟩ (S1.okf _ (ai _)) (rd.grow0 bB)) S1.lxr bB)⟩)
theorem Ev.tuple{es:List Expr}{k:Nat}{pos:Pos}{Q:Va->Lx->Prop}(h:qX C n sc es ρ lx λrs lx1=>∃ds,rs=ds.map Va.dat/\ds.length<=sizeLine/\Q (.dat (.tuple ds)) lx1)(hs:bt es=true):Ev C n sc (.Tuple es k pos) ρ lx Q:=λA env ok okb og μ s R E S=>
 wpAny_Tuple (h.go hs R E S λvs s₁ rs lx₁ q r S1 sa g=>by refine jH q λds e hl q=>?_;exact have rd:=CB e r
  ⟨rd.length▸hl,iV.then g sa (.of0 q (Rd.tuple ⟨_,aB _ rfl,rfl,_,rfl⟩ (rd.grow0 bB)) S1.lxr bB)⟩)
theorem IV{ok okb:Addr->Prop}{h:Heap}(k:∀a,ok a->okb a){rs:List Va}{vs:List Value}(a:cW (RV ok okb lx h) rs vs):∀{ds:List D},rs.map Va.d=ds.map some->dC okb h vs ds:=by
 induction a with
 |nil=>intro ds e;cases ds with
  |nil=>exact .nil
  |cons _ _=>exact by cases e
 |cons a _ ih=>intro ds e;cases ds with
  |nil=>exact by cases e
  |cons d ds=>exact .cons (a.rd k (c7 e).1) (ih (c7 e).2)
theorem Ev.tupleB{es:List Expr}{k:Nat}{pos:Pos}{Q:Va->Lx->Prop}(h:qX C n sc es ρ lx λrs lx1=>∃ds,rs.map Va.d=ds.map some/\ds.length<=sizeLine/\Q (.bor (.tuple ds)) lx1)(hs:bt es=true):Ev C n sc (.Tuple es k pos) ρ lx Q:=λA env ok okb og μ s R E S=>
 wpAny_Tuple (h.go hs R E S λvs s₁ rs lx₁ q r S1 sa g=>by refine jH q λds e hl q=>?_;exact have rd:=IV S1.sub r e
  ⟨rd.length▸hl,iV.then g sa (.of0 q (Rd.tuple ⟨_,aB _ rfl,rfl,_,rfl⟩ (rd.grow0 bB)) S1.lxr bB)⟩)
end
theorem qN(slice:Expr)(o i:Value):∃ops,subscripted slice false o i=operate ops (getItem o i):=by
 cases slice with
 |Slice _ _ st _=>cases st<;>exact⟨_,rfl⟩
 |_=>exact⟨_,rfl⟩
theorem lA{prog:Program}{w:BE}{A:Around}{E:Value->ab->Prop}{s:ab}{value slice:Expr}{o i:Value}{T id:String}{Q:Value->ab->Prop}(hT:s.TypeIs o T)
  (hl:typeLookup (.type T) "__getitem__"=pure (some (.builtin id)))(h:ar (kY prog w) A (getItem o i) Q E s):ar (kY prog w) A (BI value slice o i) Q E s:=by
 refine cU (qN slice o i) λops hs=>?_
 unfold BI
 refine aa ?_
 rw[getitemInPython_of_ne hT.not_modules]
 refine aa (q7 hT hl ?_)
 have fin:ar (kY prog w) A (subscripted slice false o i) (λr s₃=>ar (kY prog w) A (letTemporaryGo value o r >>= λ_=>pure r) Q E s₃) E s:=by
  rw[hs]
  exact wpAny_operating (al h (λr s₃ h₃=>aa (wpAny_letTemporaryGo (aq h₃))) λ_ _ x=>x)
 first
  |exact aq (aa fin)
  |exact aa (aq (aa fin))
  |exact aa fin
noncomputable def uW:D->Va
 |.none=>.dat .none
 |.bool b=>.dat (.bool b)
 |.int i=>.dat (.int i)
 |.str x=>.dat (.str x)
 |d=>.bor d
noncomputable def Va.like:Va->D->Va
 |.dat _,d=>.dat d
 |_,d=>uW d
theorem wE{ok okb:Addr->Prop}{lx:Lx}{h:Heap}{d:D}{v:Value}(r:Rd okb h v d):RV ok okb lx h (uW d) v:=by
 cases d with
 |none=>exact r.none_inv▸Rd.none
 |bool b=>exact r.bool_inv▸Rd.bool
 |int i=>exact by refine cU r.int_inv λt e=>?_;exact e▸Rd.int
 |str x=>exact by refine cU r.str_inv λt e=>?_;exact e▸Rd.str
 |_=>exact r
theorem Dc{ok okb:Addr->Prop}{lx:Lx}{h:Heap}{r:Va}{o:Value}{x:D}(rv:RV ok okb lx h r o)(hx:r.d=some x)(sub:∀a,ok a->okb a):∃okx:Addr->Prop,Rd okx h o x/\(∀a,ok a->okx a)/\∀{h':Heap} {lx':Lx} {v:Value} {d:D},Rd okx h' v d->RV ok okb lx' h' (r.like d) v:=by
 cases r with
 |dat y=>cases hx;exact⟨ok,rv,λ_ o=>o,λq=>q⟩
 |bor y=>cases hx;exact⟨okb,rv,sub,wE⟩
 |lex=>exact nomatch hx
noncomputable def jt(x:D)(k:Int):Option D:=match x with
 |.list ds=>(cP k ds.length).bind (ds[·]?)
 |.tuple ds=>(cP k ds.length).bind (ds[·]?)
 |.str x=>((cP k x.length).bind (x.cps[·]?)).map λc=>.str ⟨#[c]⟩
 |_=>bc
theorem rR{k:Int}{n j:Nat}(h:cP k n=some j):(0<=k/\k < n/\j=k.toNat)\/(k < 0/\ -(n:Int)<=k/\j=(k+n).toNat):=by
 have key:∀i:Int,(if(decide (0<=i)&&decide (i < n))=true then some i.toNat else none)=some j->0<=i/\i < n/\j=i.toNat:=λi h=>by
  refine en (Option.ite_none_right_eq_some.mp h) λg e=>?_
  refine en (Bool.and_eq_true_iff.mp g) λg1 g2=>?_
  exact⟨of_decide_eq_true g1,of_decide_eq_true g2,(ao e).symm⟩
 unfold cP at h
 by_cases hk:k < 0
 ·rw[if_pos hk]at h
  refine oG (key _ h) λa b c=>?_
  exact .inr ⟨hk,by exact Int.le_of_sub_nonneg (by rw[Int.sub_neg];exact a),c⟩
 ·rw[if_neg hk]at h
  exact .inl (key _ h)
section
variable{C:Cx}{n:Nat}{sc:Scope}{ρ:List LV}{lx:Lx}
theorem Dm{A:Around}{ok:Addr->Prop}{s:ab}{value slice:Expr}{x d:D}{o:Value}{k:Int}{t:Tok}{Q:Value->ab->Prop}(r:Rd ok s.heap o x)(hi:jt x k=some d)(hk: -(2 ^ 63)<=k/\k < 2 ^ 63)
  (h:∀v tk,s.toks<=tk->Rd ok s.heap v d->Q v {s with toks:=tk}):ar C.M A (BI value slice o (.int k t)) Q bJ s:=by
 cases x with
 |list ds=>
  refine ml r.list_inv λa vs hX=>?_;obtain rfl:=hX.1;refine wb hX λ_ _ l rs=>?_
  refine a7 (Option.bind_eq_some_iff.mp hi) λj e1 e2=>?_
  refine a7 (rs.get e2) λv hv rv=>?_
  have h0:=h v s.toks (ai _) rv
  have hz:vs.size=ds.length:=rs.length
  refine lA l.isList.typeIs slot_list_getitem.lookup ?_
  rcases rR e1 with⟨h0',h1,rfl⟩|⟨h0',h1,rfl⟩
  ·exact wpAny_getItem_list l.isList h0' hk.2 (a9▸hv) h0
  ·exact wpAny_getItem_list_neg l.isList h0' (by rw[hz];exact h1) hk.1 (by rw[hz];exact a9▸hv) h0
 |tuple ds=>
  refine ml r.tuple_inv λa vs hX=>?_;obtain rfl:=hX.1;refine oG hX λ_ l rs=>?_
  refine a7 (Option.bind_eq_some_iff.mp hi) λj e1 e2=>?_
  refine a7 (rs.get e2) λv hv rv=>?_
  exact lA l.typeIs PyProof.Rows.slot_tuple_getitem.lookup (PyProof.Rows.getItem_tuple l hk.1 hk.2 (by rw[show vs.size=ds.length from rs.length];exact e1) (a9▸hv) (h v s.toks (ai _) rv))
 |str y=>
  obtain⟨t',rfl⟩:=r.str_inv
  refine a7 (Option.map_eq_some_iff.mp hi) λc e1 e2=>?_
  refine lA (wi s y t') F.slot_str_getitem.lookup (PySem.P.getItem_str ?_ e1 (h _ (s.toks+1) (a8 _) (e2▸Rd.str)))
  rw[decide_eq_false (Int.not_lt.mpr hk.1),decide_eq_false (Int.not_le.mpr hk.2)];rfl
 |_=>exact by cases hi
theorem Ev.item{value slice:Expr}{pos:Pos}{Q:Va->Lx->Prop}
  (h:Ev C n sc value ρ lx λo lx1=>Ev C n sc slice ρ lx1 λi lx2=>∃x k d,o.d=some x/\i=.dat (.int k)/\jt x k=some d/\(-(2 ^ 63)<=k/\k < 2 ^ 63)/\Q (o.like d) lx2):Ev C n sc (.Subscript value slice pos) ρ lx Q:=λA env ok okb og μ s R E S=>
 Subscript_ (h.go R E S λo s₁ ro lx₁ q1 r1 S1 sa1 g1=>q1.go R E S1 λi s₂ ri lx₂ q2 r2 S2 sa2 g2=>by
  refine nG λkG=>?_;obtain⟨x,k,d,hX⟩:=q2;obtain rfl:=hX.2.1;refine kG ?_;refine Jp hX λhx _ hd hk q2=>?_
  refine nG λkG=>?_;obtain⟨t,rfl⟩:=Rd.int_inv r2
  refine jH (Dc (S1.rv g2 sa2 r1) hx S2.sub) λokx rx _ back=>?_
  refine kG ?_
  exact Dm rx hd hk λv tk ht rv=>iV.then (g1.trans1 (sa1.W▸g2)) (sa1.trans sa2) (.of0 q2 (back rv) S2.lxr (.tk ht)))
def xS(C:Cx)(n:Nat)(sc:Scope):Option Expr->List LV->Lx->(Option Int->Lx->Prop)->Prop
 |bc,_,lx,Q=>Q bc lx
 |some e,ρ,lx,Q=>Ev C n sc e ρ lx λr lx1=>∃k,r=.dat (.int k)/\Q (some k) lx1
theorem yO{A:Around}{env:Env}{ok okb:Addr->Prop}{og:Nat->List Addr}{μ:Str->Option Value}{s:ab}{Q:Option Int->Lx->Prop}{eo:Option Expr}(h:xS C n sc eo ρ lx Q)(R:bj n A)(E:aY sc env)(S:St C sc env ρ lx ok okb og μ s){P:Value->ab->Prop}
  (k:∀v s₁ i lx₁,At v i->Q i lx₁->St C sc env ρ lx₁ ok okb og μ s₁->bV lx lx₁->aH (W lx) cx s s₁->P v s₁):ar C.M A (evalPart eo env) P bJ s:=by
 cases eo with
 |none=>exact aq (k _ s _ lx .none h S .refl .refl)
 |some e=>
  refine Ev.go h R E S λv s₁ r lx₁ q rv S1 sa g=>?_
  obtain⟨i,rfl,q⟩:=q
  obtain⟨t,rfl⟩:=Rd.int_inv rv
  exact k _ s₁ _ lx₁ (.int i t) q S1 sa g
noncomputable def qf{α:Type}(ds:List α)(lo hi st:Option Int):List α:=
 (qF (da lo hi st ds.length).1 (da lo hi st ds.length).2.1 (da lo hi st ds.length).2.2).filterMap (ds[·]?)
noncomputable def Bm(x:Str)(lo hi:Option Int):Str:=⟨((x.cps.toList.drop (lo.elim 0 (nv x.length))).take (hi.elim x.length (nv x.length) - lo.elim 0 (nv x.length))).toArray⟩
theorem dC.pick{ok:Addr->Prop}{h:Heap}{vs:List Value}{ds:List D}(r:dC ok h vs ds)(is:List Nat):dC ok h (is.filterMap (vs[·]?)) (is.filterMap (ds[·]?)):=by
 induction is with
 |nil=>exact .nil
 |cons i is ih=>
  cases e:ds[i]? with
  |none=>rw[As e,As (List.getElem?_eq_none_iff.mpr (r.length▸List.getElem?_eq_none_iff.mp e))];exact ih
  |some d=>refine a7 (r.get e) λv ev rv=>?_;rw[Ar e,Ar ev];exact .cons rv ih
theorem Cq{A:Around}{env:Env}{ok okb:Addr->Prop}{og:Nat->List Addr}{μ:Str->Option Value}{s:ab}{lo hi st:Option Expr}{p:Pos}{Q:Option Int->Option Int->Option Int->Lx->Prop}(R:bj n A)(E:aY sc env)(S:St C sc env ρ lx ok okb og μ s)
  (h:xS C n sc lo ρ lx λl lx1=>xS C n sc hi ρ lx1 λu lx2=>xS C n sc st ρ lx2 λt lx3=>Q l u t lx3){P:Value->ab->Prop}
  (k:∀sl s₁ vl vu vt l u t lx₁,s₁.heap.IsSliceOf sl vl vu vt->At vl l->At vu u->At vt t->Q l u t lx₁->St C sc env ρ lx₁ ok okb og μ s₁->bV lx lx₁->aH (W lx) cx s s₁->P (.ref sl) s₁):ar C.M A (eval (.Slice lo hi st p) env) P bJ s:=
 wpAny_Slice (yO h R E S λvl s₁ l lx₁ pl q1 S1 sa1 g1=>yO q1 R E S1 λvu s₂ u lx₂ pu q2 S2 sa2 g2=>yO q2 R E S2 λvt s₃ t lx₃ pt q3 S3 sa3 g3=>
  k _ _ vl vu vt l u t lx₃ (Heap.IsSliceOf.new ..) pl pu pt q3 (S3.grow0 bB) ((sa1.trans sa2).trans sa3) (((g1.trans1 (sa1.W▸g2)).trans1 ((sa1.trans sa2).W▸g3)).trans0 bB))
noncomputable def tF(x:D)(l u t:Option Int):Option D:=match x with
 |.list ds=>if decide (t≠some 0/\ds.length<=sizeLine)=true then some (.list (qf ds l u t))else none
 |.str x=>if decide (t=none/\x.length<=sizeLine)=true then some (.str (Bm x l u))else none
 |.tuple ds=>if decide ((l=none/\u=none)/\t=some (.negSucc 0)/\ds.length=2)=true then some (.tuple ds.reverse)else none
 |_=>none
theorem oO{prog:Program}{w:BE}{A:Around}{E:Value->ab->Prop}{s:ab}{sl:Addr}{u:Tok}{Q:Int × Int × Nat->ab->Prop}(hs:s.heap.IsSliceOf sl .none .none (.int (.negSucc 0) u))(h:Q ((1:Int),.negSucc 0,2) s):
  ar (kY prog w) A (Builtin.Slice.sliceApplied (.ref sl) (pure (2:Int))) Q E s:=by
 refine jH (id hs) λos hos hcs hds=>?_
 unfold Builtin.Slice.sliceApplied Builtin.Slice.sliceFields
 refine aa (aa (c8 hos hds (x:=.none) rfl (aa (c8 hos hds (x:=.none) rfl (aa (c8 hos hds (x:=.int (.negSucc 0) u) rfl (aq ?_)))))))
 refine aa (slicePart_int ?_)
 show ar _ _ (if((jO 0:Int)==0)=true then _ else _) _ _ s
 rw[if_neg (by decide)]
 refine aa (slicePart_none (aa (slicePart_none (aa (aq ?_)))))
 exact aq h
theorem oj{prog:Program}{w:BE}{A:Around}{E:Value->ab->Prop}{s:ab}{t sl:Addr}{x y:Value}{u:Tok}{Q:Value->ab->Prop}(ht:s.heap.IsTuple t #[x,y])(hs:s.heap.IsSliceOf sl .none .none (.int (.negSucc 0) u))
  (h:Q (.ref s.heap.objs.size) {s with heap:=s.heap.push {cls:=.type "tuple",data:=.seq #[y,x]}}):ar (kY prog w) A (getItem (.ref t) (.ref sl)) Q E s:=by
 refine jH (id hs) λos hos hcs hds=>?_
 have hTs:s.TypeIs (.ref sl) "slice":=⟨os,hos,hcs⟩
 have hTt:s.TypeIs (.ref t) "tuple":=by refine jH ht λo e c _=>?_;exact⟨o,e,c⟩
 unfold getItem
 try with_reducible refine bg ?_
 first|refine aa (aq ?_)|skip
 refine aa (wpAny_sequenceKey hTt (by decide) ?_)
 refine aa (c9 (name:=ad "__getitem__") hTt slot_tuple_getitem
  (dF slot_tuple_getitem hTt entry_tuple_getitem ?_ (args_tuple_getitem _ _)))
 show ar _ _ (Builtin.Tuple.tupleItemsOf (.ref t) >>= _) _ _ s
 refine aa (tupleItemsOf_ (items:=#[x,y]) ht ?_)
 refine aa (wpAny_typeOf hTs ?_)
 rw[if_pos (by decide)]
 refine aa (oO hs ?_)
 have hno:¬(((1:Int)==0&&(jO 0:Int)==1&&2==(#[x,y]:Array Value).size)=true):=bY
 show ar _ _ (if((1:Int)==0&&(jO 0:Int)==1&&2==(#[x,y]:Array Value).size)=true then _ else _) _ _ s
 rw[if_neg hno]
 have e:((aM 2).filterMap λ(k:Nat)=>(#[x,y]:Array Value)[((1:Int)+(k:Int) * .negSucc 0).toNat]?).toArray=#[y,x]:=rfl
 rw[e]
 first
  |exact aa (m:=iO _) (cI (aq ⟨_,rfl,aq h⟩) (by size_fits))
  |exact aa (m:=iO _) (cI (aa (aq (aq ⟨_,rfl,aq h⟩))) (by size_fits))
  |exact aa (aa (m:=iO _) (cI (aq (aq ⟨_,rfl,aq h⟩)) (by size_fits)))
  |exact aa (aa (m:=iO _) (cI (aq ⟨_,rfl,aq h⟩) (by size_fits)))
theorem yd{α:Type}{l:List α}{a b:Nat}(hb:b<=l.length)(h:b - a=l.length):(l.drop a).take (b - a)=l:=by
 cases l with
 |nil=>rw[mu,q8]
 |cons x l=>
  have:a=0:=by rw[aT]at hb h;omega
  rw[h,this,lu,uQ]
theorem zX(n:Nat)(u:Option Int):u.elim n (nv n)<=n:=by
 cases u with
 |none=>exact ai _
 |some i=>have:=clipAt_cast n i;show nv n i<=n;exact Int.ofNat_le.mp (this▸Int.max_le.mpr ⟨bN n,Int.min_le_right _ _⟩)
theorem Ck(l u:Option Int)(n:Nat):de l u 1 n=(aM (u.elim n (nv n) - l.elim 0 (nv n))).map (l.elim 0 (nv n)+ ·):=by
 have e:de l u 1 n=qF (da l u bc n).1 (da l u bc n).2.1 1:=by
  cases l<;>cases u<;>rfl
 rw[e,sliceBounds_plain]
 exact sliceRange_one _ _
theorem Bl(x:Str)(l u:Option Int):(⟨((de l u 1 x.length).filterMap (x.cps[·]?)).toArray⟩:Str)=Bm x l u:=by rw[Ck,pick_run];rfl
theorem yU{x:Str}{l u:Option Int}(h:((de l u 1 x.length).length==x.length)=true):Bm x l u=x:=by
 have h:=eq_of_beq h
 rw[Ck,af,bL]at h
 exact congrArg (λl:List Nat=>(⟨l.toArray⟩:Str)) (yd (l:=x.cps.toList) (zX _ u) h)
theorem Bk(x:Str)(l u:Option Int):(Bm x l u).length<=x.length:=ah (qJ ..) (ah (xY ..) (zX _ u))
theorem CL{v:Value}{k:Option Int}(q:At v k):∃p:Option (Int × Tok),v=partValue p/\p.map (·.1)=k:=by
 cases q with
 |none=>exact⟨bc,rfl,rfl⟩
 |int i t=>exact⟨some (i,t),rfl,rfl⟩
theorem Gj{A:Around}{ok:Addr->Prop}{s:ab}{value slice:Expr}{x d:D}{sl:Addr}{o vl vu vt:Value}{l u t:Option Int}{Q:Value->ab->Prop}(r:Rd ok s.heap o x)(hf:ok s.heap.objs.size)(hc:tF x l u t=some d)
  (hs:s.heap.IsSliceOf sl vl vu vt)(pl:At vl l)(pu:At vu u)(pt:At vt t)(h:∀v s',bG s s'->Rd ok s'.heap v d->Q v s'):ar C.M A (BI value slice o (.ref sl)) Q bJ s:=by
 cases x with
 |list ds=>
  refine nG λkG=>?_;obtain⟨a,vs,rfl,_,li,rs⟩:=r.list_inv
  refine en (Option.ite_none_right_eq_some.mp hc) λg e=>?_
  refine kG ?_
  have g:=of_decide_eq_true g
  have hz:vs.size=ds.length:=rs.length
  have p:=(rs.grow0 (bB (o:={cls:=.type "list",data:=.seq (slicePick vs l u t)}))).pick (qF (da l u t ds.length).1 (da l u t ds.length).2.1 (da l u t ds.length).2.2)
  refine lA li.isList.typeIs slot_list_getitem.lookup (wpAny_getItem_list_slice li.isList hs pl pu pt g.1 (h _ _ bB (ao e▸Rd.list ⟨0,aB _ rfl⟩ hf ?_)) (hz▸g.2))
  rw[show(slicePick vs l u t).toList=(qF (da l u t ds.length).1 (da l u t ds.length).2.1 (da l u t ds.length).2.2).filterMap (vs.toList[·]?)by unfold slicePick;rw[hz];simp]
  exact p
 |str y=>
  refine nG λkG=>?_;obtain⟨tk,rfl⟩:=r.str_inv
  refine en (Option.ite_none_right_eq_some.mp hc) λg e=>?_
  obtain⟨rfl,hz⟩:=of_decide_eq_true g
  refine kG ?_
  cases pt
  refine nG λkG=>?_;obtain⟨p1,e1,f1⟩:=CL pl
  refine a7 (CL pu) λp2 e2 f2=>?_
  refine kG ?_
  have pk:slicePicked y p1 p2 bc=de l u 1 y.length:=by unfold slicePicked;rw[f1,f2];rfl
  refine lA (wi _ y tk) F.slot_str_getitem.lookup (wpAny_getItem_str_slice (l:=p1) (u:=p2) (st:=bc) (by refine jH hs λo a b c=>?_;exact⟨o,a,b,by rw[c,e1,e2];rfl⟩) rfl ?_)
  unfold sliceMade
  rw[pk,Bl]
  by_cases hw:((de l u 1 y.length).length==y.length)=true
  ·rw[if_pos (by rw[hw];rfl)]
   exact h _ _ .refl (ao e▸(yU hw).symm▸Rd.str)
  ·rw[if_neg (λq=>hw (Bool.and_eq_true_iff.mp q).2)]
   exact⟨ah (Bk y l u) hz,h _ _ .tk1 (ao e▸Rd.str)⟩
 |tuple ds=>
  refine nG λkG=>?_;obtain⟨g,e⟩:=Option.ite_none_right_eq_some.mp hc
  obtain⟨⟨rfl,rfl⟩,rfl,hl⟩:=of_decide_eq_true g
  refine kG ?_
  cases pl;cases pu
  cases pt with|int _ tk=>
  refine nG λkG=>?_;obtain⟨t,vs,rfl,ti,rs⟩:=r.tuple_inv
  refine kG ?_
  match ds,hl with
  |[a,b],_=>
   refine nG λkG=>?_;obtain⟨x,vs',e1,rx,rs⟩:=rs.uncons
   obtain⟨y,vs'',rfl,ry,rs⟩:=rs.uncons
   obtain rfl:=rs.unnil
   obtain rfl:=(Array.ext' e1:vs=#[x,y])
   refine kG ?_
   exact lA (by refine jH ti λo e c _=>?_;exact⟨o,e,c⟩) slot_tuple_getitem.lookup (oj ti hs (h _ _ bB (ao e▸Rd.tuple (vs:=#[y,x]) ⟨_,aB _ rfl,rfl,0,rfl⟩ (.cons (ry.grow0 bB) (.cons (rx.grow0 bB) .nil)))))
 |_=>exact by cases hc
theorem Ev.cut{value:Expr}{lo hi st:Option Expr}{p pos:Pos}{Q:Va->Lx->Prop}
  (h:Ev C n sc value ρ lx λo lx1=>xS C n sc lo ρ lx1 λl lx2=>xS C n sc hi ρ lx2 λu lx3=>xS C n sc st ρ lx3 λt lx4=>∃x d,o.d=some x/\tF x l u t=some d/\Q (o.like d) lx4):Ev C n sc (.Subscript value (.Slice lo hi st p) pos) ρ lx Q:=λA env ok okb og μ s R E S=>
 Subscript_ (h.go R E S λo s₁ ro lx₁ q1 r1 S1 sa1 g1=>Cq (p:=p) R E S1 q1 λsl s₂ vl vu vt l u t lx₂ hs pl pu pt q2 S2 sa2 g2=>
  by refine xP q2 λx d hx hd q2=>?_;exact let⟨okx,rx,sx,back⟩:=Dc (S1.rv g2 sa2 r1) hx S2.sub;Gj rx (sx _ (S2.okf _ (ai _))) hd hs pl pu pt λv s' g rv=>iV.then (g1.trans1 (sa1.W▸g2)) (sa1.trans sa2) (.of0 q2 (back rv) S2.lxr g))
end
structure Wx(C:Cx)(ok okb:Addr->Prop)(lx:Lx)(s:ab):Prop where
 wd:Wd C s
 okf:EX ok s.heap
 sub:∀a,ok a->okb a
 lxr:nN C lx s.heap
 lxok:∀b,okb b->¬LW lx b
 lx0:∀b,W lx b->C.h₀.get? b=none/\b≠C.tab
inductive nF:List (Str × az)->Str->az->Prop where
 |here {x k ns}:nF ((x,k)::ns) x k
 |there {x k ns y k'}:nF ns y k'->nF ((x,k)::ns) y k'
theorem nF.mem{ns:List (Str × az)}{x:Str}{k:az}(h:nF ns x k):∃i:Nat,ns[i]? =some (x,k):=by
 induction h with
 |here=>exact⟨0,rfl⟩
 |there _ ih=>exact by refine cU ih λi e=>?_;exact⟨i+1,e⟩
def Gb(C:Cx)(x:Str)(v:Value):Prop:=C.mg x=some v\/(C.mg x=none/\C.mb x=some v)
section
variable{C:Cx}{n:Nat}{sc:Scope}{ρ:List LV}{lx:Lx}
theorem St.wx{env:Env}{ok okb:Addr->Prop}{og:Nat->List Addr}{μ:Str->Option Value}{s:ab}(S:St C sc env ρ lx ok okb og μ s):Wx C ok okb lx s:=⟨S.wd,S.okf,S.sub,S.lxr,S.lxok,S.lx0⟩
theorem Wx.grow{ok okb:Addr->Prop}{s s':ab}{lx':Lx}(x:Wx C ok okb lx s)(g:aH (W lx) cx s s')(sa:bV lx lx')(l:nN C lx' s'.heap):Wx C ok okb lx' s':=
 ⟨x.wd.grow g x.lx0,x.okf.grow g,x.sub,l,by rw[sa.LW];exact x.lxok,by rw[sa.W];exact x.lx0⟩
theorem Wx.grow0{ok okb:Addr->Prop}{s s':ab}(x:Wx C ok okb lx s)(g:bG s s'):Wx C ok okb lx s':=x.grow g.of0 .refl (x.lxr.grow0 g)
theorem Wd.nsg{s:ab}(x:Wd C s)(k:dk C):s.heap.Ns mainGlobals C.mg:=Ns.at k.g λo e=>x.kept _ o k.gne e
theorem Wd.nsb{s:ab}(x:Wd C s)(k:dk C):s.heap.Ns eY C.mb:=Ns.at k.b λo e=>x.kept _ o k.bne e
theorem Wd.nolimit{s:ab}(x:Wd C s)(k:dk C):s.heap.NoLimit:=by refine a7 k.nolimit λmc a b=>?_;exact⟨mc,Ns.at a λo e=>x.kept _ o k.sne e,b⟩
theorem eN{A:Around}{env:Env}{s:ab}{x:Str}{v:Value}{pos:Pos}{Q:Value->ab->Prop}(k:dk C)(E:aY sc env)(w:Wd C s)(hx:nF sc.names x .globalImplicit)(hv:Gb C x v)(h:Q v s)
  (hd:(x==("__debug__":Str))=false):ar C.M A (eval (.Name x pos) env) Q bJ s:=by
 refine cU hx.mem λi e=>?_
 have hl:env.kindOf x=some .globalImplicit:=by unfold fM;rw[E.scope];exact cS E.nodup e
 have hg:s.heap.Ns env.globals C.mg:=by rw[E.globals];exact w.nsg k
 have hb:s.heap.Ns env.builtins C.mb:=by rw[E.builtins];exact w.nsb k
 refine Name_function_global (by rw[E.scope];exact E.kind) hl ?_ hd
 rcases hv with hv|⟨h1,h2⟩
 ·exact loadGlobal_global hg hv h
 ·exact loadGlobal_builtin hg h1 hb h2 h
def cV(C:Cx)(f:Value):Prop:=∀(A:Around) (s:ab) (Q:Keeper->ab->Prop),Wd C s->(∀k,Q k s)->ar C.M A (keeperOf f) Q bJ s
theorem cV.builtin{id:String}:cV C (.builtin id):=λ_ _ _ _ h=>aq (h _)
theorem cV.type{id:String}:cV C (.type id):=λ_ _ _ _ h=>aq (h _)
theorem cV.func{a:Addr}{o:Obj}{fd:FuncData}(ha:a≠C.tab)(ho:C.h₀.get? a=some o)(hd:o.data=.func fd):cV C (.ref a):=λA s Q w h=>by
 unfold keeperOf
 refine aa (wg (w.kept _ _ ha ho) ?_)
 rw[hd]
 exact aq (h _)
theorem di{A:Around}{f:Value}{first:List Value}{pos:Pos}{args:List (Bool × Sem Value)}{s:ab}{Q:Value->ab->Prop}(hk:cV C f)(hs:args.any (·.1)=false)
  (h:ar C.M A (evalArgs f true args []) (λa s₁=>Wd C s₁/\ar C.M A (call f (first++a.pos) a.kw) Q bJ s₁) bJ s):ar C.M A (dY pos f first args []) Q bJ s:=by
 unfold dY
 refine aa (bg (al h (λvs s₁ ⟨w,hc⟩=>aa (cu ?_)) λ_ _ x=>x))
 have tail:∀{t:Sem Value},ar C.M A t Q bJ s₁->ar C.M A (t >>= λr=>kX [r] point >>= λ_=>pure r) Q bJ s₁:=
  λht=>aa (al ht (λr s₂ hr=>aa (bg (wpAny_point (aq hr)))) λ_ _ x=>x)
 simp only[hs,List.any_nil,Aw]
 refine aa (m:=keeperOf f) (hk A s₁ _ w λk=>?_)
 cases k
 ·refine wpAny_ite ?_
  split
  ·exact tail hc
  ·exact tail (by unfold callMarked;exact pF hc)
 ·refine wpAny_ite ?_
  split
  ·exact tail hc
  ·exact tail (by unfold callMarked;exact pF hc)
 ·exact tail hc
 ·exact tail (wpAny_operate' hc)
theorem pi{A:Around}{f:Value}{pos:Pos}{x:Sem Value}{rest:List (Bool × Sem Value)}{s:ab}{Q:Value->ab->Prop}(hk:cV C f)(hs:((false,x)::rest).any (·.1)=false)
  (h:ar C.M A (spliced ((false,x)::rest)) (λvs s₁=>Wd C s₁/\ar C.M A (call f vs) Q bJ s₁) bJ s):ar C.M A (dY pos f [] ((false,x)::rest) []) Q bJ s:=
 di hk hs (db h)
def dS(C:Cx)(n:Nat)(f:Value)(rs:List Va)(lx:Lx)(Q:Va->Lx->Prop):Prop:=
 ∀A ok okb s vs,bj n A->Wx C ok okb lx s->cW (RV ok okb lx s.heap) rs vs->ar C.M A (call f vs) (iV C ok okb lx s Q) bJ s
theorem yi{env:Env}{pos:Pos}{l:List Expr}:bt l=true->(ku pos (dO l env)).any (·.1)=false:=by
 induction l with
 |nil=>exact λ_=>rfl
 |cons a r ih=>exact λq=>by refine(λq1 q2=>?_) (bq (env:=env) q).1 (bq (env:=env) q).2;exact q1▸ih q2
theorem rq{A:Around}{env:Env}{ok okb:Addr->Prop}{og:Nat->List Addr}{μ:Str->Option Value}{s:ab}{x:Str}{f:Value}{p pos:Pos}{e:Expr}{es:List Expr}{K:Value->ab->Prop}{Q:List Va->Lx->Prop}(k:dk C)(hx:nF sc.names x .globalImplicit)(hv:Gb C x f)(hk:cV C f)
  (h:qX C n sc (e::es) ρ lx Q)(hs:bt (e::es)=true)(hd:(x==("__debug__":Str))=false)(R:bj n A)(E:aY sc env)(S:St C sc env ρ lx ok okb og μ s)
  (hc:∀vs s₁ rs lx₁,Q rs lx₁->cW (RV ok okb lx₁ s₁.heap) rs vs->St C sc env ρ lx₁ ok okb og μ s₁->bV lx lx₁->aH (W lx) cx s s₁->ar C.M A (call f vs) K bJ s₁):ar C.M A (eval (.Call (.Name x p) (e::es) [] pos) env) K bJ s:=by
 refine ca (eN k E S.wd hx hv ?_ hd)
 have h1:=yi (env:=env) (pos:=pos) hs
 have run:=qX.go (pos:=pos) (P:=λvs s₁=>Wd C s₁/\ar C.M A (xW f vs) K bJ s₁) h hs R E S λvs s₁ rs lx₁ q r S1 sa g=>⟨S1.wd,hc vs s₁ rs lx₁ q r S1 sa g⟩
 have e1:ku pos (dO (e::es) env)=(false,eval e env)::ku pos (dO es env):=by rw[(bq hs).1];rfl
 rw[e1]at h1 run
 show ar _ _ (dY pos f [] (ku pos (dO (e::es) env)) []) _ _ _
 rw[e1]
 exact pi hk h1 run
theorem Ev.call{x:Str}{f:Value}{p pos:Pos}{e:Expr}{es:List Expr}{Q:Va->Lx->Prop}(k:dk C)(hx:nF sc.names x .globalImplicit)(hv:Gb C x f)(hk:cV C f)
  (h:qX C n sc (e::es) ρ lx λrs lx1=>dS C n f rs lx1 Q)(hs:bt (e::es)=true)(hd:(x==("__debug__":Str))=false):Ev C n sc (.Call (.Name x p) (e::es) [] pos) ρ lx Q:=λA env ok okb og μ s R E S=>
 rq k hx hv hk h hs hd R E S λvs s₁ rs lx₁ q r S1 sa g=>al (q A ok okb s₁ vs R S1.wx r) (λ_ _ p=>iV.then g sa p) λ_ _ x=>x
theorem vq{ok:Addr->Prop}{h:Heap}{is:List Int}:∀{vs:List Value},dC ok h vs (is.map .int)->IntsAre vs is:=by
 induction is with
 |nil=>exact λr=>r.unnil▸.nil
 |cons i is ih=>exact λr=>by refine xP r.uncons λv vs' e a r'=>?_;exact by refine cU a.int_inv λt e'=>?_;exact e▸e'▸.cons i t (ih r')
theorem FE{ok:Addr->Prop}{h:Heap}{is:List Int}{vs:List Value}(a:IntsAre vs is):dC ok h vs (is.map .int):=by
 induction a with
 |nil=>exact .nil
 |cons i t _ ih=>exact .cons Rd.int ih
theorem Cv{ok:Addr->Prop}{h:Heap}{xs:List Str}:∀{vs:List Value},dC ok h vs (xs.map .str)->∃l:List (Str × Tok),vs=strValues l/\l.map (·.1)=xs:=by
 induction xs with
 |nil=>exact λr=>⟨[],r.unnil,rfl⟩
 |cons x xs ih=>exact λr=>by refine xP r.uncons λv vs' e a r'=>?_;exact by refine cU a.str_inv λt e'=>?_;exact by refine a7 (ih r') λl e1 e2=>?_;exact⟨(x,t)::l,by rw[e,e',e1];rfl,congrArg (x:: ·) e2⟩
theorem jq{ok okb:Addr->Prop}{h:Heap}{r:Va}{vs:List Value}(a:cW (RV ok okb lx h) [r] vs):∃v,vs=[v]/\RV ok okb lx h r v:=
 by refine xP (gP a rfl) λv _ e q a=>?_;exact⟨v,qD a rfl▸e,q⟩
theorem pG{ok okb:Addr->Prop}{h:Heap}{r r':Va}{vs:List Value}(a:cW (RV ok okb lx h) [r,r'] vs):∃v v',vs=[v,v']/\RV ok okb lx h r v/\RV ok okb lx h r' v':=
 by refine xP (gP a rfl) λv _ e q a=>?_;exact by refine a7 (jq a) λv' e' q'=>?_;exact Y2 v v' ⟨e'▸e,q,q'⟩
noncomputable def Hb:D->Option Nat
 |.list ds=>some ds.length
 |.str x=>some x.length
 |_=>none
theorem dS.len{r:Va}{d:D}{k:Nat}{Q:Va->Lx->Prop}(hd:r.d=some d)(hk:Hb d=some k)(hz:k<=sizeLine)(h:Q (.dat (.int k)) lx):dS C n (.builtin "len") [r] lx Q:=λA ok okb s vs R w a=>by
 refine cU (jq a) λv hX=>?_;obtain rfl:=hX.1;refine(λrv=>?_) hX.2
 have rd:=rv.rd w.sub hd
 have z:=mD hz
 cases d with
 |list ds=>
  refine ml rd.list_inv λa vs hX=>?_;obtain rfl:=hX.1;refine wb hX λ_ _ l rs=>?_
  obtain rfl:=(show vs.size=k from rs.length.trans (ao hk))
  exact call_len_list l.isList z (.of0 h Rd.int w.lxr (.tk (aF _ 2)))
 |str x=>
  refine nG λkG=>?_;obtain⟨t,rfl⟩:=rd.str_inv
  obtain rfl:=(show x.length=k from ao hk)
  refine kG ?_
  exact call_len_gives (wi s x t) F.slot_str_len F.entry_str_len (F.args_str_len_1 _) (gives_str_len x t) (Int.not_lt.mpr (bN _)) (Int.not_le.mpr z) (.of0 h Rd.int w.lxr (.tk (aF _ 2)))
 |_=>exact by cases hk
theorem n9{vs:List Value}{is:List Int}(a:IntsAre vs is):∃xs:Array (Int × Tok),vs.toArray=intItems xs/\xs.toList.map (·.1)=is:=by
 have:∃xs:List (Int × Tok),vs=xs.map (λp=>.int p.1 p.2)/\xs.map (·.1)=is:=by
  induction a with
  |nil=>exact⟨[],rfl,rfl⟩
  |cons i t _ ih=>exact by refine a7 ih λxs e1 e2=>?_;exact⟨(i,t)::xs,by rw[e1];rfl,by rw[<-e2];rfl⟩
 refine a7 this λxs e1 e2=>?_
 exact⟨xs.toArray,by rw[e1,intItems,List.map_toArray],e2⟩
theorem zk(xs:Array (Int × Tok)):preSum (numAt xs) xs.size=(xs.toList.map (·.1)).sum:=by rw[preSum_eq,fb (aJ ((af ..).trans cA))]
theorem dS.sum{r:Va}{is:List Int}{Q:Va->Lx->Prop}(hd:r.d=some (.list (is.map .int)))(h:Q (.dat (.int is.sum)) lx):dS C n (.builtin "sum") [r] lx Q:=λA ok okb s vs R w a=>by
 obtain⟨v,rfl,rv⟩:=jq a
 refine ml ((rv.rd w.sub hd).list_inv) λa vs hX=>?_;obtain rfl:=hX.1;refine wb hX λ_ _ l rs=>?_
 obtain⟨xs,e1,rfl⟩:=n9 (vq rs)
 have l':=l.isList
 rw[show vs=intItems xs from e1]at l'
 exact bR (sum_intListG R.hh l' λh' tk t' hk hle hz=>zk xs▸.of0 h Rd.int w.lxr (.of_keep hle hz hk))
end
def i8(env:Env)(b:Addr):Prop:=b=env.locals\/∃x,env.cells.lookup x=some b
def Af(env:Env)(x:Str)(b:Addr):Prop:=b=env.locals\/env.cells.lookup x=some b
theorem Af.frw{env:Env}{x:Str}{b:Addr}(h:Af env x b):i8 env b:=h.imp id λh=>⟨x,h⟩
def WS(env:Env)(og:Nat->List Addr)(lx:Lx)(b:Addr):Prop:=W lx b\/i8 env b\/∃i,b∈og i
section
variable{C:Cx}{n:Nat}{sc:Scope}{ρ:List LV}{lx:Lx}{env:Env}{ok okb:Addr->Prop}{og:Nat->List Addr}{μ:Str->Option Value}{s:ab}
theorem wU{α:Type}{l:List (Str × α)}{i j:Nat}{x:Str}{k k':α}(h:(l.map (·.1)).Nodup)(e:l[i]? =some (x,k))(e':l[j]? =some (x,k')):i=j:=by
 have h1:(l.map (·.1))[i]? =some x:=by simp[e]
 have h2:(l.map (·.1))[j]? =some x:=by simp[e']
 have hi:i < (l.map (·.1)).length:=(List.getElem?_eq_some_iff.mp h1).1
 exact(List.getElem?_inj hi h).mp (h1.trans h2.symm)
theorem sF{cs:List (Str × Addr)}(h:cs.Pairwise λx y=>x.2≠y.2){x y:Str}{c:Addr}(e:cs.lookup x=some c)(e':cs.lookup y=some c):x=y:=
 PySem.name_of_addr h (gI e) (gI e')
def sP(o:Obj):Prop:=(∃vs n,o.data=.seq vs n)\/∃vs,o.data=.fields vs
theorem sP.dict{o:Obj}{es:Array DictEntry}{n:Nat}(p:sP o)(e:o.data=.dict es n):False:=p.elim (λ⟨_,_,q⟩=>nomatch q.symm.trans e) λ⟨_,q⟩=>nomatch q.symm.trans e
theorem sP.cell{o:Obj}{v:Option Value}(p:sP o)(e:o.data=.cell v):False:=p.elim (λ⟨_,_,q⟩=>nomatch q.symm.trans e) λ⟨_,q⟩=>nomatch q.symm.trans e
theorem St.frPlain(S:St C sc env ρ lx ok okb og μ s){b:Addr}(w:i8 env b){o:Obj}(e:s.heap.get? b=some o)(p:sP o):False:=by
 rcases w with rfl|⟨y,e'⟩
 ·obtain⟨m,⟨o',es,ep,h1,h2,_⟩,_⟩:=S.ns
  exact(ao (h1.symm.trans e)▸p).dict h2
 ·obtain⟨v,o',h1,h2⟩:=S.cellx y b e'
  exact(ao (h1.symm.trans e)▸p).cell h2
theorem St.nolist(S:St C sc env ρ lx ok okb og μ s):∀b,i8 env b->∀vs,¬dj s.heap b vs:=λb w vs l=>by refine cU l λk e=>?_;exact S.frPlain w e (.inl ⟨vs,k,rfl⟩)
theorem St.frw_lx(S:St C sc env ρ lx ok okb og μ s):∀b,i8 env b->¬LW lx b:=λb w=>w.elim (λe=>e▸S.lxf.1) λ⟨y,e⟩=>S.lxf.2 y b e
theorem St.frw0(S:St C sc env ρ lx ok okb og μ s):∀b,i8 env b->C.h₀.get? b=none/\b≠C.tab:=λb w=>w.elim (λe=>e▸S.fr0.1) λ⟨y,e⟩=>S.fr0.2 y b e
theorem CO{h:Heap}{bs:List Addr}{dss:List (List D)}(q:vX ok h bs dss):∀b∈bs,∃vs,dj h b vs:=by
 induction q with
 |nil=>exact λ_ m=>nomatch m
 |cons h1 _ ih=>exact λb m=>(List.mem_cons.mp m).elim (λe=>e▸by refine a7 h1 λvs l _=>?_;exact⟨vs,l⟩) (ih b)
theorem jf.objs{h:Heap}{lv:LV}{u:Option Value}{as:List Addr}(x:jf ok okb lx h lv u as):∀a∈as,∃o,h.get? a=some o/\sP o:=by
 have lst:∀{a vs},dj h a vs->∃o,h.get? a=some o/\sP o:=λl=>by refine cU l λk e=>?_;exact⟨_,e,.inl ⟨_,k,rfl⟩⟩
 cases lv with
 |un=>exact λa m=>nomatch(show as=[]from x)▸m
 |raw _=>exact λa m=>nomatch x.1▸m
 |dat _=>exact λa m=>nomatch x.1▸m
 |bor _=>exact λa m=>nomatch x.1▸m
 |lex=>exact λa m=>nomatch x.1▸m
 |own _=>exact by refine BG x λb vs _ e l _=>?_;exact λa m=>lst (List.mem_singleton.mp (e▸m)▸l)
 |own2 _=>
  refine Kz x λb bs vs hX=>?_;obtain rfl:=hX.2.1;refine Jp hX λ_ _ l _ q=>?_
  refine λa m=>(List.mem_cons.mp m).elim (λe=>lst (e▸l)) λm=>?_
  exact by refine cU (CO q a m) λ_ l=>?_;exact lst l
 |ci it f l=>
  obtain⟨bm,b,t,_,rfl,_,hm,hc⟩:=x
  refine λa m=>(List.mem_cons.mp m).elim (λe=>e▸?_) λm=>List.mem_singleton.mp m▸⟨_,hm,.inr ⟨_,rfl⟩⟩
  cases l with
  |true=>exact by refine cU hc λt0 hc=>?_;exact⟨_,hc,.inr ⟨_,rfl⟩⟩
  |false=>exact⟨_,hc,.inr ⟨_,rfl⟩⟩
theorem St.stored{i:Nat}{x:Str}{k:az}{lv:LV}{as:List Addr}{v:Value}{s':ab}(E:aY sc env)(S:St C sc env ρ lx ok okb og μ s)(hx:sc.names[i]? =some (x,k))(g:aH (i8 env) cx s s')
  (hns:∃m,s'.heap.Ns env.locals m/\∀y,sc.names.lookup y=some .local->m y=if y=x then some v else μ y)
  (hcell:∀y,sc.names.lookup y=some .cell->∃c,env.cells.lookup y=some c/\s'.heap.IsCell c (if y=x then some v else μ y))
  (hcx:∀y c,env.cells.lookup y=some c->∃v,s'.heap.IsCell c v)
  (hv:jf ok okb lx s.heap lv (some v) as)(ho:∀a∈as,okb a/\¬ok a/\C.h₀.get? a=none/\a≠C.tab)(hn:as.Nodup)(hd:∀j a,j≠i->a∈as->a ∉ og j):
  St C sc env (ρ.set i lv) lx ok okb (λj=>if j=i then as else og j) (λy=>if y=x then some v else μ y) s':=by
 have hw:∀a,(∃vs,dj s.heap a vs)->¬i8 env a:=by rintro a ⟨vs,l⟩ w;exact S.nolist a w vs l
 have mv:∀{lv:LV} {u:Option Value} {as:List Addr},jf ok okb lx s.heap lv u as->jf ok okb lx s'.heap lv u as:=λh=>
  jf.move g .refl (λa _ l=>hw a l) (λa _ l=>hw a l) (λ_ _ o=>o) (λ_ _ o=>o) (λa m w=>by refine a7 (h.objs a m) λo e p=>?_;exact S.frPlain w e p) h
 exact{
  wd:=S.wd.grow g S.frw0
  okf:=S.okf.grow g
  sub:=S.sub
  len:=by rw[dL];exact S.len
  ns:=hns
  cell:=hcell
  cellx:=hcx
  vars:=λj y k' lv' e1 e2=>by
   by_cases hj:j=i
   ·subst hj
    cases ao (hx.symm.trans e1)
    rw[dT (by rw[S.len];exact(List.getElem?_eq_some_iff.mp hx).1)]at e2
    rw[if_pos rfl,if_pos rfl,<-ao e2]
    exact mv hv
   ·rw[if_neg hj,if_neg λq=>hj (wU E.nodup (q▸e1) hx)]
    rw[bU (Ne.symm hj)]at e2
    exact mv (S.vars j y k' lv' e1 e2)
  owns:=λj a m=>by
   by_cases hj:j=i
   ·rw[if_pos hj]at m;exact ho a m
   ·rw[if_neg hj]at m;exact S.owns j a m
  ownd:=λj=>by
   by_cases hj:j=i
   ·rw[if_pos hj];exact hn
   ·rw[if_neg hj];exact S.ownd j
  ownx:=λj j' a m m'=>by
   by_cases hj:j=i
   ·by_cases hj':j'=i
    ·rw[hj,hj']
    ·rw[if_pos hj]at m;rw[if_neg hj']at m';exact absurd m' (hd j' a hj' m)
   ·rw[if_neg hj]at m
    by_cases hj':j'=i
    ·rw[if_pos hj']at m';exact absurd m (hd j a hj m')
    ·rw[if_neg hj']at m';exact S.ownx j j' a m m'
  lxr:=S.lxr.part λb o l e=>g.heap b o (λw=>S.frw_lx b w l) e
  lxok:=S.lxok
  lxf:=S.lxf
  lx0:=S.lx0
  fr0:=S.fr0}
theorem jr{h:Heap}{a b:Addr}{m:Str->Option Value}{v:Option Value}(n:h.Ns a m)(c:h.IsCell b v):b≠a:=λq=>
 by refine Ky n λ_ _ _ h1 h2 _=>?_;exact by obtain⟨_,f1,f2⟩:=c;exact nomatch h2.symm.trans ((congrArg fW (ao (h1.symm.trans (q▸f1)))).trans f2)
theorem pS{h:Heap}{a b:Addr}{m:Str->Option Value}{vs:Array Value}(n:h.Ns a m)(l:dj h b vs):b≠a:=λq=>
 by refine Ky n λ_ _ _ h1 h2 _=>?_;exact by refine cU l λk e=>?_;exact have:_=Data.seq vs k:=congrArg fW (ao (h1.symm.trans (q▸e)));nomatch h2.symm.trans this
theorem fQ{a:Addr}{W:Addr->Prop}{h':Heap}{t:Nat}{m:Str->Option Value}(n:s.heap.Ns a m)(hs:jQ a s.heap h')(hw:W a)(ht:s.toks<=t):aH W cx s {s with heap:=h',toks:=t}:=
 by refine Ky n λ_ _ _ h1 h2 _=>?_;exact aH.same hs h1 (by rintro⟨_,_,_,e⟩;exact nomatch h2.symm.trans e) hw ht
theorem Bo{a:Addr}{W:Addr->Prop}{h':Heap}{t:Nat}{v:Option Value}(n:s.heap.IsCell a v)(hs:jQ a s.heap h')(hw:W a)(ht:s.toks<=t):aH W cx s {s with heap:=h',toks:=t}:=
 by refine a7 n λ_ h1 h2=>?_;exact aH.same hs h1 (by rintro⟨_,_,_,e⟩;exact nomatch h2.symm.trans e) hw ht
theorem aY.at{x:Str}{k:az}{i:Nat}(E:aY sc env)(h:sc.names[i]? =some (x,k)):env.kindOf x=some k:=by unfold fM;rw[E.scope];exact cS E.nodup h
theorem gc{A:Around}{i:Nat}{x:Str}{k:az}{lv₀ lv:LV}{as:List Addr}{v:Value}{Q:Unit->ab->Prop}(E:aY sc env)(S:St C sc env ρ lx ok okb og μ s)(a:d5 sc.names ρ i x k lv₀)(hk:k=.local\/k=.cell)
  (hv:jf ok okb lx s.heap lv (some v) as)(ho:∀a∈as,okb a/\¬ok a/\C.h₀.get? a=none/\a≠C.tab)(hn:as.Nodup)(hd:∀j a,j≠i->a∈as->a ∉ og j)
  (h:∀s',St C sc env (ρ.set i lv) lx ok okb (λj=>if j=i then as else og j) (λy=>if y=x then some v else μ y) s'->aH (Af env x) cx s s'->Q () s'):
  ar C.M A (jh env x v) Q bJ s:=by
 have hx:=a.get.1
 have hl:=cS E.nodup hx
 have kx:=E.at hx
 refine a7 S.ns λm hm hmx=>?_
 have to:∀{s'},aH (Af env x) cx s s'->aH (i8 env) cx s s':=λg=>g.mono (λ_ w=>.inl w.frw) (λ_ w=>w.elim)
 rcases hk with rfl|rfl
 ·refine gj kx hm (λh' hn' hs'=>?_) (by rw[E.scope,E.kind];rfl)
  have gx:aH (Af env x) cx s {s with heap:=h',toks:=s.toks+1}:=fQ hm hs' (.inl rfl) (a8 _)
  refine h _ (S.stored E hx (to gx) ⟨_,hn',λy hy=>?_⟩ (λy hy=>?_) (λy c e=>by refine cU (S.cellx y c e) λu e2=>?_;exact⟨u,e2.sameBut hs' (jr hm e2)⟩) hv ho hn hd) gx
  ·show(if y=x then some v else m y)=_
   rw[hmx y hy]
  ·refine a7 (S.cell y hy) λc e1 e2=>?_
   rw[if_neg λ(q:y=x)=>nomatch hl.symm.trans (show sc.names.lookup x=some .cell from q▸hy)]
   exact⟨c,e1,e2.sameBut hs' (jr hm e2)⟩
 ·refine a7 (S.cell x hl) λc e1 e2=>?_
  refine PySem.wpAny_storeName_cell (by rw[E.scope];exact E.kind) kx e1 e2 λh' hc' hs'=>?_
  have gx:aH (Af env x) cx s {s with heap:=h'}:=Bo (t:=s.toks) e2 hs' (.inr e1) (ai _)
  refine h _ (S.stored E hx (to gx) ⟨m,hm.sameBut hs' (Ne.symm (jr hm e2)),λy hy=>?_⟩ (λy hy=>?_) (λy c' e=>?_) hv ho hn hd) gx
  ·exact(hmx y hy).trans (if_neg λ(q:y=x)=>nomatch hl.symm.trans (show sc.names.lookup x=some .local from q▸hy)).symm
  ·by_cases hyx:y=x
   ·rw[if_pos hyx,hyx]
    exact⟨c,e1,hc'⟩
   ·rw[if_neg hyx]
    exact by refine a7 (S.cell y hy) λc' g1 g2=>?_;exact⟨c',g1,g2.sameBut hs' λq=>hyx (sF E.apart (q▸g1) e1)⟩
  ·by_cases q:c'=c
   ·exact⟨_,q▸hc'⟩
   ·exact by refine cU (S.cellx y c' e) λu e3=>?_;exact⟨u,e3.sameBut hs' q⟩
end
noncomputable def wY(fz:Bool)(d:D):LV:=match fz,d with
 |true,d=>.dat d
 |false,.none=>.dat .none
 |false,.bool b=>.dat (.bool b)
 |false,.int i=>.dat (.int i)
 |false,.str x=>.dat (.str x)
 |false,d=>.bor d
noncomputable def oV(fz:Bool)(ok okb:Addr->Prop):Addr->Prop:=match fz with
 |true=>ok
 |false=>okb
theorem H5{fz:Bool}{ok okb:Addr->Prop}{lx:Lx}{h:Heap}{d:D}{v:Value}(r:Rd (oV fz ok okb) h v d):jf ok okb lx h (wY fz d) (some v) []:=by
 cases fz with
 |true=>exact⟨rfl,v,rfl,r⟩
 |false=>
  have r':Rd okb h v d:=r
  cases d with
  |none=>exact r'.none_inv▸⟨rfl,_,rfl,Rd.none⟩
  |bool b=>exact r'.bool_inv▸⟨rfl,_,rfl,Rd.bool⟩
  |int i=>exact by refine cU r'.int_inv λt e=>?_;exact e▸⟨rfl,_,rfl,Rd.int⟩
  |str x=>exact by refine cU r'.str_inv λt e=>?_;exact e▸⟨rfl,_,rfl,Rd.str⟩
  |_=>exact⟨rfl,v,rfl,r'⟩
theorem AX{d d':D}:wY true d≠ .bor d':=λe=>by cases e
inductive ze(fz:Bool)(names:List (Str × az)):List Expr->List D->List LV->List LV->Prop where
 |nil {ρ}:ze fz names [] [] ρ ρ
 |cons {x pos es d ds ρ ρ₁ ρ₂ i k lv₀}:d5 names ρ i x k lv₀->(k=.local\/k=.cell)->ρ₁=ρ.set i (wY fz d)->ze fz names es ds ρ₁ ρ₂->ze fz names (.Name x pos::es) (d::ds) ρ ρ₂
inductive xM(fz:Bool)(names:List (Str × az)):Expr->D->List LV->List LV->Prop where
 |name {x pos d ρ i k lv₀}:d5 names ρ i x k lv₀->(k=.local\/k=.cell)->xM fz names (.Name x pos) d ρ (ρ.set i (wY fz d))
 |tup {es k pos ds ρ ρ'}:ze fz names es ds ρ ρ'->xM fz names (.Tuple es k pos) (.tuple ds) ρ ρ'
noncomputable def C0:Expr->Option Str
 |.Name x _=>some x
 |_=>none
noncomputable def KR(es:List Expr):List Str:=es.filterMap C0
noncomputable def ES(e:Expr):List Str:=match C0 e with
 |some x=>[x]
 |none=>match e with
  |.Tuple es _ _=>KR es
  |_=>[]
def GR(env:Env)(xs:List Str)(b:Addr):Prop:=b=env.locals\/∃x∈xs,env.cells.lookup x=some b
inductive Fl where
 |nxt
 |brk
 |cont
 |ret (r:Va)
def EY(ok okb:Addr->Prop)(lx:Lx)(h:Heap):Fl->Flow->Prop
 |.nxt,.next=>True
 |.brk,.brk=>True
 |.cont,.cont=>True
 |.ret r,.ret v=>RV ok okb lx h r v
 |_,_=>False
section
variable{ok okb:Addr->Prop}{lx:Lx}{h:Heap}{fl:Flow}
theorem EY.nxt(x:EY ok okb lx h .nxt fl):fl=.next:=by cases fl<;>first|rfl|exact x.elim
theorem EY.brk(x:EY ok okb lx h .brk fl):fl=.brk:=by cases fl<;>first|rfl|exact x.elim
theorem EY.cont(x:EY ok okb lx h .cont fl):fl=.cont:=by cases fl<;>first|rfl|exact x.elim
theorem EY.ret{r:Va}(x:EY ok okb lx h (.ret r) fl):∃v,fl=.ret v/\RV ok okb lx h r v:=by cases fl<;>first|exact⟨_,rfl,x⟩|exact x.elim
end
def cZ(ρ:List LV):Prop:=∀(i:Nat) (d:D),ρ[i]? ≠some (.bor d)
theorem cZ.set{ρ:List LV}(h:cZ ρ){i:Nat}{lv:LV}(hl:∀d,lv≠ .bor d):cZ (ρ.set i lv):=λj d e=>by
 rw[List.getElem?_set]at e
 split at e
 ·split at e
  ·exact hl d (ao e)
  ·exact nomatch e
 ·exact h j d e
structure kh(env:Env)(lx lx':Lx)(ok okb ok' okb':Addr->Prop)(og og':Nat->List Addr)(s s':ab):Prop where
 sa:bV lx lx'
 ok1:∀a,ok' a->ok a
 ok2:∀a,a < s.heap.objs.size->ok a->ok' a
 okb1:∀a,okb' a->okb a
 okb2:∀a,a < s.heap.objs.size->okb a->okb' a
 og1:∀i a,a∈og' i->(∃j,a∈og j)\/s.heap.objs.size<=a
 g:aH (WS env og lx) cx s s'
theorem kh.refl{env:Env}{lx:Lx}{ok okb:Addr->Prop}{og:Nat->List Addr}{s:ab}:kh env lx lx ok okb ok okb og og s s:=
 ⟨.refl,λ_ o=>o,λ_ _ o=>o,λ_ o=>o,λ_ _ o=>o,λi a m=>.inl ⟨i,m⟩,.refl⟩
theorem kh.trans{env:Env}{lx lx₁ lx₂:Lx}{ok okb ok₁ okb₁ ok₂ okb₂:Addr->Prop}{og og₁ og₂:Nat->List Addr}{s s₁ s₂:ab}(x:kh env lx lx₁ ok okb ok₁ okb₁ og og₁ s s₁)(y:kh env lx₁ lx₂ ok₁ okb₁ ok₂ okb₂ og₁ og₂ s₁ s₂):
  kh env lx lx₂ ok okb ok₂ okb₂ og og₂ s s₂ where
 sa:=x.sa.trans y.sa
 ok1 a o:=x.ok1 a (y.ok1 a o)
 ok2 a e o:=y.ok2 a (ay e x.g.size) (x.ok2 a e o)
 okb1 a o:=x.okb1 a (y.okb1 a o)
 okb2 a e o:=y.okb2 a (ay e x.g.size) (x.okb2 a e o)
 og1 i a m:=(y.og1 i a m).elim (by rintro⟨j,m'⟩;exact x.og1 j a m') λe=>.inr (ah x.g.size e)
 g:=x.g.trans y.g (λb w=>by
  rcases w with w|w|⟨i,m⟩
  ·exact .inl (.inl (x.sa.W▸w))
  ·exact .inl (.inr (.inl w))
  ·exact(x.og1 i b m).elim (by rintro⟨j,m'⟩;exact .inl (.inr (.inr ⟨j,m'⟩))) .inr) (λ_ w=>w.elim)
theorem kh.of_grow{env:Env}{lx lx':Lx}{ok okb:Addr->Prop}{og:Nat->List Addr}{s s':ab}(g:aH (W lx) cx s s')(sa:bV lx lx'):kh env lx lx' ok okb ok okb og og s s':=
 ⟨sa,λ_ o=>o,λ_ _ o=>o,λ_ o=>o,λ_ _ o=>o,λi a m=>.inl ⟨i,m⟩,g.mono (λb w=>.inl (.inl w)) (λ_ w=>w.elim)⟩
theorem kh.of_frame{env:Env}{lx:Lx}{ok okb:Addr->Prop}{og og':Nat->List Addr}{s s':ab}(g:aH (i8 env) cx s s')(h:∀i a,a∈og' i->∃j,a∈og j):kh env lx lx ok okb ok okb og og' s s':=
 ⟨.refl,λ_ o=>o,λ_ _ o=>o,λ_ o=>o,λ_ _ o=>o,λi a m=>.inl (h i a m),g.mono (λb w=>.inl (.inr (.inl w))) (λ_ w=>w.elim)⟩
inductive i7(C:Cx)(sc:Scope)(env:Env)(lx:Lx)(ok okb:Addr->Prop)(og:Nat->List Addr)(s:ab)(P:Fl->List LV->Lx->Prop)(fl:Flow)(s':ab):Prop where
 |mk (f:Fl) (ρ':List LV) (lx':Lx) (ok' okb':Addr->Prop) (og':Nat->List Addr) (μ':Str->Option Value) (p:P f ρ' lx') (fr:EY ok' okb' lx' s'.heap f fl) (st:St C sc env ρ' lx' ok' okb' og' μ' s') (nb:cZ ρ') (c:kh env lx lx' ok okb ok' okb' og og' s s')
def gT(C:Cx)(n:Nat)(sc:Scope)(st:Stmt)(ρ:List LV)(lx:Lx)(P:Fl->List LV->Lx->Prop):Prop:=
 ∀A env ok okb og μ s,bj n A->aY sc env->St C sc env ρ lx ok okb og μ s->cZ ρ->ar C.M A (exec st env) (i7 C sc env lx ok okb og s P) bJ s
def nO(C:Cx)(n:Nat)(sc:Scope)(st:List Stmt)(ρ:List LV)(lx:Lx)(P:Fl->List LV->Lx->Prop):Prop:=
 ∀A env ok okb og μ s,bj n A->aY sc env->St C sc env ρ lx ok okb og μ s->cZ ρ->ar C.M A (kj st env) (i7 C sc env lx ok okb og s P) bJ s
section
variable{C:Cx}{n:Nat}{sc:Scope}{ρ:List LV}{lx:Lx}{P:Fl->List LV->Lx->Prop}
section
variable{A:Around}{env:Env}{lx₁:Lx}{ok okb ok₁ okb₁:Addr->Prop}{og og₁:Nat->List Addr}{μ:Str->Option Value}{s s₁ s':ab}
theorem i7.then{fl:Flow}(c:kh env lx lx₁ ok okb ok₁ okb₁ og og₁ s s₁)(p:i7 C sc env lx₁ ok₁ okb₁ og₁ s₁ P fl s'):i7 C sc env lx ok okb og s P fl s':=
 by refine nG λkG=>?_;obtain⟨f,ρ',lx',ok',okb',og',μ',q,fr,S,nb,c'⟩:=p;refine kG ?_;exact⟨f,ρ',lx',ok',okb',og',μ',q,fr,S,nb,c.trans c'⟩
theorem i7.map{P':Fl->List LV->Lx->Prop}(k:∀f ρ l,P f ρ l->P' f ρ l){fl:Flow}(p:i7 C sc env lx ok okb og s P fl s'):i7 C sc env lx ok okb og s P' fl s':=
 by obtain⟨f,ρ',lx',ok',okb',og',μ',q,fr,S,nb,c'⟩:=p;exact⟨f,ρ',lx',ok',okb',og',μ',k _ _ _ q,fr,S,nb,c'⟩
theorem nO.here{b:List Stmt}(h:nO C n sc b ρ lx₁ P)(R:bj n A)(E:aY sc env)(S:St C sc env ρ lx₁ ok₁ okb₁ og₁ μ s₁)(B:cZ ρ)(c:kh env lx lx₁ ok okb ok₁ okb₁ og og₁ s s₁):ar C.M A (kj b env) (i7 C sc env lx ok okb og s P) bJ s₁:=
 al (h A env ok₁ okb₁ og₁ μ s₁ R E S B) (λ_ _ p=>.then c p) λ_ _ x=>x
theorem i7.at{f:Fl}{fl:Flow}(q:P f ρ lx₁)(fr:EY ok₁ okb₁ lx₁ s₁.heap f fl)(S:St C sc env ρ lx₁ ok₁ okb₁ og₁ μ s₁)(B:cZ ρ)(c:kh env lx lx₁ ok okb ok₁ okb₁ og og₁ s s₁):i7 C sc env lx ok okb og s P fl s₁:=⟨f,ρ,lx₁,ok₁,okb₁,og₁,μ,q,fr,S,B,c⟩
end
theorem nO.nil(h:P .nxt ρ lx):nO C n sc [] ρ lx P:=λA env ok okb og μ s R E S B=>iY ⟨.nxt,ρ,lx,ok,okb,og,μ,h,trivial,S,B,.refl⟩
def Lk(C:Cx)(n:Nat)(sc:Scope)(rest:List Stmt)(P:Fl->List LV->Lx->Prop):Fl->List LV->Lx->Prop
 |.nxt,ρ,lx=>nO C n sc rest ρ lx P
 |f,ρ,lx=>P f ρ lx
theorem nO.cons{st:Stmt}{rest:List Stmt}(h:gT C n sc st ρ lx (Lk C n sc rest P)):nO C n sc (st::rest) ρ lx P:=λA env ok okb og μ s R E S B=>
 bW (al (h A env ok okb og μ s R E S B) (λfl s₁ p=>by
  obtain⟨f,ρ₁,lx₁,ok₁,okb₁,og₁,μ₁,q,fr,S1,B1,c⟩:=p
  cases f with
  |nxt=>obtain rfl:=fr.nxt;exact nO.here q R E S1 B1 c
  |brk=>obtain rfl:=fr.brk;exact .at q trivial S1 B1 c
  |cont=>obtain rfl:=fr.cont;exact .at q trivial S1 B1 c
  |ret r=>obtain⟨v,rfl,rv⟩:=fr.ret;exact .at q rv S1 B1 c) λ_ _ x=>x)
theorem nO.mono{st:List Stmt}{P':Fl->List LV->Lx->Prop}(h:nO C n sc st ρ lx P)(k:∀f ρ l,P f ρ l->P' f ρ l):nO C n sc st ρ lx P':=λA env ok okb og μ s R E S B=>
 al (h A env ok okb og μ s R E S B) (λ_ _ p=>p.map k) λ_ _ x=>x
theorem gT.brk{pos:Pos}(h:P .brk ρ lx):gT C n sc (.Break pos) ρ lx P:=λA env ok okb og μ s R E S B=>wpAny_Break ⟨.brk,ρ,lx,ok,okb,og,μ,h,trivial,S,B,.refl⟩
theorem gT.cont{pos:Pos}(h:P .cont ρ lx):gT C n sc (.Continue pos) ρ lx P:=λA env ok okb og μ s R E S B=>wpAny_Continue ⟨.cont,ρ,lx,ok,okb,og,μ,h,trivial,S,B,.refl⟩
theorem gT.ret{e:Expr}{pos:Pos}(h:Ev C n sc e ρ lx λr lx1=>P (.ret r) ρ lx1):gT C n sc (.Return (some e) pos) ρ lx P:=λA env ok okb og μ s R E S B=>
 wpAny_Return_some (h.go R E S λv s₁ r lx₁ q rv S1 sa g=>.at q rv S1 B (.of_grow g sa))
theorem gT.if{t:Expr}{b o:List Stmt}{pos:Pos}(h:jI C n sc t ρ lx λc lx1=>if c=true then nO C n sc b ρ lx1 P else nO C n sc o ρ lx1 P):gT C n sc (.If t b o pos) ρ lx P:=λA env ok okb og μ s R E S B=>
 wpAny_If (h.go R E S λc s₁ lx₁ q S1 sa g=>by
  cases c with
  |true=>exact nO.here (b:=b) q R E S1 B (.of_grow g sa)
  |false=>exact nO.here (b:=o) q R E S1 B (.of_grow g sa))
theorem CU{og:Nat->List Addr}{i j:Nat}{b:Addr}(m:b∈if j=i then []else og j):b∈og j:=by
 by_cases q:j=i
 ·rw[if_pos q]at m;exact nomatch m
 ·rw[if_neg q]at m;exact m
theorem vk{i:Nat}:(λj=>if j=i then([]:List Addr)else [])=λ_=>[]:=funext λj=>ite_self _
theorem sI{A:Around}{env:Env}{ok okb:Addr->Prop}{og:Nat->List Addr}{μ:Str->Option Value}{s:ab}{i:Nat}{x:Str}{k:az}{lv₀ lv:LV}{v:Value}{Q:Unit->ab->Prop}(E:aY sc env)(S:St C sc env ρ lx ok okb og μ s)
  (a:d5 sc.names ρ i x k lv₀)(hk:k=.local\/k=.cell)(hv:jf ok okb lx s.heap lv (some v) [])
  (h:∀og' μ' s',St C sc env (ρ.set i lv) lx ok okb og' μ' s'->kh env lx lx ok okb ok okb og og' s s'->Q () s'):ar C.M A (jh env x v) Q bJ s:=
 gc E S a hk hv (λ_ m=>nomatch m) bx (λ_ _ _ m=>nomatch m) λs' S' g=>h _ _ s' S' (.of_frame (g.mono (λ_ w=>.inl w.frw) (λ_ w=>w.elim)) λj b m=>⟨j,CU m⟩)
inductive Ji(C:Cx)(sc:Scope)(env:Env)(fz:Bool)(ρ ρ':List LV)(lx:Lx)(ok okb:Addr->Prop)(og:Nat->List Addr)(xs:List Str)(s s':ab):Prop where
 |mk (og':Nat->List Addr) (μ':Str->Option Value) (st:St C sc env ρ' lx ok okb og' μ' s') (nb:fz=true->cZ ρ->cZ ρ') (none:fz=false->og'=λ_=>[]) (sub:∀i a,a∈og' i->a∈og i) (g:aH (GR env xs) cx s s')
theorem IX{fz:Bool}{A:Around}{env:Env}{ok okb:Addr->Prop}{og:Nat->List Addr}{μ:Str->Option Value}{s:ab}{i:Nat}{x:Str}{pos:Pos}{k:az}{lv₀:LV}{v:Value}{d:D}{Q:Unit->ab->Prop}(E:aY sc env)(S:St C sc env ρ lx ok okb og μ s)
  (a:d5 sc.names ρ i x k lv₀)(hk:k=.local\/k=.cell)(r:Rd (oV fz ok okb) s.heap v d)(hog:fz=false->og=λ_=>[])(h:∀s',Ji C sc env fz ρ (ρ.set i (wY fz d)) lx ok okb og [x] s s'->Q () s'):ar C.M A (s7 (.Name x pos) env v) Q bJ s:=
 oA (gc E S a hk (H5 r) (λ_ m=>nomatch m) bx (λ_ _ _ m=>nomatch m) λs₁ S1 g1=>h s₁ ⟨_,_,S1,λq b=>b.set λd' e=>by subst q;exact AX e,λq=>by rw[hog q];exact vk,λ_ _=>CU,
  g1.mono (λb w=>.inl (w.imp id λe=>⟨x,.head _,e⟩)) (λ_ w=>w.elim)⟩)
theorem Es{fz:Bool}{A:Around}{env:Env}{ok okb:Addr->Prop}(E:aY sc env){es:List Expr}{ds:List D}{ρ ρ':List LV}(a:ze fz sc.names es ds ρ ρ'):∀{vs:List Value} {og:Nat->List Addr} {μ:Str->Option Value} {s:ab} {Q:Unit->ab->Prop},
  St C sc env ρ lx ok okb og μ s->dC (oV fz ok okb) s.heap vs ds->(fz=false->og=λ_=>[])->(∀s',Ji C sc env fz ρ ρ' lx ok okb og (KR es) s s'->Q () s')->ar C.M A (assignInOrder ((nx es env).map (·.2)) vs) Q bJ s:=by
 induction a with
 |nil=>exact λ{vs og μ s Q} S r hog h=>r.unnil▸aq (h s ⟨og,μ,S,λ_ b=>b,hog,λ_ _ m=>m,.refl⟩)
 |@cons x pos es d ds ρ ρ₁ ρ₂ i k lv₀ a hk e1 _ ih=>
  intro vs og μ s Q S r hog h
  refine ml r.uncons λv vs' hX=>?_;obtain rfl:=hX.1;refine oG hX λ_ rv r'=>?_
  show ar _ _ (do kX vs' (s7 (.Name x pos) env v);assignInOrder ((nx es env).map (·.2)) vs') _ _ _
  refine aa (bg (IX E S a hk rv hog λs₁ p=>?_))
  refine nG λkG=>?_;obtain⟨og1,μ1,S1,B1,ho1,c1,g1⟩:=p
  refine kG ?_
  exact ih (e1▸S1) (r'.grow g1 λa o l w=>S.nolist a (w.imp id λ⟨x,_,e⟩=>⟨x,e⟩) _ l.choose_spec) ho1 λs' p=>let⟨og',μ',S',B',ho',c',g'⟩:=p
   h s' ⟨og',μ',S',λq b=>B' q (e1▸B1 q b),ho',λi a m=>c1 i a (c' i a m),(g1.mono (W':=GR env (KR (.Name x pos::es))) (λb w=>.inl (w.imp id λ⟨y,m,e⟩=>⟨y,List.mem_singleton.mp m▸.head _,e⟩)) (λ_ w=>w.elim)).trans1
    (g'.mono (λb w=>.inl (w.imp id λ⟨y,m,e⟩=>⟨y,pD _ m,e⟩)) (λ_ w=>w.elim))⟩
theorem sJ{fz:Bool}{names:List (Str × az)}{env:Env}{es:List Expr}{ds:List D}{ρ ρ':List LV}(a:ze fz names es ds ρ ρ'):(nx es env).length=ds.length/\(nx es env).findIdx? (·.1)=none:=by
 induction a with
 |nil=>exact⟨rfl,rfl⟩
 |@cons x pos es _ _ _ _ _ _ _ _ _ _ _ _ ih=>
  have e:nx (.Name x pos::es) env=(false,s7 (.Name x pos) env)::nx es env:=rfl
  rw[e,List.findIdx?_cons]
  exact⟨congrArg nz ih.1,by rw[ih.2];rfl⟩
theorem GR.frw{env:Env}{xs:List Str}{b:Addr}(h:GR env xs b):i8 env b:=h.imp id λ⟨x,_,e⟩=>⟨x,e⟩
theorem rt{fz:Bool}{A:Around}{env:Env}{ok okb:Addr->Prop}{og:Nat->List Addr}{μ:Str->Option Value}{s:ab}{e:Expr}{d:D}{ρ':List LV}{v:Value}{Q:Unit->ab->Prop}(hh:A.handled=none)(E:aY sc env)(S:St C sc env ρ lx ok okb og μ s)
  (a:xM fz sc.names e d ρ ρ')(r:Rd (oV fz ok okb) s.heap v d)(hog:fz=false->og=λ_=>[])(h:∀s',Ji C sc env fz ρ ρ' lx ok okb og (ES e) s s'->Q () s'):ar C.M A (s7 e env v) Q bJ s:=by
 cases a with
 |name a hk=>exact IX E S a hk r hog h
 |tup a=>
  obtain⟨t,vs,rfl,ht,rs⟩:=r.tuple_inv
  obtain⟨h1,h2⟩:=sJ (env:=env) a
  rw[arm_assign_Tuple]
  refine aa (cu ?_)
  unfold unpack
  rw[show(nx _ env).length=vs.size from h1.trans rs.length.symm,h2]
  refine aa (bg (bR (wpAny_unpackItems_tuple hh ht λh' hx _ hz=>?_)))
  have g:bG s {s with heap:=h'}:=.of_keep (t:=s.toks) (ai _) hz λb o e=>hx b o (aK (aC e)) e
  exact Es E a (S.grow0 g) (rs.grow0 g) hog λs' p=>by obtain⟨og',μ',S',B',ho',c',g'⟩:=p;exact h s' ⟨og',μ',S',B',ho',c',g.of0.trans1 g'⟩
theorem kh.of_asg{env:Env}{lx:Lx}{ok okb:Addr->Prop}{og og':Nat->List Addr}{s s':ab}{xs:List Str}(g:aH (GR env xs) cx s s')(h:∀i a,a∈og' i->a∈og i):kh env lx lx ok okb ok okb og og' s s':=
 .of_frame (g.mono (λ_ w=>.inl w.frw) (λ_ w=>w.elim)) λi a m=>⟨i,h i a m⟩
noncomputable def Va.lv:Va->Option LV
 |.dat d=>some (.dat d)
 |.bor _=>bc
 |.lex=>some .lex
theorem G8{ok okb:Addr->Prop}{lx:Lx}{h:Heap}{r:Va}{v:Value}{lv:LV}(rv:RV ok okb lx h r v)(e:r.lv=some lv):jf ok okb lx h lv (some v) []/\∀d,lv≠ .bor d:=by
 cases r with
 |dat d=>cases e;exact⟨⟨rfl,v,rfl,rv⟩,λ_ q=>by cases q⟩
 |bor d=>exact by cases e
 |lex=>cases e;exact by refine xQ rv λla t e2 e3=>?_;exact⟨⟨rfl,la,t,e2,congrArg some e3⟩,λ_ q=>by cases q⟩
theorem gT.assign{x:Str}{e:Expr}{p pos:Pos}{i:Nat}{k:az}{lv₀:LV}(a:d5 sc.names ρ i x k lv₀)(hk:k=.local\/k=.cell)(h:Ev C n sc e ρ lx λr lx1=>∃lv,r.lv=some lv/\P .nxt (ρ.set i lv) lx1)
  (hs:∀env,kq e (some (.Name x p)) pos.line env=pure false):gT C n sc (.Assign [.Name x p] e pos) ρ lx P:=λA env ok okb og μ s R E S B=>
 cJ (h.go R E S λv s₁ r lx₁ q rv S1 sa g=>by refine a7 q λlv e1 q=>?_;exact let hv:=G8 rv e1;sI E S1 a hk hv.1 λog' μ' s' S' c=>.at q trivial S' (B.set hv.2) (.trans (.of_grow g sa) c)) (hs env)
theorem gT.assignT{es:List Expr}{kk:Nat}{e:Expr}{tp pos:Pos}{ρ':List LV}(h:Ev C n sc e ρ lx λr lx1=>∃d ρ',r=.dat d/\xM true sc.names (.Tuple es kk tp) d ρ ρ'/\P .nxt ρ' lx1)
  (hs:∀env,swapsWithSole [.Tuple es kk tp] e pos.line env=pure false)(hw:∀env,swappedStores [.Tuple es kk tp] e env=pure none):gT C n sc (.Assign [.Tuple es kk tp] e pos) ρ lx P:=λA env ok okb og μ s R E S B=>
 PyProof.Rows.Assign_Tuple (h.go R E S λv s₁ r lx₁ q rv S1 sa g=>by
  refine nG λkG=>?_;obtain⟨d,ρ',rfl,a,q⟩:=q
  refine kG ?_
  exact rt R.hh E S1 a rv (λq=>by cases q) λs' p=>by refine nG λkG=>?_;obtain⟨og',μ',S',B',_,c,gg⟩:=p;refine kG ?_;exact .at q trivial S' (B' rfl B) (.trans (.of_grow g sa) (.of_asg gg c))) (hs env) (hw env)
end
inductive iw(pr:Addr->Prop)(pg:Nat->Prop)(okI:Addr->Prop)(s s₁:ab):Prop where
 |mk (W:Addr->Prop) (g:aH W (λi=>¬pg i) s s₁) (h:∀b,W b->¬pr b/\(okI b->∀vs,¬dj s.heap b vs))
theorem iw.refl{pr:Addr->Prop}{pg:Nat->Prop}{okI:Addr->Prop}{s:ab}:iw pr pg okI s s:=⟨xN,.refl,λ_ w=>w.elim⟩
theorem iw.trans{pr:Addr->Prop}{pg:Nat->Prop}{okI:Addr->Prop}{s s₁ s₂:ab}(x:iw pr pg okI s s₁)(y:iw pr pg okI s₁ s₂):iw pr pg okI s s₂:=by
 obtain⟨W,g,h⟩:=x
 obtain⟨W',g',h'⟩:=y
 exact⟨λb=>W b\/W' b,aH.trans (g.mono (λ_ w=>.inl (.inl w)) (λ_ w=>.inl w)) g' (λ_ w=>.inl (.inr w)) (λ_ w=>.inl w),λb w=>w.elim (h b) λw=>⟨(h' b w).1,λo vs l=>
  (Classical.em (W b)).elim (λq=>(h b q).2 o vs l) λq=>(h' b w).2 o vs (dj.grow g q l)⟩⟩
theorem iw.rds{pr:Addr->Prop}{pg:Nat->Prop}{okI:Addr->Prop}{s s₁:ab}{vs:List Value}{ds:List D}(k:iw pr pg okI s s₁)(r:dC okI s.heap vs ds):dC okI s₁.heap vs ds:=by
 obtain⟨W,g,h⟩:=k
 exact r.grow g λa o l w=>(h a w).2 o _ l.choose_spec
theorem iw.obj{pr:Addr->Prop}{pg:Nat->Prop}{okI:Addr->Prop}{s s₁:ab}{b:Addr}{o:Obj}(k:iw pr pg okI s s₁)(hp:pr b)(e:s.heap.get? b=some o):s₁.heap.get? b=some o:=by
 obtain⟨W,g,h⟩:=k
 exact g.heap b o (λw=>(h b w).1 hp) e
theorem iw.lst{pr:Addr->Prop}{pg:Nat->Prop}{okI:Addr->Prop}{s s₁:ab}{b:Addr}{vs:Array Value}(k:iw pr pg okI s s₁)(hp:okI b)(e:dj s.heap b vs):dj s₁.heap b vs:=by
 obtain⟨W,g,h⟩:=k
 exact dj.grow g (λw=>(h b w).2 hp _ e) e
def sQ(o:Obj):Prop:=o.cls=.type "list"->∀vs n,o.data≠ .seq vs n
theorem sQ.of{o:Obj}(h:o.cls≠ .type "list"):sQ o:=λc=>absurd c h
def qU(pr:Addr->Prop)(h:Heap):Prop:=∀b,pr b->∃o,h.get? b=some o/\sQ o
theorem qU.no{pr:Addr->Prop}{h:Heap}(x:qU pr h){b:Addr}(hb:pr b){vs:Array Value}(l:dj h b vs):False:=by
 refine a7 (x b hb) λo e q=>?_
 refine cU l λn e'=>?_
 rw[e]at e';cases e';exact q rfl _ _ rfl
theorem iw.notL{pr:Addr->Prop}{pg:Nat->Prop}{okI:Addr->Prop}{s s₁:ab}(k:iw pr pg okI s s₁)(x:qU pr s.heap):qU pr s₁.heap:=λb hb=>
 by refine a7 (x b hb) λo e q=>?_;exact⟨o,k.obj hb e,q⟩
noncomputable def nH(C:Cx)(n:Nat)(tg:Expr)(okI:Addr->Prop)(pg:Nat->Prop)(it:Value):(Addr->Prop)->List D->ab->Prop
 |pr,[],s=>∀A s₁,bj n A->Wd C s₁->iw pr pg okI s s₁->ar C.M A (ew it) (λr s₂=>r=bc/\aH pr pg s₁ s₂) bJ s₁
 |pr,d::ds,s=>∀A s₁,bj n A->Wd C s₁->iw pr pg okI s s₁->ar C.M A (ew it) (λr s₂=>∃v,r=some v/\ar C.M A (cD tg it v) (λ_ s₃=>Rd okI s₃.heap v d/\aH pr pg s₁ s₃/\
   ∃pr',(∀b,pr' b->pr b\/s₁.heap.objs.size<=b)/\qU pr' s₃.heap/\nH C n tg okI pg it pr' ds s₃) bJ s₂) bJ s₁
theorem nH.kept{C:Cx}{n:Nat}{tg:Expr}{okI:Addr->Prop}{pr:Addr->Prop}{pg:Nat->Prop}{it:Value}{s s₁:ab}(k:iw pr pg okI s s₁):∀{ds:List D},nH C n tg okI pg it pr ds s->nH C n tg okI pg it pr ds s₁
 |[],h=>λA s₂ R wd k'=>h A s₂ R wd (k.trans k')
 |_::_,h=>λA s₂ R wd k'=>h A s₂ R wd (k.trans k')
def EH(C:Cx)(n:Nat)(okI:Addr->Prop)(pg:Nat->Prop)(it:Value)(pr:Addr->Prop)(s:ab):Prop:=
 ∀A s₁ (Q:Value->ab->Prop),bj n A->iw pr pg okI s s₁->Q it s₁->ar C.M A (sX it) Q bJ s₁
inductive sS(C:Cx)(n:Nat)(tg:Expr)(fz:Bool)(ok okb:Addr->Prop)(lx:Lx)(s:ab)(Q:List D->Lx->Prop)(it:Value)(s₂:ab):Prop where
 |mk (ds:List D) (lx':Lx) (pr:Addr->Prop) (pg:Nat->Prop) (q:Q ds lx') (sa:bV lx lx') (l:nN C lx' s₂.heap) (g:aH (W lx) cx s s₂) (old:∀b,pr b->s.heap.objs.size<=b) (nl:qU pr s₂.heap) (gen:∀i,pg i->s.gens[i]? =bc)
   (self:EH C n (λa=>oV fz ok okb a/\a < s₂.heap.objs.size) pg it pr s₂) (ok:nH C n tg (λa=>oV fz ok okb a/\a < s₂.heap.objs.size) pg it pr ds s₂)
def iJ(C:Cx)(n:Nat)(sc:Scope)(iter tg:Expr)(fz:Bool)(ρ:List LV)(lx:Lx)(Q:List D->Lx->Prop):Prop:=
 ∀A env ok okb og μ s,bj n A->aY sc env->St C sc env ρ lx ok okb og μ s->
  ar C.M A (eval iter env) (λx s₁=>ar C.M A (sX x) (sS C n tg fz ok okb lx s Q) bJ s₁) bJ s
section
variable{C:Cx}{n:Nat}{sc:Scope}{ρ:List LV}{lx:Lx}
def rg:List String:=["enumerate","zip","dict_itemiterator","dict_reverseitemiterator","odict_iterator","itertools.zip_longest","itertools.pairwise"]
theorem mU{tg:Expr}{it:Addr}{v:Value}{o:Obj}{c:String}{M:Model}{A:Around}{E:Value->ab->Prop}{s:ab}{Q:Unit->ab->Prop}(ho:s.heap.get? it=some o)(hc:o.cls=.type c)
  (hn:rg.contains c=false)(h:Q () s):ar M A (cD tg (.ref it) v) Q E s:=by
 have key:∀a,ar M A (load it >>= λo=>match o.cls,o.data with
   |.type n,.fields vs=>
    if(rg.contains n&&vs[0]? ==some (rawInt a))=true then(do
     rule "for.unpacks-the-owned-tuple"
     updateField it 0 .none)
    else pure ()
   |_,_=>pure ()) Q E s:=λa=>by
  refine aa (wg ho ?_)
  rw[hc]
  cases o.data with
  |fields vs=>
   dsimp only
   rw[hn,Bool.false_and,if_neg bY]
   exact aq h
  |_=>exact aq h
 cases tg with
 |Tuple=>cases v with
  |ref a=>exact key a
  |_=>exact aq h
 |List=>cases v with
  |ref a=>exact key a
  |_=>exact aq h
 |_=>exact aq h
theorem A6{tg:Expr}{okI:Addr->Prop}{it l:Addr}{vs:Array Value}{ds:List D}:∀(i:Nat) (s:ab),s.heap.IsListIter it l i->dj s.heap l vs->okI l->it≠l->dC okI s.heap (vs.toList.drop i) ds->
  nH C (n+1) tg okI cx (.ref it) (λb=>b=it) ds s:=by
 induction ds with
 |nil=>
  intro i s hi hl ho hne r A s₁ R wd k
  refine jH hi λo e hc hd=>?_
  have e:=k.obj rfl e
  refine bR (wpAny_pyNext_list_end R.hh ⟨o,e,hc,hd⟩ (k.lst ho hl).isList (iP (jj (List.length_drop.symm.trans r.length))) λh' hx' hle hz=>⟨rfl,?_⟩)
  exact aH.ext (t:=s₁.toks) hx' hz e (λq=>nomatch hc.symm.trans q.1) rfl (ai _)
 |cons d ds ih=>
  intro i s hi hl ho hne r A s₁ R wd k
  refine jH hi λo e hc hd=>?_
  have e:=k.obj rfl e
  have hl':=k.lst ho hl
  refine xP ((k.rds r).uncons) λv vs' e' rv r'=>?_
  have hx:vs[i]? =some v:=by rw[<-a9,<-nU i,<-fc,e'];rfl
  refine bR (wpAny_pyNext_list_item ⟨o,e,hc,hd⟩ hl'.isList hx λh' hn' hs' hle hz=>⟨v,rfl,?_⟩)
  have g:aH (λb=>b=it) cx s₁ {s₁ with heap:=h'}:=aH.same (t:=s₁.toks) hs' e (λq=>nomatch hc.symm.trans q.1) rfl (ai _)
  have hk:∀a,okI a->(∃vs,dj s₁.heap a vs)->a≠it:=by rintro a _ ⟨ws,n,el⟩ q;exact absurd (hc.symm.trans (congrArg ii (ao (e.symm.trans (q▸el)))):qH "list_iterator"=.type "list") (by decide)
  refine jH hn' λo' ho2 hc2 hd2=>?_
  exact mU (c:="list_iterator") ho2 hc2 (by decide) ⟨rv.grow g hk,g,_,λb hb=>.inl hb,λb hb=>⟨o',by rw[hb];exact ho2,.of (by rw[hc2];decide)⟩,ih (i+1) _ ⟨o',ho2,hc2,hd2⟩ (hl'.at λob e=>(hs'.2 _ (Ne.symm hne)).trans e) ho hne
   (by rw[<-pC,e'];exact r'.grow g hk)⟩
theorem iJ.list{iter tg:Expr}{Q:List D->Lx->Prop}{fz:Bool}(h:Ev C (n+1) sc iter ρ lx λr lx1=>∃ds,r=(if fz then Va.dat (.list ds)else Va.bor (.list ds))/\Q ds lx1):iJ C (n+1) sc iter tg fz ρ lx Q:=λA env ok okb og μ s R E S=>
 h.go R E S λx s₁ r lx₁ q rv S1 sa g=>by
  refine a7 q λds e q=>?_
  have rd:Rd (oV fz ok okb) s₁.heap x (.list ds):=by cases fz<;>exact(e▸rv:RV ok okb lx₁ s₁.heap _ x)
  refine ml rd.list_inv λa vs hX=>?_;obtain rfl:=hX.1;refine wb hX λ_ ha hl rs=>?_
  have hlt:a < s₁.heap.objs.size:=let⟨_,e⟩:=hl;aC e
  refine wpAny_pyIter_list hl.isList ?_
  refine xh (({s₁ with heap:=s₁.heap.push {cls:=.type "list_iterator",data:=.fields #[.ref a,.int 0 0]}}:ab)) ?_;intro s₂ hs
  have g1:bG s₁ s₂:=hs▸bB
  have hi:s₂.heap.IsListIter s₁.heap.objs.size a 0:=hs▸⟨_,aB _ rfl,rfl,rfl⟩
  have up:∀{b},b < s₁.heap.objs.size->b < s₂.heap.objs.size:=λh=>ay h g1.size
  refine⟨ds,lx₁,λb=>b=s₁.heap.objs.size,cx,q,sa,S1.lxr.grow0 g1,g.trans0 g1,λb hb=>hb▸g.size,λb hb=>let⟨o,e,hc,_⟩:=hi;⟨o,hb▸e,.of (by rw[hc];decide)⟩,λ_ w=>w.elim,λA s₃ Q R k h=>?_,?_⟩
  ·refine jH hi λo e hc hd=>?_
   exact wpAny_pyIter_listiter (it:=s₁.heap.objs.size) (l:=a) (i:=0) ⟨o,k.obj rfl e,hc,hd⟩ h
  ·exact A6 0 _ hi (hl.at λob e=>g1.keep0 _ _ e) ⟨ha,up hlt⟩ (cq hlt) (by
    rw[lu]
    exact(rs.mono λb ⟨o,e⟩ hb=>⟨hb,up (aC e)⟩).grow0 g1)
noncomputable def zd(C:Cx)(n:Nat)(sc:Scope)(tg:Expr)(body:List Stmt):List D->List LV->Lx->(Fl->List LV->Lx->Prop)->Prop
 |[],ρ,lx,P=>P .nxt ρ lx
 |d::ds,ρ,lx,P=>∃ρ1,xM true sc.names tg d ρ ρ1/\nO C n sc body ρ1 lx λf ρ2 lx2=>match f with
   |.nxt=>zd C n sc tg body ds ρ2 lx2 P
   |.cont=>zd C n sc tg body ds ρ2 lx2 P
   |.brk=>P .nxt ρ2 lx2
   |.ret r=>P (.ret r) ρ2 lx2
theorem St.moveQ{ok okb:Addr->Prop}{env:Env}{og:Nat->List Addr}{μ:Str->Option Value}{pr:Addr->Prop}{pg:Nat->Prop}{s s':ab}(x:St C sc env ρ lx ok okb og μ s)
  (g:aH pr pg s s')(hL:∀b,okb b->(∃vs,dj s.heap b vs)->¬pr b)(hO:∀i b,b∈og i->¬pr b)(h:∀b,pr b->¬i8 env b/\¬LW lx b/\C.h₀.get? b=bc/\b≠C.tab):St C sc env ρ lx ok okb og μ s' where
 wd:=x.wd.grow g λb w=>(h b w).2.2
 okf:=x.okf.grow g
 sub:=x.sub
 len:=x.len
 ns:=by refine a7 x.ns λm n r=>?_;exact⟨m,Ns.at n λo=>g.heap _ o (λw=>(h _ w).1 (.inl rfl)),r⟩
 cell:=λy e=>by refine a7 (x.cell y e) λc e1 e2=>?_;exact⟨c,e1,IsCell.at e2 λo=>g.heap _ o (λw=>(h _ w).1 (.inr ⟨_,e1⟩))⟩
 cellx:=λy c e=>by refine cU (x.cellx y c e) λv e2=>?_;exact⟨v,IsCell.at e2 λo=>g.heap _ o (λw=>(h _ w).1 (.inr ⟨_,e⟩))⟩
 vars:=λi y k lv e1 e2=>jf.move g .refl (λa o l=>hL a (x.sub a o) l) hL (λ_ _ o=>o) (λ_ _ o=>o) (hO i) (x.vars i y k lv e1 e2)
 owns:=x.owns
 ownd:=x.ownd
 ownx:=x.ownx
 lxr:=x.lxr.part λb o l e=>g.heap b o (λw=>(h b w).2.1 l) e
 lxok:=x.lxok
 lxf:=x.lxf
 lx0:=x.lx0
 fr0:=x.fr0
theorem St.moveP{ok okb:Addr->Prop}{env:Env}{og:Nat->List Addr}{μ:Str->Option Value}{pr:Addr->Prop}{pg:Nat->Prop}{s s':ab}(x:St C sc env ρ lx ok okb og μ s)
  (g:aH pr pg s s')(hL:∀b vs,pr b->¬dj s.heap b vs)(h:∀b,pr b->ok b/\¬i8 env b/\¬LW lx b/\C.h₀.get? b=bc/\b≠C.tab):St C sc env ρ lx ok okb og μ s':=
 x.moveQ g (by rintro b _ ⟨vs,l⟩ w;exact hL b vs w l) (λi b m w=>(x.owns i b m).2.1 (h b w).1) λb w=>(h b w).2
theorem St.apart{ok okb:Addr->Prop}{env:Env}{og:Nat->List Addr}{μ:Str->Option Value}{s:ab}(S:St C sc env ρ lx ok okb og μ s){b:Addr}(hb:s.heap.objs.size<=b):
  ¬i8 env b/\¬LW lx b/\C.h₀.get? b=bc/\b≠C.tab:=by
 have nl:∀o,¬s.heap.get? b=some o:=λo e=>absurd (aC e) (Nat.not_lt.mpr hb)
 have ht:b≠C.tab:=λq=>by refine cU S.wd.tab λps e=>?_;exact nl _ (q▸e)
 refine⟨λw=>?_,λw=>?_,?_,ht⟩
 ·rcases w with rfl|⟨y,e⟩
  ·refine a7 S.ns λm hY0 _=>?_;refine I8 hY0 λo es ep h1 _=>?_;exact nl _ h1
  ·refine xQ (S.cellx y b e) λv o h1 _=>?_;exact nl _ h1
 ·refine cU (S.lxr.alive w) λo e=>?_;exact nl _ e
 ·cases q:C.h₀.get? b with
  |none=>rfl
  |some o=>exact absurd (S.wd.kept b o ht q) (nl o)
theorem kh.transP{ok okb ok' okb':Addr->Prop}{env:Env}{og og':Nat->List Addr}{lx lx':Lx}{pr:Addr->Prop}{pg:Nat->Prop}{s s' s₃:ab}(x:kh env lx lx' ok okb ok' okb' og og' s s')(g:aH pr pg s' s₃)(hp:∀b,pr b->s.heap.objs.size<=b)
  (hg:∀i,pg i->s.gens[i]? =bc):kh env lx lx' ok okb ok' okb' og og' s s₃:=
 ⟨x.sa,x.ok1,x.ok2,x.okb1,x.okb2,x.og1,x.g.trans g (λb w=>.inr (hp b w)) (λi w=>.inr (hg i w))⟩
def vU(Q:Flow->ab->Prop)(I:Nat->ab->Prop)(k:Nat)(f:Flow)(s:ab):Prop:=match f with
 |.next=>∃m,m < k/\I m s
 |.cont=>∃m,m < k/\I m s
 |.brk=>Q .next s
 |.ret v=>Q (.ret v) s
def Lj(C:Cx)(A:Around)(env:Env)(tg:Expr)(it:Value)(body:List Stmt)(Q:Flow->ab->Prop)(I:Nat->ab->Prop)(k:Nat)(r:Option Value)(s:ab):Prop:=match r with
 |none=>Q .next s
 |some v=>ar C.M A (cD tg it v) (λ_ s₁=>ar C.M A (s7 tg env v) (λ_ s₂=>ar C.M A (kj body env) (vU Q I k) bJ s₂) bJ s₁) bJ s
theorem xk{A:Around}{env:Env}{iter tg:Expr}{body:List Stmt}{pos:Pos}{s:ab}{Q:Flow->ab->Prop}(hs:∀x,ba iter env x=pure x)
  (h:ar C.M A (eval iter env) (λx s₁=>ar C.M A (sX x) (λit s₂=>∃I:Nat->ab->Prop,(∃k,I k s₂)/\∀k s',I k s'->ar C.M A (ew it) (Lj C A env tg it body Q I k) bJ s') bJ s₁) bJ s):ar C.M A (exec (.For tg iter body [] pos) env) Q bJ s:=
 wpAny_For (al h (λx s₁ h₁=>al h₁ (λit s₂ h₂=>by
  refine a7 h₂ λI hY0 ht=>?_;refine cU hY0 λk hk=>?_
  refine codeAny_forLoop_any I (λk s' hI=>al (ht k s' hI) (λr s₃ h₃=>?_) λ_ _ x=>x.elim) k hk
  cases r with
  |none=>exact iY h₃
  |some v=>
   refine al h₃ (λ_ s₄ h₄=>al h₄ (λ_ s₅ h₅=>al h₅ (λf s₆ h₆=>?_) λ_ _ x=>x.elim) λ_ _ x=>x.elim) λ_ _ x=>x.elim
   cases f<;>exact h₆) λ_ _ x=>x.elim) λ_ _ x=>x.elim) hs
inductive EN(C:Cx)(n:Nat)(sc:Scope)(env:Env)(tg:Expr)(body:List Stmt)(P:Fl->List LV->Lx->Prop)(okI:Addr->Prop)(pg:Nat->Prop)(it:Value)(lx:Lx)(ok okb:Addr->Prop)(og:Nat->List Addr)(s:ab)(z:Nat)(k:Nat)(s':ab):Prop where
 |mk (ds:List D) (ρ':List LV) (lx':Lx) (ok' okb':Addr->Prop) (og':Nat->List Addr) (μ':Str->Option Value) (pr':Addr->Prop) (len:k=ds.length) (q:zd C n sc tg body ds ρ' lx' P) (st:St C sc env ρ' lx' ok' okb' og' μ' s') (nb:cZ ρ') (c:kh env lx lx' ok okb ok' okb' og og' s s')
   (hI:∀a,okI a->ok' a) (hp:∀b,pr' b->s.heap.objs.size<=b/\ok' b) (hL:qU pr' s'.heap) (hz:z<=s'.heap.objs.size) (it:nH C n tg okI pg it pr' ds s')
theorem nH.draw{tg:Expr}{okI pr:Addr->Prop}{pg:Nat->Prop}{it:Value}{d:D}{ds:List D}{s:ab}{A:Around}{P:Option Value->ab->Prop}(h:nH C n tg okI pg it pr (d::ds) s)(R:bj n A)(wd:Wd C s)
  (k:∀v s₂,ar C.M A (cD tg it v) (λ_ s₃=>Rd okI s₃.heap v d/\aH pr pg s s₃/\∃pr',(∀b,pr' b->pr b\/s.heap.objs.size<=b)/\qU pr' s₃.heap/\nH C n tg okI pg it pr' ds s₃) bJ s₂->P (some v) s₂):ar C.M A (ew it) P bJ s:=
 al (h A s R wd .refl) (λr s₂ p=>by refine a7 p λv e q=>?_;exact e▸k v s₂ q) λ_ _ x=>x.elim
theorem FU{env:Env}{og og₆:Nat->List Addr}{lx' lx₆:Lx}{ok okb ok₆ okb₆ okI pr:Addr->Prop}{pg:Nat->Prop}{s₄ s₆:ab}{μ:Str->Option Value}(S:St C sc env ρ lx' ok okb og μ s₄)(c:kh env lx' lx₆ ok okb ok₆ okb₆ og og₆ s₄ s₆)(hI:∀a,okI a->ok a)
  (hp:∀b,pr b->ok b/\¬i8 env b/\¬LW lx' b):iw pr pg okI s₄ s₆:=⟨WS env og lx',c.g.mono (λ_ w=>.inl w) (λ_ w=>w.elim),λb w=>⟨λwp=>by
  rcases w with w|w|⟨i,m⟩
  ·exact(hp b wp).2.2 (cC w)
  ·exact(hp b wp).2.1 w
  ·exact(S.owns i b m).2.1 (hp b wp).1,λo vs l=>by
  rcases w with w|w|⟨i,m⟩
  ·exact S.lxok b (S.sub b (hI b o)) (cC w)
  ·exact S.nolist b w vs l
  ·exact(S.owns i b m).2.1 (hI b o)⟩⟩
theorem gT.for{iter tg:Expr}{body:List Stmt}{pos:Pos}{P:Fl->List LV->Lx->Prop}(h:iJ C n sc iter tg true ρ lx λds lx1=>zd C n sc tg body ds ρ lx1 P)
  (hs:∀env x,ba iter env x=pure x):gT C n sc (.For tg iter body [] pos) ρ lx P:=λA env ok okb og μ s R E S B=>by
 refine xk (hs env) (al (h A env ok okb og μ s R E S) (λx s₁ h₁=>al h₁ (λit s₂ h₂=>?_) λ_ _ x=>x.elim) λ_ _ x=>x.elim)
 refine nG λkG=>?_;obtain⟨ds,lx1,pr,pg,q,sa,l,g,hpr,hL,hpg,hself,hit⟩:=h₂
 refine kG ?_
 refine⟨EN C n sc env tg body P (λa=>oV true ok okb a/\a < s₂.heap.objs.size) pg it lx ok okb og s s₂.heap.objs.size,
  ⟨ds.length,ds,ρ,lx1,ok,okb,og,μ,pr,rfl,q,S.grow g sa l,B,.of_grow g sa,λa o=>o.1,λb w=>⟨hpr b w,S.okf b (hpr b w)⟩,hL,ai _,hit⟩,?_⟩
 clear q hit hself hL hpr g l sa lx1 pr ds
 intro k s' h'
 refine nG λkG=>?_;obtain⟨ds,ρ',lx',ok',okb',og',μ',pr',rfl,q,S',B',c,hI,hp,hL,hz,hit⟩:=h'
 refine kG ?_
 have hmv:∀b,pr' b->ok' b/\¬i8 env b/\¬LW lx' b/\C.h₀.get? b=bc/\b≠C.tab:=λb w=>⟨(hp b w).2,c.sa.LW▸S.apart (hp b w).1⟩
 cases ds with
 |nil=>exact al (hit A s' R S'.wd .refl) (λr s₃ h₃=>h₃.1▸.at (f:=.nxt) q trivial (S'.moveP h₃.2 (λ_ _ w l=>hL.no w l) hmv) B' (c.transP h₃.2 (λb w=>(hp b w).1) hpg)) λ_ _ x=>x
 |cons d ds=>
  refine hit.draw R S'.wd λv s₃ h₃=>al h₃ (λ_ s₄ h₄=>?_) λ_ _ x=>x
  refine nG λkG=>?_;obtain⟨rv,g,pr'',hp'',hL'',hit'⟩:=h₄
  refine a7 q λρ1 a q=>?_
  refine kG ?_
  have S4:=S'.moveP g (λ_ _ w l=>hL.no w l) hmv
  refine rt (fz:=true) R.hh E S4 a (rv.mono λa _ o=>hI a o) (λq=>nomatch q) λs₅ h₅=>?_
  refine nG λkG=>?_;obtain⟨og₅,μ₅,S5,B5,_,c5,g5⟩:=h₅
  refine kG ?_
  refine al (q A env ok' okb' og₅ μ₅ s₅ R E S5 (B5 rfl B')) (λfl s₆ h₆=>?_) λ_ _ x=>x
  refine nG λkG=>?_;obtain⟨f,ρ₆,lx₆,ok₆,okb₆,og₆,μ₆,q6,fr,S6,B6,c6⟩:=h₆
  refine kG ?_
  have c56:kh env lx' lx₆ ok' okb' ok₆ okb₆ og' og₆ s₄ s₆:=.trans (.of_asg g5 c5) c6
  have cAll:=(c.transP g (λb w=>(hp b w).1) hpg).trans c56
  have go:zd C n sc tg body ds ρ₆ lx₆ P->EN C n sc env tg body P (λa=>oV true ok okb a/\a < s₂.heap.objs.size) pg it lx ok okb og s s₂.heap.objs.size ds.length s₆:=λq=>
   have hz4:s₂.heap.objs.size<=s₄.heap.objs.size:=ah hz g.size
   have hp4:∀b,pr'' b->s.heap.objs.size<=b/\ok' b:=λb w=>(hp'' b w).elim (hp b) λe=>⟨ah c.g.size e,S'.okf b e⟩
   have kp:=FU (pg:=pg) S4 c56 hI λb w=>⟨(hp4 b w).2,let ap:=S.apart (hp4 b w).1;⟨ap.1,c.sa.LW▸ap.2.1⟩⟩
   ⟨ds,ρ₆,lx₆,ok₆,okb₆,og₆,μ₆,pr'',rfl,q,S6,B6,cAll,λa o=>c56.ok2 a (ay o.2 hz4) (hI a o),λb w=>⟨(hp4 b w).1,c56.ok2 b (by refine nG λkG=>?_;obtain⟨_,e,_⟩:=hL'' b w;refine kG ?_;exact aC e) (hp4 b w).2⟩,
    kp.notL hL'',ah hz4 c56.g.size,hit'.kept kp⟩
  cases f with
  |nxt=>obtain rfl:=fr.nxt;exact⟨_,bC _,go q6⟩
  |cont=>obtain rfl:=fr.cont;exact⟨_,bC _,go q6⟩
  |brk=>obtain rfl:=fr.brk;exact .at (f:=.nxt) q6 trivial S6 B6 cAll
  |ret r=>refine nG λkG=>?_;obtain⟨v,rfl,rv⟩:=fr.ret;refine kG ?_;exact .at (f:=.ret r) q6 rv S6 B6 cAll
end
section
variable{C:Cx}{n:Nat}{sc:Scope}{ρ:List LV}{lx:Lx}
theorem iw.of_grow{pr:Addr->Prop}{pg:Nat->Prop}{okI:Addr->Prop}{s s₁:ab}(g:bG s s₁):iw pr pg okI s s₁:=⟨xN,g.mono (λ_ w=>.inl w) (λ_ w=>w.elim),λ_ w=>w.elim⟩
def za(h:Heap)(b:Addr):Prop:=∃o,h.get? b=some o/\o.cls≠ .type "list"/\o.cls≠ .type "tuple"
theorem za.lst{h:Heap}{b:Addr}{vs:Array Value}(x:za h b)(l:dj h b vs):False:=by refine jH x λ_ e q _=>?_;exact by refine cU l λ_ e'=>?_;exact q (congrArg ii (ao (e.symm.trans e')))
section
variable{tg:Expr}{okI:Addr->Prop}{I:Addr}{fp wr:List Addr}{N:Nat}{P:Nat->Value->Prop}{G:Nat->Heap->Prop}
structure qk(C:Cx)(okI:Addr->Prop)(I:Addr)(fp wr:List Addr)(N:Nat)(P:Nat->Value->Prop)(G:Nat->Heap->Prop):Prop where
 W:∀A:Around,A.handled=none->Walks C.prog C.w A I fp wr N P G
 w:∀i h,G i h->∀b∈wr,za h b
 f:∀i h,G i h->∀b∈fp,b∈wr\/(okI b/\∃vs,dj h b vs)
theorem qk.move(X:qk C okI I fp wr N P G){A:Around}(hA:A.handled=none){i:Nat}{s s₁:ab}(g:G i s.heap)(k:iw (λb=>b∈wr) cx okI s s₁):G i s₁.heap:=(X.W A hA).frame i _ _ g λb hb o e=>
 (X.f i _ g b hb).elim (λh=>k.obj h e) λ⟨h,vs,l⟩=>let⟨Wr,gr,hk⟩:=k;gr.heap b o (λw=>(hk b w).2 h _ l) e
theorem qk.gr(X:qk C okI I fp wr N P G){i:Nat}{s₁:ab}{h':Heap}{tk:Nat}(g1:G i s₁.heap)(ht:s₁.toks<=tk)(hz:s₁.heap.objs.size<=h'.objs.size)(hk:∀b o,b ∉ wr->s₁.heap.get? b=some o->h'.get? b=some o):aH (λb=>b∈wr) cx s₁ {s₁ with heap:=h',toks:=tk}:=
 ⟨λb o hb e=>hk b o hb e,λb o hc _ e=>hk b o (λhb=>by refine jH (X.w i _ g1 b hb) λ_ e' _ q=>?_;exact q ((congrArg ii (ao (e'.symm.trans e))).trans hc)) e,hz,λ_ _ _ e=>e,ai _,λx=>x,rfl,ht⟩
theorem yD(X:qk C okI I fp wr N P G)(hgo:∀(A:Around) (v:Value) (s:ab) (i:Nat) (Q:Unit->ab->Prop),G i s.heap->Q () s->ar C.M A (cD tg (.ref I) v) Q bJ s)
  {ds:List D}:∀(i:Nat) (s:ab),i+ds.length=N->G i s.heap->(∀j d,ds[j]? =some d->∀v,P (i+j) v->Rd okI s.heap v d)->nH C n tg okI cx (.ref I) (λb=>b∈wr) ds s:=by
 induction ds with
 |nil=>exact λi s e g hv A s₁ R wd k=>bR ((X.W A R.hh).done s₁ _ _ (e▸X.move R.hh g k) λh' tk hk ht hz=>⟨rfl,X.gr (X.move R.hh g k) ht hz hk⟩)
 |cons d ds ih=>
  intro i s e g hv A s₁ R wd k
  have g1:=X.move R.hh g k
  have e:i+1+ds.length=N:=(lg i 1 _).trans e
  refine bR ((X.W A R.hh).item i s₁ _ _ (e▸ay (bC i) (aF _ _)) g1 λv h' tk pv g2 hk ht hz=>⟨v,rfl,?_⟩)
  have gg:=X.gr g1 ht hz hk
  have mvr:∀{v d},Rd okI s.heap v d->Rd okI h' v d:=λr=>Rd.grow (by obtain⟨_,gr,hk⟩:=k;exact r.grow gr λa o l w=>(hk a w).2 o _ l.choose_spec) gg λa _ l hb=>(X.w i _ g1 a hb).lst l.choose_spec
  exact hgo A v _ (i+1) _ g2 ⟨mvr (hv 0 d rfl v pv),gg,_,λb hb=>.inl hb,λb hb=>by obtain⟨o,hX⟩:=X.w _ _ g2 b hb;refine(λe q _=>?_) hX.1 hX.2.1 hX.2.2;exact⟨o,e,.of q⟩,ih (i+1) _ e g2 λj d' e v pv=>mvr (hv (j+1) d' e v (by rw[<-hF,lg];exact pv))⟩
theorem rF{tg:Expr}{A:Around}{Q:List D->Lx->Prop}{ok okb:Addr->Prop}{s s₁ s₂:ab}{lx₁:Lx}{fz:Bool}{ds:List D}(X:∀okI:Addr->Prop,qk C okI I [I] [I] N P G)(hgo:∀(A:Around) (v:Value) (s:ab) (i:Nat) (Q:Unit->ab->Prop),G i s.heap->Q () s->ar C.M A (cD tg (.ref I) v) Q bJ s)
  (q:Q ds lx₁)(sa:bV lx lx₁)(l:nN C lx₁ s₁.heap)(g:aH (W lx) cx s s₁)(g1:bG s₁ s₂)(hI:s₁.heap.objs.size<=I)(hN:ds.length=N)(g0:G 0 s₂.heap)(hv:∀(ok:Addr->Prop) j d,ds[j]? =some d->∀v,P j v->Rd ok s₂.heap v d):sS C n tg fz ok okb lx s Q (.ref I) s₂:=by
 have X:=X λa=>oV fz ok okb a/\a < s₂.heap.objs.size
 refine⟨ds,lx₁,λb=>b∈[I],cx,q,sa,l.grow0 g1,g.trans0 g1,λb hb=>List.mem_singleton.mp hb▸ah g.size hI,λb hb=>by refine jH (X.w 0 _ g0 b hb) λo e q _=>?_;exact⟨o,e,.of q⟩,λ_ w=>w.elim,λA s₁ Q R k h=>(X.W A R.hh).self 0 s₁ Q _ (X.move R.hh g0 k) h,?_⟩
 exact yD X hgo 0 _ ((cE _).trans hN) g0 λj d e v pv=>hv _ j d e v (cE j▸pv)
end
theorem Dx{tg:Expr}{it:Addr}{c:String}{G:Nat->Heap->Prop}(hG:∀i h,G i h->∃o,h.get? it=some o/\o.cls=.type c)(hn:rg.contains c=false)(A:Around)(v:Value)(s:ab)(i:Nat)(Q:Unit->ab->Prop)(g:G i s.heap)(h:Q () s):
  ar C.M A (cD tg (.ref it) v) Q bJ s:=by refine a7 (hG i _ g) λ_ e hc=>?_;exact mU e hc hn h
noncomputable def zm(x:Str):List D:=x.cps.toList.map λc=>.str ⟨#[c]⟩
theorem Cj{tg:Expr}{Q:List D->Lx->Prop}{ok okb:Addr->Prop}{s s₁:ab}{lx₁:Lx}{fz:Bool}{y:Str}{t:Tok}{ty:String}(h1:rg.contains ty=false)(h2:ty≠"list")(h3:ty≠"tuple")
  (hW:∀A':Around,A'.handled=none->Walks C.prog C.w A' s₁.heap.objs.size [s₁.heap.objs.size] [s₁.heap.objs.size] y.cps.size (SignAt y) λi h=>h.IsStrIter s₁.heap.objs.size ty y t i)(q:Q (zm y) lx₁)(sa:bV lx lx₁)(l:nN C lx₁ s₁.heap)(g:aH (W lx) cx s s₁):
  sS C (n+1) tg fz ok okb lx s Q (.ref s₁.heap.objs.size) {s₁ with heap:=s₁.heap.push {cls:=.type ty,data:=.fields #[.str y t,.int 0 0]}}:=
 rF (A:=⟨none,0,none,none,0⟩) (λokI=>⟨hW,λi h g b hb=>by refine jH g λo e1 e2 _=>?_;exact⟨o,List.mem_singleton.mp hb▸e1,λq=>h2 (Value.type.inj (e2.symm.trans q)),λq=>h3 (Value.type.inj (e2.symm.trans q))⟩,λ_ _ _ b hb=>.inl hb⟩)
  (Dx (G:=λi h=>h.IsStrIter s₁.heap.objs.size ty y t i) (c:=ty) (λi h g=>by refine jH g λo e1 e2 _=>?_;exact⟨o,e1,e2⟩) h1) q sa l g bB (ai _) ((af ..).trans cA) ⟨_,aB _ rfl,rfl,rfl⟩ λok j d e v pv=>by
   refine nG λkG=>?_;obtain⟨c,u,e1,rfl⟩:=pv
   refine kG ?_
   unfold zm at e
   rw[aW,a9,e1]at e
   exact ao e▸Rd.str
theorem iJ.str{iter tg:Expr}{Q:List D->Lx->Prop}{fz:Bool}(h:Ev C (n+1) sc iter ρ lx λr lx1=>∃x,r=.dat (.str x)/\Q (zm x) lx1):iJ C (n+1) sc iter tg fz ρ lx Q:=λA env ok okb og μ s R E S=>by
 refine h.go R E S λx s₁ r lx₁ q rv S1 sa g=>?_
 refine nG λkG=>?_;obtain⟨y,rfl,q⟩:=q
 obtain⟨t,rfl⟩:=Rd.str_inv rv
 refine kG ?_
 cases ha:y.cps.all (· < 128)with
 |false=>exact wpAny_pyIter_wide ha (Cj (by decide) (by decide) (by decide) (λA' hA=>Walks.strWide hA _ y t) q sa S1.lxr g)
 |true=>exact wpAny_pyIter_ascii ha (Cj (by decide) (by decide) (by decide) (λA' hA=>Walks.strAscii hA _ y t) q sa S1.lxr g)
noncomputable def n6(a b c:Int):List D:=(aM (aV a b c).toNat).map λ(i:Nat)=>.int (a+(i:Int) * c)
theorem CG{A:Around}{tg:Expr}{Q:List D->Lx->Prop}{ok okb:Addr->Prop}{s s₁:ab}{lx₁:Lx}{a b c:Int}{r:Addr}{t u v:Tok}{fz:Bool}(q:Q (n6 a b c) lx₁)(sa:bV lx lx₁)(l:nN C lx₁ s₁.heap)(g:aH (W lx) cx s s₁)
  (hr:IsRange s₁.heap r a b c t u v)(hs:dp a b c=true)(hz:0<=aV a b c):ar C.M A (sX (.ref r)) (sS C n tg fz ok okb lx s Q) bJ s₁:=
 wpAny_pyIter_range hr hs (rF (A:=A) (N:=(aV a b c).toNat) (λokI=>⟨λA' hA=>Walks.range hA s₁.heap.objs.size a c _,λi h g b hb=>⟨_,List.mem_singleton.mp hb▸g,by dsimp only;decide,by dsimp only;decide⟩,λ_ _ _ b hb=>.inl hb⟩)
  (Dx (c:="range_iterator") (λi h g=>⟨_,g,rfl⟩) (by decide)) q sa l g bB (ai _) ((af ..).trans bL) (by
   show IsRangeIter _ _ _ _ _
   rw[show a+((0:Nat):Int) * c=a by simp,show(((aV a b c).toNat:Nat):Int) - ((0:Nat):Int)=aV a b c by simp;exact Int.max_eq_left hz]
   exact aB s₁.heap (o:={cls:=.type "range_iterator",data:=.fields #[rawInt a,rawInt (aV a b c),rawInt c]}) rfl) λok j d e v pv=>by
   obtain⟨t,rfl⟩:=pv
   refine a7 (aW .. ▸e|> Option.map_eq_some_iff.mp) λi e1 e2=>?_
   refine cU (List.getElem?_eq_some_iff.mp e1) λhj e3=>?_
   rw[<-e2,<-e3,List.getElem_range]
   exact Rd.int)
theorem iJ.range{p pos:Pos}{tg:Expr}{e:Expr}{es:List Expr}{fz:Bool}{Q:List D->Lx->Prop}(k:dk C)(hx:nF sc.names "range" .globalImplicit)(hv:Gb C "range" (.type "range"))
  (h:qX C n sc (e::es) ρ lx λrs lx1=>∃a b c:Int,(rs=[.dat (.int b)]/\a=0/\c=1\/rs=[.dat (.int a),.dat (.int b)]/\c=1\/rs=[.dat (.int a),.dat (.int b),.dat (.int c)]/\c≠0/\fY (b - a) c=false)/\
   dp a b c=true/\0<=aV a b c/\Q (n6 a b c) lx1)(hs:bt (e::es)=true):iJ C n sc (.Call (.Name "range" p) (e::es) [] pos) tg fz ρ lx Q:=λA env ok okb og μ s R E S=>by
 refine rq k hx hv .type h hs (by decide+kernel) R E S λvs s₁ rs lx₁ q rv S1 sa g=>?_
 refine Kx q λa b c hrs hsm hz q=>?_
 have fin:∀{s₂ r t u v},bG s₁ s₂->IsRange s₂.heap r a b c t u v->ar C.M A (sX (.ref r)) (sS C n tg fz ok okb lx s Q) bJ s₂:=λg1 hr=>CG q sa (S1.lxr.grow0 g1) (g.trans0 g1) hr hsm hz
 rcases hrs with⟨rfl,rfl,rfl⟩|⟨rfl,rfl⟩|⟨rfl,hc,hpy⟩
 ·obtain⟨v,rfl,rv1⟩:=jq rv
  obtain⟨t,rfl⟩:=Rd.int_inv rv1
  exact call_range_1 (fin (.push (aF _ 2)) (IsRange.new ..))
 ·obtain⟨v,v',rfl,rv,rv'⟩:=pG rv
  obtain⟨t,rfl⟩:=Rd.int_inv rv
  obtain⟨t',rfl⟩:=Rd.int_inv rv'
  exact call_range_2 (fin (.push (a8 _)) (IsRange.new ..))
 ·obtain⟨v,m,rfl,rv0,rv⟩:=gP rv rfl
  obtain⟨v',v'',rfl,rv',rv''⟩:=pG rv
  obtain⟨t,rfl⟩:=Rd.int_inv rv0
  obtain⟨t',rfl⟩:=Rd.int_inv rv'
  obtain⟨t'',rfl⟩:=Rd.int_inv rv''
  exact call_range_3 hc (fin (.push (t:=s₁.toks) (ai _)) (IsRange.new ..)) (.inl hpy)
noncomputable def qy(ds:List D):List D:=ds.zipIdx.map λ(d,i)=>.tuple [.int (i:Nat),d]
theorem ut{e it:Addr}{i:Nat}{l:Addr}{old:Value}{s₁:ab}{h'':Heap}{tk:Nat}(he:oK s₁.heap e it i old)(hi:∃o,s₁.heap.get? it=some o/\o.cls≠ .type "list"/\o.cls≠ .type "tuple")(hz:s₁.heap.objs.size<=h''.objs.size)(ht:s₁.toks<=tk)
  (hk:∀b o,b≠e->b≠it->s₁.heap.get? b=some o->h''.get? b=some o):(∀b,(b=e\/b=it)->za s₁.heap b)/\aH (λb=>b=e\/b=it) cx s₁ {s₁ with heap:=h'',toks:=tk}:=by
 have ntl:∀b,(b=e\/b=it)->za s₁.heap b:=λb hb=>hb.elim (λq=>q▸⟨_,he,by dsimp only;decide,by dsimp only;decide⟩) λq=>q▸hi
 exact⟨ntl,λb o hb x=>hk b o (λq=>hb (.inl q)) (λq=>hb (.inr q)) x,λb o hc' _ x=>
  have no:¬(b=e\/b=it):=λq=>by refine jH (ntl b q) λ_ x' _ q=>?_;exact q ((congrArg ii (ao (x'.symm.trans x))).trans hc')
  hk b o (λq=>no (.inl q)) (λq=>no (.inr q)) x,hz,λ_ _ _ e=>e,ai _,λx=>x,rfl,ht⟩
theorem pV{h:Heap}{it l:Addr}{i:Nat}(hi:h.IsListIter it l i):za h it:=by refine jH hi λo e hc _=>?_;exact⟨o,e,by rw[hc];decide,by rw[hc];decide⟩
theorem A7{elts:List Expr}{x1:Nat}{tp:Pos}{okI:Addr->Prop}{e it l:Addr}{vs:Array Value}(hei:e≠it)(hle:l≠e)(hli:l≠it)(ho:okI l){ds:List D}:∀(i:Nat) (old:Value) (s:ab),oK s.heap e it i old->s.heap.IsListIter it l i->dj s.heap l vs->dC okI s.heap (vs.toList.drop i) ds->
  nH C (n+1) (.Tuple elts x1 tp) okI cx (.ref e) (λb=>b=e\/b=it) ((ds.zipIdx i).map λ(d,i)=>.tuple [.int (i:Nat),d]) s:=by
 induction ds with
 |nil=>
  intro i old s he hi hl r A s₁ R wd k
  refine jH hi λo e1 hc hd=>?_
  have e1:=k.obj (.inr rfl) e1
  refine bR (wpAny_pyNext_enum_end R.hh (k.obj (.inl rfl) he) ⟨o,e1,hc,hd⟩ (k.lst ho hl).isList (iP (jj (List.length_drop.symm.trans r.length))) λh' hx' hle hz=>⟨rfl,?_⟩)
  exact aH.ext (t:=s₁.toks) hx' hz e1 (λq=>nomatch hc.symm.trans q.1) (.inr rfl) (ai _)
 |cons d ds ih=>
  intro i old s he hi hl r A s₁ R wd k
  have he':oK s₁.heap e it i old:=k.obj (.inl rfl) he
  have hi':s₁.heap.IsListIter it l i:=by refine a7 hi λo e q=>?_;exact⟨o,k.obj (.inr rfl) e,q⟩
  have hl':=k.lst ho hl
  refine xP ((k.rds r).uncons) λv vs' e0 rv r'=>?_
  have hx:vs[i]? =some v:=by rw[<-a9,<-nU i,<-fc,e0];rfl
  refine wpAny_pyNext_enum_item he' hi' hl'.isList hx hei λh' ho' hit' hT hz hk=>⟨_,rfl,wpAny_letOwnedTupleGo_enum ho' λh'' he'' hs''=>?_⟩
  have hkk:∀b o,b≠e->b≠it->s₁.heap.get? b=some o->h''.get? b=some o:=λb o q1 q2 x=>(hs''.2 b q1).trans (hk b o q1 q2 x)
  refine en (ut (l:=l) he' (pV hi') (by rw[hs''.1,hz];exact a8 _) (a8 _) hkk) λntl g=>?_
  have nl:∀a,okI a->(∃vs,dj s₁.heap a vs)->¬(a=e\/a=it):=λa _ l hb=>(ntl a hb).lst l.choose_spec
  have hi'':h''.IsListIter it l (i+1):=by refine a7 hit' λo x q=>?_;exact⟨o,(hs''.2 _ hei.symm).trans x,q⟩
  refine⟨Rd.tuple ⟨_,(hs''.2 _ (cq (aC he'))).trans hT,rfl,_,rfl⟩ (.cons Rd.int (.cons (rv.grow g nl) .nil)),g,_,λb hb=>.inl hb,λb hb=>hb.elim (λq=>q▸⟨_,he'',.of (by dsimp only;decide)⟩) λq=>q▸by refine jH (pV hi'') λo x q _=>?_;exact⟨o,x,.of q⟩,?_⟩
  exact ih (i+1) _ _ he'' hi'' (hl'.at λob x=>hkk _ ob hle hli x) (by rw[<-pC,e0];exact r'.grow g nl)
theorem iJ.enum{p pos:Pos}{elts:List Expr}{x1:Nat}{tp:Pos}{e:Expr}{fz:Bool}{Q:List D->Lx->Prop}(k:dk C)(hx:nF sc.names "enumerate" .globalImplicit)(hv:Gb C "enumerate" (.type "enumerate"))
  (h:Ev C (n+1) sc e ρ lx λr lx1=>∃ds,r=(if fz then Va.dat (.list ds)else Va.bor (.list ds))/\Q (qy ds) lx1)(hs:bt [e]=true):iJ C (n+1) sc (.Call (.Name "enumerate" p) [e] [] pos) (.Tuple elts x1 tp) fz ρ lx Q:=λA env ok okb og μ s R E S=>by
 have h':qX C (n+1) sc [e] ρ lx λrs lx1=>∃ds,rs=[if fz then Va.dat (.list ds)else Va.bor (.list ds)]/\Q (qy ds) lx1:=Ev.mono h λr l ⟨ds,e,q⟩=>⟨ds,by rw[e],q⟩
 refine rq k hx hv .type h' hs (by decide+kernel) R E S λvs s₁ rs lx₁ q rv S1 sa g=>?_
 refine cU q λds hX=>?_;obtain rfl:=hX.1;refine(λq=>?_) hX.2
 refine cU (jq rv) λv hX=>?_;obtain rfl:=hX.1;refine(λrv1=>?_) hX.2
 have rd:Rd (oV fz ok okb) s₁.heap v (.list ds):=by cases fz<;>exact rv1
 refine ml rd.list_inv λa vs hX=>?_;obtain rfl:=hX.1;refine wb hX λ_ ha hl rs=>?_
 have hlt:a < s₁.heap.objs.size:=let⟨_,e⟩:=hl;aC e
 refine call_enumerate_list hl.isList λh' he hi hz hk=>xU he ?_
 have g1:bG s₁ {s₁ with heap:=h'}:=.of_keep (t:=s₁.toks) (ai _) (hz▸aF _ 2) hk
 have up:∀{b},b < s₁.heap.objs.size->b < h'.objs.size:=λq=>ay q g1.size
 refine⟨qy ds,lx₁,λb=>b=s₁.heap.objs.size+1\/b=s₁.heap.objs.size,cx,q,sa,S1.lxr.grow0 g1,g.trans0 g1,λb hb=>hb.elim (λq=>q▸cm g.size) λq=>q▸g.size,
  λb hb=>hb.elim (λq=>q▸⟨_,he,.of (by dsimp only;decide)⟩) λq=>q▸let⟨o,x,q,_⟩:=pV hi;⟨o,x,.of q⟩,λ_ w=>w.elim,λA s₂ Q R k h=>xU (k.obj (.inl rfl) he) h,?_⟩
 exact A7 (eR _) (aK (iN hlt)) (aK hlt) ⟨ha,up hlt⟩ 0 .none _ he hi (hl.at λo x=>hk _ _ x) (by
  rw[lu]
  exact(rs.mono λb ⟨o,e⟩ hb=>⟨hb,up (aC e)⟩).grow0 g1)
end
noncomputable def KQ(C:Cx)(n:Nat)(sc:Scope)(ρ:List LV):List Expr->Lx->(Bool->Lx->Prop)->Prop
 |[],lx,Q=>Q true lx
 |c::cs,lx,Q=>jI C n sc c ρ lx λb lx1=>if b=true then KQ C n sc ρ cs lx1 Q else Q false lx1
abbrev CP:=List D->List LV->Lx->Prop
noncomputable def kU(C:Cx)(n:Nat)(sc:Scope)(emit:List D->List LV->Lx->CP->Prop)(fz:Bool)(tg:Expr)(ifs:List Expr):List D->List D->List LV->Lx->CP->Prop
 |[],out,ρ,lx,P=>P out ρ lx
 |d::ds,out,ρ,lx,P=>∃ρ1,xM fz sc.names tg d ρ ρ1/\KQ C n sc ρ1 ifs lx λb lx1=>if b=true then emit out ρ1 lx1 λout' ρ' lx'=>kU C n sc emit fz tg ifs ds out' ρ' lx' P else kU C n sc emit fz tg ifs ds out ρ1 lx1 P
def qE(C:Cx)(n:Nat)(sc:Scope)(elt:Expr)(out:List D)(ρ:List LV)(lx:Lx)(P:CP):Prop:=
 Ev C n sc elt ρ lx λr lx1=>∃d,r=.dat d/\out.length<=sizeLine/\P (out++[d]) ρ lx1
def Ah(C:Cx)(n:Nat)(sc:Scope)(iter tg:Expr)(ifs:List Expr)(elt:Expr)(out:List D)(ρ:List LV)(lx:Lx)(P:CP):Prop:=
 ∃fz,iJ C n sc iter tg fz ρ lx λds lx1=>kU C n sc (qE C n sc elt) fz tg ifs ds out ρ lx1 P
structure fA(C:Cx)(sc:Scope)(env:Env)(D:Addr)(lx₀:Lx)(ok okb:Addr->Prop)(out:List Mine.D)(ρ:List LV)(lx:Lx)(s:ab):Prop where
 sa:bV lx₀ lx
 st:∃μ,St C sc env ρ lx ok okb (λ_=>[]) μ s
 acc:∃ys,dj s.heap D ys/\dC ok s.heap ys.toList out
 nok:¬okb D
 nfr:¬i8 env D
 nlx:¬LW lx₀ D
 n0:C.h₀.get? D=none/\D≠C.tab
section
variable{C:Cx}{n:Nat}{sc:Scope}{ρ:List LV}{lx:Lx}
def WC(lx₀:Lx)(D:Addr)(env:Env)(xs:List Str)(b:Addr):Prop:=W lx₀ b\/b=D\/GR env xs b
theorem FZ{env:Env}(l:List Expr):(forIn l false λc r=>if r=true then do let ok <-mh c env (eval c env);pure (cO ok)else pure (cO r))=(pure false:Sem Bool):=by
 induction l with
 |nil=>rfl
 |cons a r ih=>exact(cN ..).trans ih
theorem zH{A:Around}{env:Env}{ok okb:Addr->Prop}{og:Nat->List Addr}{μ:Str->Option Value}{Q:Bool->Lx->Prop}(R:bj n A)(E:aY sc env)(ifs:List Expr):∀(lx:Lx) (s:ab),St C sc env ρ lx ok okb og μ s->KQ C n sc ρ ifs lx Q->
  ar C.M A (forIn ifs true λc r=>if r=true then do let ok <-mh c env (eval c env);pure (cO ok)else pure (cO r)) (gi C lx s Q) bJ s:=by
 induction ifs with
 |nil=>exact λlx s S h=>aq (.of0 h S.lxr .refl)
 |cons c cs ih=>
  intro lx s S h
  rw[cN]
  refine aa (aa (jI.go h R E S λb s₁ lx₁ q S1 sa g=>aq ?_))
  cases b with
  |true=>exact al (ih lx₁ s₁ S1 q) (λb s₂ p=>.then g sa p) λ_ _ x=>x
  |false=>dsimp only;rw[FZ];exact aq ⟨lx₁,q,sa,S1.lxr,g⟩
theorem fA.moveP{env:Env}{Da:Addr}{lx₀:Lx}{ok okb:Addr->Prop}{out:List D}{s s':ab}{pr:Addr->Prop}{pg:Nat->Prop}(x:fA C sc env Da lx₀ ok okb out ρ lx s)(g:aH pr pg s s')(hL:qU pr s.heap)
  (h:∀b,pr b->ok b/\¬i8 env b/\¬LW lx b/\C.h₀.get? b=bc/\b≠C.tab):fA C sc env Da lx₀ ok okb out ρ lx s' where
 sa:=x.sa
 st:=by refine cU x.st λμ S=>?_;exact⟨μ,S.moveP g (λ_ _ w l=>hL.no w l) h⟩
 acc:=by refine a7 x.acc λys l r=>?_;exact⟨ys,dj.grow g (λw=>hL.no w l) l,r.grow g λa _ l w=>hL.no w l.choose_spec⟩
 nok:=x.nok
 nfr:=x.nfr
 nlx:=x.nlx
 n0:=x.n0
theorem fA.grow{env:Env}{Da:Addr}{lx₀ lx':Lx}{ok okb:Addr->Prop}{out:List D}{s s':ab}(x:fA C sc env Da lx₀ ok okb out ρ lx s)(g:aH (W lx) cx s s')(sa:bV lx lx')(l:nN C lx' s'.heap):fA C sc env Da lx₀ ok okb out ρ lx' s' where
 sa:=x.sa.trans sa
 st:=by refine cU x.st λμ S=>?_;exact⟨μ,S.grow g sa l⟩
 acc:=by refine a7 x.acc λys l r=>?_;exact⟨ys,dj.grow g (λw=>x.nlx (x.sa.LW▸cC w)) l,r.grow g λa o l w=>by refine cU x.st λμ S=>?_;exact S.lxok a (S.sub a o) (cC w)⟩
 nok:=x.nok
 nfr:=x.nfr
 nlx:=x.nlx
 n0:=x.n0
theorem fA.lxr{env:Env}{Da:Addr}{lx₀:Lx}{ok okb:Addr->Prop}{out:List D}{s:ab}(x:fA C sc env Da lx₀ ok okb out ρ lx s):nN C lx s.heap:=by refine cU x.st λ_ S=>?_;exact S.lxr
def fe(p:Pos)(tg:Expr)(ifs:List Expr)(t:Sem Fin)(env:Env)(it:Value)(c:Code):Sem Fin:=do
   tM p
   match <-ew it with
   |bc=>pure (.done .next)
   |some v=>
    cD tg it v
    s7 tg env v
    let mut ok:=true
    for c in ifs do
     if ok then ok <-mh c env (eval c env)
    if ok then t else again c
structure LC(C:Cx)(env:Env)(lx₀:Lx)(D:Addr)(ok okb:Addr->Prop)(pr:Addr->Prop)(pg:Nat->Prop)(s₀ s:ab):Prop where
 old:∀b,pr b->s₀.heap.objs.size<=b
 off:∀b,pr b->ok b/\¬i8 env b/\¬LW lx₀ b/\C.h₀.get? b=bc/\b≠C.tab
 notL:qU pr s.heap
 gen:∀i,pg i->s₀.gens[i]? =bc
inductive EP(C:Cx)(sc:Scope)(env:Env)(D:Addr)(lx₀:Lx)(ok okb:Addr->Prop)(xs:List Str)(P:CP)(s s':ab):Prop where
 |mk (out:List Mine.D) (ρ:List LV) (lx:Lx) (p:P out ρ lx) (cs:fA C sc env D lx₀ ok okb out ρ lx s') (g:aH (WC lx₀ D env xs) cx s s')
inductive KK(C:Cx)(n:Nat)(sc:Scope)(env:Env)(D:Addr)(lx₀:Lx)(ok okb:Addr->Prop)(emit:List Mine.D->List LV->Lx->CP->Prop)(fz:Bool)(tg:Expr)(ifs:List Expr)(P:CP)(xs:List Str)(pg:Nat->Prop)(okI:Addr->Prop)(it:Value)(s₀:ab)(k:Nat)(s:ab):Prop where
 |mk (ds out:List Mine.D) (ρ:List LV) (lx:Lx) (pr:Addr->Prop) (len:k=ds.length) (cs:fA C sc env D lx₀ ok okb out ρ lx s) (cl:kU C n sc emit fz tg ifs ds out ρ lx P) (ci:LC C env lx₀ D ok okb pr pg s₀ s) (gr:aH (WC lx₀ D env xs) cx s₀ s) (io:nH C n tg okI pg it pr ds s)
def KJ(C:Cx)(A:Around)(env:Env)(tg:Expr)(it:Value)(ifs:List Expr)(t:Sem Fin)(c:Code)(R:mj->ab->Prop)(I:Nat->ab->Prop)(k:Nat)(r:Option Value)(s:ab):Prop:=match r with
 |none=>R (.ok .next) s
 |some v=>ar C.M A (cD tg it v) (λ_ s₁=>ar C.M A (s7 tg env v) (λ_ s₂=>ar C.M A (forIn ifs true λc r=>if r=true then do let ok <-mh c env (eval c env);pure (cO ok)else pure (cO r))
   (λb s₃=>if b=true then ar C.M A t (λfin s₄=>fin=.again c/\∃m,m < k/\I m s₄) bJ s₃ else ∃m,m < k/\I m s₃) bJ s₂) bJ s₁) bJ s
theorem ux{A:Around}{env:Env}{e:Expr}{depth:Nat}{it acc:Value}{p:Pos}{tg:Expr}{ifs:List Expr}{t:Sem Fin}{R:mj->ab->Prop}{s:ab}(I:Nat->ab->Prop)(heq:pw e depth it acc env=fe p tg ifs t env it (.compLoop e depth it acc env))(hf:(oL e depth it acc env).isFrame=false)
  (hu:A.under (.compLoop e depth it acc env)=A)(ht:∀k s,I k s->ar C.M A (ew it) (KJ C A env tg it ifs t (.compLoop e depth it acc env) R I k) bJ s)(k:Nat)(hk:I k s):eB C.M A (.compLoop e depth it acc env) R s:=by
 refine codeAny_loop rfl I (λk s hI=>?_) k hk
 rw[hu,show C.M.den (.compLoop e depth it acc env)=(pw e depth it acc env).onRaise (λx=>do noteFrame x env;theTreesLotGoes x)by
  show(if(oL e depth it acc env).isFrame=true then _ else _)=_
  rw[hf];rfl]
 refine wpAny_noted ?_
 rw[heq]
 unfold fe
 refine aa (cu (aa (al (ht k s hI) (λr s₁ h₁=>?_) λ_ _ x=>x.elim)))
 cases r with
 |none=>exact aq h₁
 |some v=>
  refine aa (al h₁ (λ_ s₂ h₂=>aa (al h₂ (λ_ s₃ h₃=>aa (al h₃ (λb s₄ h₄=>?_) λ_ _ x=>x.elim)) λ_ _ x=>x.elim)) λ_ _ x=>x.elim)
  cases b with
  |false=>exact aq ⟨rfl,h₄⟩
  |true=>exact al h₄ (λfin s₅ p=>p.1▸⟨rfl,p.2⟩) λ_ _ x=>x.elim
section
variable{A:Around}{env:Env}{D:Addr}{lx₀:Lx}{ok okb:Addr->Prop}{xs:List Str}
theorem fA.asg{fz:Bool}{out:List Mine.D}{ρ ρ1:List LV}{s:ab}{tg:Expr}{d:Mine.D}{v:Value}{Q:Unit->ab->Prop}(cs:fA C sc env D lx₀ ok okb out ρ lx s)(hh:A.handled=none)(E:aY sc env)(a:xM fz sc.names tg d ρ ρ1)(r:Rd (oV fz ok okb) s.heap v d)
  (k:∀s',fA C sc env D lx₀ ok okb out ρ1 lx s'->aH (GR env (ES tg)) cx s s'->Q () s'):ar C.M A (s7 tg env v) Q bJ s:=by
 refine nG λkG=>?_;obtain⟨μ,S⟩:=cs.st
 obtain⟨ys,hX⟩:=cs.acc;refine kG ?_;refine(λla ra=>?_) hX.1 hX.2
 refine rt hh E S a r (λ_=>rfl) λs₃ p=>?_
 refine nG λkG=>?_;obtain⟨og',μ',S3,_,_,ho,g3⟩:=p
 obtain rfl:=(show og'=λ_=>[]from funext λi=>List.eq_nil_iff_forall_not_mem.mpr λa m=>nomatch ho i a m)
 refine kG ?_
 have nl:∀a,(∃vs,dj s.heap a vs)->¬GR env (ES tg) a:=by rintro a ⟨vs,l⟩ w;exact S.nolist a w.frw vs l
 exact k s₃ ⟨cs.sa,⟨μ',S3⟩,⟨ys,dj.grow g3 (nl _ ⟨_,la⟩) la,ra.grow g3 λa _ l=>nl a l⟩,cs.nok,cs.nfr,cs.nlx,cs.n0⟩ g3
theorem fA.kept{out:List Mine.D}{s s':ab}{pr okI:Addr->Prop}{pg:Nat->Prop}(cs:fA C sc env D lx₀ ok okb out ρ lx s)(g:aH (WC lx₀ D env xs) cx s s')(hI:∀a,okI a->okb a)(hp:∀b,pr b->ok b/\¬i8 env b/\¬LW lx₀ b):iw pr pg okI s s':=by
 refine cU cs.st λμ S=>?_
 refine⟨WC lx₀ D env xs,g.mono (λ_ w=>.inl w) (λ_ w=>w.elim),λb w=>⟨λwp=>?_,λo vs l=>?_⟩⟩
 ·rcases w with w|w|w
  ·exact(hp b wp).2.2 (cC w)
  ·exact cs.nok (w▸S.sub b (hp b wp).1)
  ·exact(hp b wp).2.1 w.frw
 ·rcases w with w|w|w
  ·exact S.lxok b (hI b o) (cs.sa.LW▸cC w)
  ·exact cs.nok (w▸hI b o)
  ·exact S.nolist b w.frw vs l
theorem Hv{lx:Lx}{s s':ab}(sa:bV lx₀ lx)(g:aH (W lx) cx s s'):aH (WC lx₀ D env xs) cx s s':=g.mono (λb w=>.inl (.inl (sa.W▸w))) (λ_ w=>w.elim)
theorem uy{e:Expr}{depth:Nat}{it acc:Value}{p:Pos}{tg:Expr}{ifs:List Expr}{t:Sem Fin}{fz:Bool}{emit:List Mine.D->List LV->Lx->CP->Prop}{P:CP}{R:mj->ab->Prop}{pg:Nat->Prop}{okI:Addr->Prop}{s₀ s:ab}{ds out:List Mine.D}{ρ:List LV}{lx:Lx}{pr:Addr->Prop}
  (Rm:bj n A)(E:aY sc env)(heq:pw e depth it acc env=fe p tg ifs t env it (.compLoop e depth it acc env))(hf:(oL e depth it acc env).isFrame=false)(hu:A.under (.compLoop e depth it acc env)=A)
  (hemit:∀out ρ lx s (P:CP),fA C sc env D lx₀ ok okb out ρ lx s->emit out ρ lx P->ar C.M A t (λfin s'=>fin=.again (.compLoop e depth it acc env)/\EP C sc env D lx₀ ok okb xs P s s') bJ s)
  (hxs:∀x∈ES tg,x∈xs)(hI:∀a,okI a->oV fz ok okb a)(hR:∀s,EP C sc env D lx₀ ok okb xs P s₀ s->R (.ok .next) s)
  (cs:fA C sc env D lx₀ ok okb out ρ lx s)(cl:kU C n sc emit fz tg ifs ds out ρ lx P)(ci:LC C env lx₀ D ok okb pr pg s₀ s)(gr:aH (WC lx₀ D env xs) cx s₀ s)(io:nH C n tg okI pg it pr ds s):eB C.M A (.compLoop e depth it acc env) R s:=by
 refine ux (KK C n sc env D lx₀ ok okb emit fz tg ifs P xs pg okI it s₀) heq hf hu ?_ ds.length ⟨ds,out,ρ,lx,pr,rfl,cs,cl,ci,gr,io⟩
 clear cs cl ci gr io s pr lx ρ out ds
 intro k s h
 obtain⟨ds,out,ρ,lx,pr,rfl,cs,cl,ci,gr,io⟩:=h
 have off':∀b,pr b->ok b/\¬i8 env b/\¬LW lx b/\C.h₀.get? b=bc/\b≠C.tab:=λb w=>cs.sa.LW▸ci.off b w
 have wd:Wd C s:=let⟨_,q⟩:=cs.st;q.wd
 cases ds with
 |nil=>exact al (io A s Rm wd .refl) (λr s₁ q=>q.1▸hR s₁ ⟨out,ρ,lx,cl,cs.moveP q.2 ci.notL off',gr.trans q.2 (λb w=>.inr (ci.old b w)) λi w=>.inr (ci.gen i w)⟩) λ_ _ x=>x
 |cons d ds=>
  refine io.draw Rm wd λv s₁ h₁=>al h₁ (λ_ s₂ h₂=>?_) λ_ _ x=>x
  obtain⟨rv,g,pr',hX⟩:=h₂;refine(λhp' hL' io'=>?_) hX.1 hX.2.1 hX.2.2
  refine a7 cl λρ1 a cl=>?_
  have cs2:=cs.moveP g ci.notL off'
  have okb1:∀a,okI a->okb a:=λx o=>by
   cases fz with
   |true=>exact let⟨_,S⟩:=cs.st;S.sub _ (hI x o)
   |false=>exact hI x o
  have off2:∀b,pr' b->ok b/\¬i8 env b/\¬LW lx₀ b/\C.h₀.get? b=bc/\b≠C.tab:=λb w=>(hp' b w).elim (ci.off b) λe=>let⟨_,S⟩:=cs.st;⟨S.okf b e,cs.sa.LW▸S.apart e⟩
  have fin:∀out' ρ' lx' s',kU C n sc emit fz tg ifs ds out' ρ' lx' P->fA C sc env D lx₀ ok okb out' ρ' lx' s'->aH (WC lx₀ D env xs) cx s₂ s'->∃m,m < (d::ds).length/\KK C n sc env D lx₀ ok okb emit fz tg ifs P xs pg okI it s₀ m s':=λout' ρ' lx' s' cl' cs' g'=>
   have kp:=cs2.kept (pg:=pg) g' okb1 λb w=>⟨(off2 b w).1,(off2 b w).2.1,(off2 b w).2.2.1⟩
   ⟨_,bC _,ds,out',ρ',lx',pr',rfl,cs',cl',⟨λb w=>(hp' b w).elim (ci.old b) λe=>ah gr.size e,off2,kp.notL hL',ci.gen⟩,(gr.trans g (λb w=>.inr (ci.old b w)) λi w=>.inr (ci.gen i w)).trans1 g',io'.kept kp⟩
  refine cs2.asg Rm.hh E a (rv.mono λa _ o=>hI a o) λs₃ cs3 g3=>?_
  refine cU cs3.st λμ3 S3=>?_
  refine al (zH Rm E ifs lx s₃ S3 cl) (λb s₄ p=>?_) λ_ _ x=>x
  obtain⟨lx₄,q,sa4,l4,g4⟩:=p
  have cs4:=cs3.grow g4 sa4 l4
  have g34:aH (WC lx₀ D env xs) cx s₂ s₄:=(g3.mono (λb w=>.inl (.inr (.inr (w.imp id λ⟨x,m,e⟩=>⟨x,hxs x m,e⟩)))) (λ_ w=>w.elim)).trans1 (Hv cs3.sa g4)
  cases b with
  |false=>exact fin _ _ _ _ q cs4 g34
  |true=>exact al (hemit out ρ1 lx₄ s₄ _ cs4 q) (λfn s₅ p=>let⟨hf,q⟩:=p;let⟨out',ρ',lx',q',cs5,g5⟩:=q;⟨hf,fin _ _ _ _ q' cs5 (g34.trans1 g5)⟩) λ_ _ x=>x
end
theorem ot{A:Around}{env:Env}{e:Expr}{depth:Nat}{it acc:Value}{g:bF}{R:mj->ab->Prop}{s:ab}{okI:Addr->Prop}{pg:Nat->Prop}{pr:Addr->Prop}
  (Rm:bj n A)(hcl:(clausesOf e)[depth]? =some g)(hg:g.is_async=0)(hf:(Code.compStart e depth it acc env).isFrame=false)(hu:A.under (.compStart e depth it acc env)=A)(hq:(oL e depth it acc env).quiet=true)(self:EH C n okI pg it pr s)
  (h:eB C.M A (.compLoop e depth it acc env) R s):eB C.M A (.compStart e depth it acc env) R s:=by
 refine codeAny_of_tree ?_
 have hden:C.M.den (.compStart e depth it acc env)=(compStart e depth it acc env).onRaise (λx=>do noteFrame x env;tM theWindowsPlace):=by
  show(if(Code.compStart e depth it acc env).isFrame=true then _ else _)=_
  rw[hf];rfl
 rw[hden,hu]
 refine wpAny_notedAt ?_
 unfold compStart
 rw[hcl]
 simp only[Option.elim,hg,bne_self_eq_false,cY,if_false]
 refine aa (wpAny_askSetting (wpAny_ite ?_))
 split
 ·first
   |exact aa (aq (aq ⟨hq,h⟩))
   |exact aq ⟨hq,h⟩
 ·refine aa (wf ?_)
  refine aa (cu (aa (al (self A s (λv s'=>v=it/\s'=s) Rm .refl ⟨rfl,rfl⟩) (λv s' q=>?_) λ_ _ x=>x.elim)))
  refine nG λkG=>?_;obtain⟨rfl,rfl⟩:=q
  refine kG ?_
  exact aq ⟨hq,h⟩
theorem Bf{A:Around}{env:Env}{D:Addr}{lx₀:Lx}{ok okb:Addr->Prop}{elt:Expr}{xs:List Str}(Rm:bj n A)(E:aY sc env)(out:List Mine.D)(ρ:List LV)(lx:Lx)(s:ab)(P:CP)(cs:fA C sc env D lx₀ ok okb out ρ lx s)(h:qE C n sc elt out ρ lx P):
  ar C.M A (do let _ <-call (.builtin "list.append") [.ref D,<-eval elt env]) (λ_ s'=>EP C sc env D lx₀ ok okb xs P s s') bJ s:=by
 refine cU cs.st λμ S=>?_
 refine aa (Ev.go h Rm E S λv s₁ r lx₁ q rv S1 sa g=>?_)
 refine nG λkG=>?_;obtain⟨d,hX⟩:=q;obtain rfl:=hX.1;refine kG ?_;refine oG hX λ_ hz q=>?_
 have cs1:=cs.grow g sa S1.lxr
 refine a7 cs1.acc λys la ra=>?_
 refine aa (wpAny_list_append_plain (hsz:=ah (aJ ra.length) hz) la λh' hl' hs'=>aq ?_)
 refine cU la λnn hD=>?_
 have gD:∀{W:Addr->Prop},W D->aH W cx s₁ {s₁ with heap:=h'}:=λw=>aH.same (t:=s₁.toks) hs' hD (λq=>absurd q.1 (by dsimp only;decide)) w (ai _)
 have g1:=gD (W:=λb=>b=D) rfl
 have nD:∀a,okb a->(∃vs,dj s₁.heap a vs)->¬a=D:=λa o _ q=>cs.nok (q▸o)
 exact⟨out++[d],ρ,lx₁,q,⟨cs1.sa,⟨μ,S1.moveQ g1 nD (λ_ _ m=>nomatch m) λb e=>e▸⟨cs.nfr,cs1.sa.LW▸cs.nlx,cs.n0⟩⟩,⟨_,hl',by
  rw[fH]
  exact(ra.grow g1 λa o=>nD a (S1.sub a o)).append (.cons (Rd.grow rv g1 λa o=>nD a (S1.sub a o)) .nil)⟩,cs1.nok,cs1.nfr,cs1.nlx,cs1.n0⟩,(Hv cs.sa g).trans1 (gD (.inr (.inl rfl)))⟩
theorem sw{A:Around}{env:Env}{D:Addr}{lx₀:Lx}{ok okb:Addr->Prop}{elt:Expr}{xs:List Str}{c:Code}(Rm:bj n A)(E:aY sc env)(out:List Mine.D)(ρ:List LV)(lx:Lx)(s:ab)(P:CP)(cs:fA C sc env D lx₀ ok okb out ρ lx s)(h:qE C n sc elt out ρ lx P):
  ar C.M A ((do let _ <-call (.builtin "list.append") [.ref D,<-eval elt env]) >>= λ_=>again c) (λfin s'=>fin=.again c/\EP C sc env D lx₀ ok okb xs P s s') bJ s:=
 aa (al (Bf Rm E out ρ lx s P cs h) (λ_ s' h=>aq ⟨rfl,h⟩) λ_ _ x=>x.elim)
end
structure CF(names:List (Str × az))(acc:List (Str × Addr))(h:Heap)(cs:List (Str × Addr))(h':Heap):Prop where
 lk:∀x c,cs.lookup x=some c->acc.lookup x=some c\/(h.objs.size<=c/\h'.IsCell c none)
 keep:∀x c,(x,cG) ∉ names->acc.lookup x=some c->cs.lookup x=some c
 hit:∀x,(x,cG)∈names->∃c,cs.lookup x=some c/\h.objs.size<=c/\h'.IsCell c none
 apart:(acc.Pairwise λx y=>x.2≠y.2)->(∀x c,(x,c)∈acc->c < h.objs.size)->(cs.Pairwise λx y=>x.2≠y.2)
theorem xz:∀(names:List (Str × az)) (acc:List (Str × Addr)) (h:Heap),CF names acc h (cellsFrom h.objs.size names acc) (mZ h names)
 |[],acc,h=>⟨λ_ _ e=>.inl e,λ_ _ _ e=>e,λ_ m=>(by cases m),λa _=>a⟩
 |(name,kind)::r,acc,h=>by
  unfold cellsFrom mZ
  split
  ·rename_i hk
   have hk':kind=.cell:=eq_of_beq hk
   subst hk'
   have ih:=xz r ((name,h.objs.size)::acc) (h.push {cls:=.type "cell",data:=.cell none})
   rw[aZ]at ih
   have z:(h.push {cls:=.type "cell",data:=.cell none}).objs.size=h.objs.size+1:=aZ ..
   have hc:(mZ (h.push {cls:=.type "cell",data:=.cell none}) r).IsCell h.objs.size none:=⟨_,fU r _ _ _ (aB _ rfl),rfl⟩
   refine⟨λx c e=>?_,λx c m e=>?_,λx m=>?_,λa l=>?_⟩
   ·rcases ih.lk x c e with e'|⟨e',q⟩
    ·rw[gv]at e'
     split at e'
     ·cases e';exact .inr ⟨ai _,hc⟩
     ·exact .inl e'
    ·rw[z]at e';exact .inr ⟨bD e',q⟩
   ·refine ih.keep x c (λq=>m (.tail _ q)) ?_
    rw[gv]
    have:(x==name)=false:=beq_eq_false_iff_ne.mpr λq=>m (q▸lj)
    rw[this];exact e
   ·by_cases q:(x,cG)∈r
    ·refine jH (ih.hit x q) λc e1 e2 e3=>?_
     rw[z]at e2
     exact⟨c,e1,bD e2,e3⟩
    ·have hx:x=name:=by
      rcases List.mem_cons.mp m with e|e
      ·cases e;rfl
      ·exact absurd e q
     subst hx
     exact⟨h.objs.size,ih.keep x _ q (by rw[gv,beq_self_eq_true]),ai _,hc⟩
   ·refine ih.apart (List.pairwise_cons.mpr ⟨λy hy e=>?_,a⟩) λx c m=>?_
    ·exact absurd (l y.1 y.2 hy) (by rw[show y.2=h.objs.size from e.symm];exact fw _)
    ·rw[z]
     rcases List.mem_cons.mp m with e|m
     ·cases e;exact bC _
     ·exact iN (l x c m)
  ·rename_i hk
   have hk':kind≠ .cell:=λq=>hk (by rw[q];rfl)
   have ih:=xz r acc h
   have nm:∀x,(x,cG)∈(name,kind)::r->(x,cG)∈r:=λx m=>(List.mem_cons.mp m).elim (λe=>absurd (congrArg Prod.snd e).symm hk') id
   exact⟨ih.lk,λx c m e=>ih.keep x c (λq=>m (.tail _ q)) e,λx m=>ih.hit x (nm x m),ih.apart⟩
structure Lq(env:Env)(names:List (Str × az))(acc cl:List (Str × Addr)):Prop where
 lk:∀x c,cl.lookup x=some c->acc.lookup x=some c\/(env.cells.lookup x=some c/\(x,aL)∈names)
 hit:∀x,(x,aL)∈names->(cl.lookup x).isSome=true
 keep:∀x,(acc.lookup x).isSome=true->(cl.lookup x).isSome=true
 mem:∀p∈cl,p∈acc\/env.cells.lookup p.1=some p.2
 nd:(names.map (·.1)++acc.map (·.1)).Nodup->(cl.map (·.1)).Nodup
theorem pU{α:Type}{x:α}{l m:List α}(h:(x::l++m).Nodup):(l++x::m).Nodup:=(List.perm_middle.nodup_iff).mpr h
theorem xw{env:Env}(names:List (Str × az)):∀(acc:List (Str × Addr)),(∀x,(x,aL)∈names->∃c,env.cells.lookup x=some c)->
  ∃cl,((forIn names acc λp r=>(if p.2==aL then(do let c <-cellOf env p.1;pure (cO ((p.1,c)::r)))else pure (cO r))):Sem (List (Str × Addr)))=pure cl/\Lq env names acc cl:=by
 induction names with
 |nil=>exact λacc _=>⟨acc,rfl,λ_ _ e=>.inl e,(λ_ m=>nomatch m),λ_ e=>e,λ_ m=>.inl m,λh=>h⟩
 |cons p r ih=>
  intro acc h
  obtain⟨x,k⟩:=p
  cases hk:(k==aL)with
  |true=>
   refine nG λkG=>?_;obtain rfl:=(eq_of_beq hk:k=.free)
   refine cU (h x (.head _)) λc hc=>?_
   refine cU (ih ((x,c)::acc) λy m=>h y (.tail _ m)) λcl hX=>?_;refine kG ?_;refine en hX λe1 I=>?_
   have look:∀y,((x,c)::acc).lookup y=if(y==x)=true then some c else acc.lookup y:=λy=>by rw[gv];cases y==x<;>rfl
   refine⟨cl,?_,λy d e=>?_,λy m=>(List.mem_cons.mp m).elim (λq=>?_) (I.hit y),λy e=>I.keep y ?_,λp m=>(I.mem p m).elim (λq=>(List.mem_cons.mp q).elim (λq=>.inr (q▸hc)) .inl) .inr,λh=>I.nd (pU h)⟩
   ·rw[cN,show cellOf env x=pure c by unfold cellOf;rw[hc]]
    exact e1
   ·refine(I.lk y d e).elim (λe'=>?_) λe'=>.inr ⟨e'.1,.tail _ e'.2⟩
    rw[look]at e'
    split at e'
    ·rename_i q;rw[eq_of_beq q,<-ao e'];exact .inr ⟨hc,.head _⟩
    ·exact .inl e'
   ·rw[(e7 q).1];exact I.keep x (by rw[look,beq_self_eq_true];rfl)
   ·rw[look];split
    ·rfl
    ·exact e
  |false=>
   refine a7 (ih acc λy m=>h y (.tail _ m)) λcl e1 I=>?_
   refine⟨cl,?_,λy c e=>(I.lk y c e).imp id λq=>⟨q.1,.tail _ q.2⟩,λy m=>(List.mem_cons.mp m).elim (λq=>?_) (I.hit y),I.keep,I.mem,λh=>I.nd (List.nodup_cons.mp h).2⟩
   ·rw[cN]
    simp only[hk,cY,if_false]
    exact e1
   ·rw[<-(e7 q).2]at hk;exact nomatch hk
theorem lZ{env:Env}{scope:Scope}(h:∀x,(x,aL)∈scope.names->∃c,env.cells.lookup x=some c):∃cl,qG scope env=pure cl/\Lq env scope.names [] cl:=by
 refine a7 (xw scope.names [] h) λcl e1 I=>?_
 refine⟨cl,?_,I⟩
 simp only[qG]
 rw[<-bind_pure (pure cl),<-e1]
theorem mK{M:Model}{A:Around}{E:Value->ab->Prop}{s:ab}{scope:Scope}{globals:Addr}{cl:List (Str × Addr)}{qual:Str}{env:Env}{Q:Env->ab->Prop}
  (h:∀cenv h',cenv.scope=scope->cenv.locals=s.heap.objs.size->cenv.globals=globals->cenv.builtins=env.builtins->(∃h₁,h₁.objs.size=s.heap.objs.size+1/\CF scope.names cl h₁ cenv.cells h')->(∀b o,s.heap.get? b=some o->h'.get? b=some o)->
   h'.Ns s.heap.objs.size (λ_=>none)->Q cenv {s with heap:=h'}):ar M A (gV scope globals cl [] qual none .none (some env)) Q E s:=by
 simp only[gV,Option.isSome_some,if_true]
 refine aa (BD ?_)
 refine aa (sV _ (λname kind cells=>by cases hkc:kind==cG<;>simp[hkc]) _ _ _ _ ?_)
 have cf:=xz scope.names cl (s.heap.push {cls:=.type "dict",data:=.dict #[]})
 refine aa (aq (aq ?_))
 have hn:(s.heap.push {cls:=.type "dict",data:=.dict #[]}).Ns s.heap.objs.size (λ_=>none):=Y3 _ (#[]) 0 ⟨aB _ rfl,rfl,λe m=>(by simp at m),λx=>rfl⟩
 refine h _ _ rfl rfl rfl rfl ⟨_,aZ ..,cf⟩ (λb o e=>fU _ _ _ _ (aA _ e)) (Ns.at hn λo e=>fU _ _ _ _ e)
noncomputable def tv(outer names:List (Str × az)):List (Str × az):=names.map λ(n,k)=>if(k== .free&&outer.lookup n==some .cell)then(n,.cell)else(n,k)
noncomputable def fj(sc scope:Scope):Scope:={scope with names:=tv sc.names scope.names}
theorem yo{sc scope:Scope}{env:Env}(E:aY sc env):oB scope env=fj sc scope:=by
 have hk:(env.scope.kind==ScopeKind.function)=true:=by rw[E.scope,E.kind];rfl
 unfold oB fj tv fM
 rw[hk,E.scope]
 simp only[dU]
noncomputable def LV.cap:LV->LV
 |.un=>.un
 |.dat d=>.dat d
 |.bor d=>.bor d
 |.own ds=>.bor (.list ds)
 |.own2 dss=>.bor (.list (dss.map .list))
 |.ci _ _ _=>.un
 |.raw _=>.un
 |.lex=>.lex
inductive ki(on:List (Str × az))(ρ:List LV):List (Str × az)->List LV->Prop where
 |nil:ki on ρ [] []
 |un {x k ns ρ'}:(k==aL)=false->ki on ρ ns ρ'->ki on ρ ((x,k)::ns) (.un::ρ')
 |cap {x ns ρ' i lv}:d5 on ρ i x .cell lv->ki on ρ ns ρ'->ki on ρ ((x,.free)::ns) (lv.cap::ρ')
section
variable{on:List (Str × az)}{ρ:List LV}{ns:List (Str × az)}{ρ':List LV}
theorem ki.len(h:ki on ρ ns ρ'):ρ'.length=ns.length:=by
 induction h with
 |nil=>rfl
 |un _ _ ih=>exact congrArg nz ih
 |cap _ _ ih=>exact congrArg nz ih
theorem ki.get(h:ki on ρ ns ρ'):∀{i:Nat} {x:Str} {k:az} {lv:LV},ns[i]? =some (x,k)->ρ'[i]? =some lv->lv=.un\/∃j lv₀,d5 on ρ j x .cell lv₀/\lv=lv₀.cap/\k=.free:=by
 induction h with
 |nil=>exact λe=>nomatch e
 |un _ _ ih=>exact λ{i}=>by cases i with
  |zero=>exact λ_ e=>.inl (ao e).symm
  |succ i=>exact ih
 |cap a _ ih=>exact λ{i}=>by cases i with
  |zero=>exact λe1 e2=>.inr ⟨_,_,(e7 (ao e1)).1▸a,(ao e2).symm,(e7 (ao e1)).2.symm⟩
  |succ i=>exact ih
theorem ki.free(h:ki on ρ ns ρ'):∀{x:Str},(x,aL)∈ns->∃j lv,d5 on ρ j x .cell lv:=by
 induction h with
 |nil=>exact λm=>nomatch m
 |un hk _ ih=>exact λm=>(List.mem_cons.mp m).elim (λe=>by rw[<-(e7 e).2]at hk;exact nomatch hk) ih
 |cap a _ ih=>exact λm=>(List.mem_cons.mp m).elim (λe=>Y2 _ _ ((e7 e).1▸a)) ih
end
theorem rY{ns:List (Str × az)}(h:(ns.map (·.1)).Nodup){x:Str}{k k':az}(m:(x,k)∈ns)(m':(x,k')∈ns):k=k':=
 by refine cU (List.mem_iff_getElem?.mp m) λ_ hi=>?_;exact by refine cU (List.mem_iff_getElem?.mp m') λ_ hj=>?_;exact(e7 (ao (hi.symm.trans (wU h hi hj▸hj)))).2
theorem wO{outer names:List (Str × az)}{i:Nat}{x:Str}{k:az}(h:(tv outer names)[i]? =some (x,k)):∃k',names[i]? =some (x,k')/\(k=k'\/(k'=.free/\k=.cell/\outer.lookup x=some .cell)):=by
 unfold tv at h
 rw[aW]at h
 obtain⟨⟨y,k'⟩,e,h⟩:=Option.map_eq_some_iff.mp h
 dsimp only at h
 split at h
 ·rename_i q
  refine(λq1 q2=>?_) (Bool.and_eq_true_iff.mp q).1 (Bool.and_eq_true_iff.mp q).2
  obtain rfl:=(e7 h).1;obtain rfl:=(e7 h).2
  exact⟨k',e,.inr ⟨eq_of_beq q1,rfl,eq_of_beq q2⟩⟩
 ·obtain⟨rfl,rfl⟩:=e7 h
  exact⟨_,e,.inl rfl⟩
theorem yp(outer names:List (Str × az)):(tv outer names).map (·.1)=names.map (·.1):=by
 unfold tv
 rw[bO]
 congr 1
 funext p
 refine(λx k=>?_) p.1 p.2
 simp only[Function.comp]
 split<;>rfl
def vY(C:Cx)(n:Nat)(sc:Scope)(e:Expr)(p:Pos)(tg:Expr)(ifs:List Expr)(xs:List Str)(emit:List D->List LV->Lx->CP->Prop):Prop:=
 ∀(A:Around) (env:Env) (Da:Addr) (lx₀:Lx) (ok okb:Addr->Prop) (it:Value),bj n A->aY sc env->∃t:Sem Fin,pw e 0 it (.ref Da) env=fe p tg ifs t env it (.compLoop e 0 it (.ref Da) env)/\
  ∀out ρ lx s (P:CP),fA C sc env Da lx₀ ok okb out ρ lx s->emit out ρ lx P->ar C.M A t (λfin s'=>fin=.again (.compLoop e 0 it (.ref Da) env)/\EP C sc env Da lx₀ ok okb xs P s s') bJ s
section
variable{C:Cx}{n:Nat}{sc:Scope}{ρ:List LV}{lx:Lx}
theorem jf.cap{ok okb:Addr->Prop}{lx:Lx}{s₂ s₄:ab}{Da:Addr}{lv:LV}{u:Option Value}{as:List Addr}(vr:jf ok okb lx s₂.heap lv u as)(sub:∀a,ok a->okb a)(ow:∀a∈as,okb a)(g:bG s₂ s₄)(nlt:∀a o,s₂.heap.get? a=some o->a≠Da):
  jf (λa=>ok a/\a≠Da) (λa=>okb a/\a≠Da) lx s₄.heap lv.cap u []:=by
 have b:∀{ok:Addr->Prop} {v d},Rd ok s₂.heap v d->Rd (λa=>ok a/\a≠Da) s₄.heap v d:=λr=>(r.mono λa ⟨o,e⟩ ho=>⟨ho,nlt a o e⟩).grow0 g
 cases lv with
 |un=>rfl
 |dat d=>exact⟨rfl,let⟨v,f4,r⟩:=vr.2;⟨v,f4,b r⟩⟩
 |bor d=>exact⟨rfl,let⟨v,f4,r⟩:=vr.2;⟨v,f4,b r⟩⟩
 |own ds=>exact⟨rfl,let⟨v,f4,r⟩:=jf.rv sub ow vr rfl;⟨v,f4,b r⟩⟩
 |ci _ _ _=>rfl
 |raw _=>rfl
 |own2 dss=>exact⟨rfl,let⟨v,f4,r⟩:=jf.rv sub ow vr rfl;⟨v,f4,b r⟩⟩
 |lex=>exact⟨rfl,vr.2⟩
structure Jh(C:Cx)(sc':Scope)(names:List (Str × az))(env cenv:Env)(ρc:List LV)(lx:Lx)(ok okb:Addr->Prop)(Da:Addr)(s:ab):Prop where
 E:aY sc' cenv
 loc:cenv.locals=Da+1
 cells:∀x c,cenv.cells.lookup x=some c->(env.cells.lookup x=some c/\(x,aL)∈names)\/Da+2<=c
 st:∃μ,St C sc' cenv ρc lx (λa=>ok a/\a≠Da) (λa=>okb a/\a≠Da) (λ_=>[]) μ s
theorem sC{env cenv:Env}{ok okb:Addr->Prop}{og:Nat->List Addr}{μ:Str->Option Value}{s₂ s₄:ab}{scope:Scope}{ρc:List LV}{cl:List (Str × Addr)}{Da:Addr}{h₁:Heap}(E:aY sc env)(S2:St C sc env ρ lx ok okb og μ s₂)(hnd:(scope.names.map (·.1)).Nodup)(hkind:scope.kind=.function)(hcap:ki sc.names ρ scope.names ρc)
  (I:Lq env scope.names [] cl)(hD:s₂.heap.objs.size=Da)(hz1:h₁.objs.size=Da+2)(cf:CF scope.names cl h₁ cenv.cells s₄.heap)(g:bG s₂ s₄)(hz4:Da+1<=s₄.heap.objs.size)(hns:s₄.heap.Ns (Da+1) λ_=>none)
  (hloc:cenv.locals=Da+1)(hg:cenv.globals=env.globals)(hb:cenv.builtins=env.builtins):Jh C (fj sc scope) scope.names env {cenv with scope:=oB scope env} ρc lx ok okb Da s₄:=by
 have lk:∀x c,cl.lookup x=some c->env.cells.lookup x=some c/\(x,aL)∈scope.names:=λx c e=>(I.lk x c e).elim (λq=>nomatch q) id
 have hcells:∀x c,cenv.cells.lookup x=some c->(env.cells.lookup x=some c/\(x,aL)∈scope.names)\/(Da+2<=c/\s₄.heap.IsCell c none):=λx c e=>(cf.lk x c e).imp (lk x c) λq=>hz1▸q
 have hnn:∀{x k},(fj sc scope).names.lookup x=some k->∃k',(x,k')∈scope.names/\(k=k'\/(k'=.free/\k=.cell/\sc.names.lookup x=some .cell)):=λe=>
  by refine cU (List.mem_iff_getElem?.mp (gI e)) λ_ hi=>?_;exact by refine a7 (wO hi) λk' e' r=>?_;exact⟨k',aU e',r⟩
 refine nG λkG=>?_;obtain⟨μc,hμ1,hμ2⟩:∃μc:Str->Option Value,(∀x,(x,aL)∈scope.names->μc x=μ x)/\(∀x k,(x,k)∈scope.names->k≠ .free->μc x=none):=
  ⟨λx=>@ite _ ((x,aL)∈scope.names) (Classical.propDecidable _) (μ x) none,λx m=>if_pos m,λx k m h=>if_neg λm'=>h (rY hnd m m')⟩
 refine kG ?_
 have up:∀{b},Da+1<=b->s₂.heap.objs.size<=b:=λq=>hD▸bD q
 have apc:∀x c,cenv.cells.lookup x=some c->¬LW lx c/\C.h₀.get? c=none/\c≠C.tab:=λx c e=>(hcells x c e).elim (λq=>⟨S2.lxf.2 x c q.1,S2.fr0.2 x c q.1⟩) λq=>(S2.apart (up (bD q.1))).2
 have apl:=hloc▸(S2.apart (up (ai (Da+1)))).2
 exact{
  E:=⟨yo E,hkind,hg.trans E.globals,hb.trans E.builtins,cf.apart ((List.pairwise_map.mp (I.nd (by rw[BN,aO];exact hnd))).imp_of_mem λ{p q} hp hq hne hc=>hne (sF E.apart ((I.mem p hp).elim (λm=>nomatch m) id) (hc▸(I.mem q hq).elim (λm=>nomatch m) id)))
    (λx c m=>by refine xQ (S2.cellx x c ((I.mem _ m).elim (λm=>nomatch m) id)) λ_ _ e _=>?_;exact hz1▸ay (aC e) (hD▸aF _ 2)),(yp ..).symm▸hnd⟩
  loc:=hloc
  cells:=λx c e=>(hcells x c e).imp id (·.1)
  st:=⟨μc,{
   wd:=(S2.grow0 g).wd
   okf:=λa e=>⟨(S2.okf.grow g) a e,cq (ay (Nat.lt_of_succ_le hz4) e)⟩
   sub:=λa o=>⟨S2.sub a o.1,o.2⟩
   len:=hcap.len.trans (af ..).symm
   ns:=⟨λ_=>none,hloc.symm▸hns,λx e=>by refine a7 (hnn e) λk' m hk'=>?_;exact hk'.elim (λq=>(hμ2 x k' m (q▸nofun)).symm) λq=>nomatch q.2.1⟩
   cell:=λx e=>by
    refine a7 (hnn e) λk' m hk'=>?_
    rcases hk' with rfl|⟨rfl,_,q⟩
    ·rw[hμ2 x _ m nofun]
     exact by refine jH (cf.hit x m) λc f1 _ f3=>?_;exact⟨c,f1,f3⟩
    ·refine nG λkG=>?_;obtain⟨c,f1,f2⟩:=S2.cell x q
     refine cU (Option.isSome_iff_exists.mp (I.hit x m)) λc' f3=>?_
     obtain rfl:=ao (f1.symm.trans (lk x c' f3).1)
     refine kG ?_
     rw[hμ1 x m]
     exact⟨c,cf.keep x c (λm'=>nomatch rY hnd m m') f3,IsCell.at f2 λo e=>g.keep0 _ _ e⟩
   cellx:=λx c e=>(hcells x c e).elim (λq=>by refine cU (S2.cellx x c q.1) λv f=>?_;exact⟨v,IsCell.at f λo e=>g.keep0 _ _ e⟩) λq=>⟨_,q.2⟩
   vars:=λi x k lv f1 f2=>by
    refine a7 (wO f1) λk' f3 hk'=>?_
    rcases hcap.get f3 f2 with rfl|⟨j,lv₀,a,rfl,rfl⟩
    ·rfl
    ·rw[hμ1 x (aU f3)]
     exact(S2.vars j x .cell lv₀ a.get.1 a.get.2).cap S2.sub (λa m=>(S2.owns j a m).1) g λa o e q=>absurd (aC e) (by rw[hD,q];exact fw _)
   owns:=λ_ _ m=>nomatch m
   ownd:=λ_=>bx
   ownx:=λ_ _ _ m=>nomatch m
   lxr:=S2.lxr.grow0 g
   lxok:=λb o=>S2.lxok b o.1
   lxf:=⟨apl.1,λx c e=>(apc x c e).1⟩
   lx0:=S2.lx0
   fr0:=⟨apl.2,λx c e=>(apc x c e).2⟩}⟩}
inductive nt(C:Cx)(lx:Lx)(ok:Addr->Prop)(P:CP)(s:ab)(Da Cl:Addr)(s':ab):Prop where
 |mk (out:List D) (ρ':List LV) (lx':Lx) (m:Str->Option Value) (ys:Array Value) (p:P out ρ' lx') (hD:s.heap.objs.size<=Da) (hC:s.heap.objs.size<=Cl) (ne:Cl≠Da) (ns:s'.heap.Ns Cl m) (sa:bV lx lx') (l:nN C lx' s'.heap) (g:aH (W lx) cx s s') (la:dj s'.heap Da ys) (ra:dC (λa=>ok a/\a≠Da) s'.heap ys.toList out)
theorem uz{A:Around}{env:Env}{ok okb:Addr->Prop}{og:Nat->List Addr}{μ:Str->Option Value}{s:ab}{scope sc':Scope}{tg iter elt:Expr}{ifs:List Expr}{gs:List bF}{pos p:Pos}{ρc:List LV}{fz:Bool}{xs:List Str}{P:CP}
  {emit:List D->List LV->Lx->CP->Prop}{RR:Value->Addr->mj->ab->Prop}
  (R:bj n A)(E:aY sc env)(S:St C sc env ρ lx ok okb og μ s)(hsc':(sc.names.map (·.1)).Nodup->fj sc scope=sc')(hnd:(scope.names.map (·.1)).Nodup)(hkind:scope.kind=.function)(hcap:ki sc.names ρ scope.names ρc)
  (hem:vY C n sc' (.ListComp elt (⟨tg,iter,ifs,0⟩::gs) scope pos) p tg ifs xs emit)(hxs:∀x∈ES tg,x∈xs)(hxf:∀x∈xs,(x,aL) ∉ scope.names)
  (h:iJ C n sc iter tg fz ρ lx λds lx1=>kU C n sc' emit fz tg ifs ds [] ρc lx1 P)
  (hRR:∀Da Cl s',nt C lx ok P s Da Cl s'->RR (.ref Da) Cl (.ok .next) s'):
  ∃cl,qG scope env=pure cl/\ar C.M A (eval iter env) (λx s₁=>ar C.M A (sX x) (λit s₂=>ar C.M A (newList []) (λacc s₃=>ar C.M A (gV scope env.globals cl [] env.qual none .none (some env)) (λcenv s₄=>
   eB C.M A (.compStart (.ListComp elt (⟨tg,iter,ifs,0⟩::gs) scope pos) 0 it acc {cenv with scope:=oB scope env}) (RR acc cenv.locals) s₄) bJ s₃) bJ s₂) bJ s₁) bJ s:=by
 obtain rfl:=hsc' E.nodup
 obtain⟨cl,e1,I⟩:=lZ λx m=>let⟨j,lv,a⟩:=hcap.free m;let⟨c,e,_⟩:=S.cell x (cS E.nodup a.get.1);⟨c,e⟩
 refine⟨cl,e1,al (h A env ok okb og μ s R E S) (λx s₁ h₁=>al h₁ (λit s₂ h₂=>?_) λ_ _ x=>x.elim) λ_ _ x=>x.elim⟩
 obtain⟨ds,lx1,pr,pg,q,sa,l,g,hpr,hL,hpg,hself,hit⟩:=h₂
 have S2:=S.grow g sa l
 refine cI (hd:=by size_fits) ?_
 generalize hD:s₂.heap.objs.size=Da
 refine xh (({s₂ with heap:=s₂.heap.push {cls:=.type "list",dict:=none,data:=.seq ([]:List Value).toArray}}:ab)) ?_;intro s₃ hs3
 have g3:bG s₂ s₃:=hs3▸bB
 have hz3:s₃.heap.objs.size=Da+1:=by rw[<-hs3,<-hD];exact aZ ..
 have hD3:dj s₃.heap Da #[]:=by rw[<-hs3,<-hD];exact⟨_,aB _ rfl⟩
 clear hs3
 refine mK λcenv h' hc1 hc2 hc3 hc4 hcf hk hns=>?_
 rw[hz3]at hc2 hns
 refine a7 hcf λh₁ hz1 cf=>?_
 rw[hz3]at hz1
 have hz4:Da+1<=h'.objs.size:=bf hns.lt
 refine xh (({s₃ with heap:=h'}:ab)) ?_;intro s₄ hs4
 have g4:bG s₃ s₄:=hs4▸.of_keep (t:=s₃.toks) (ai _) (hz3▸hz4) hk
 obtain rfl:=(show s₄.heap=h' by rw[<-hs4])
 clear hs4
 have g24:bG s₂ s₄:=g3.trans0 g4
 have F:=sC E S2 hnd hkind hcap I hD hz1 cf g24 hz4 hns hc2 hc3 hc4
 refine cU F.st λμc S4=>?_
 have hDs:s.heap.objs.size<=Da:=hD▸g.size
 have apD:=S.apart hDs
 have nfr:∀b,i8 {cenv with scope:=oB scope env} b->Da+1<=b\/i8 env b:=λb w=>w.elim (λe=>.inl (aJ (e.trans F.loc).symm)) λ⟨x,e⟩=>(F.cells x b e).elim (λq=>.inr (.inr ⟨x,q.1⟩)) λq=>.inl (bD q)
 have kp:iw pr pg (λa=>oV fz ok okb a/\a < s₂.heap.objs.size) s₂ s₄:=.of_grow g24
 refine a7 (hem A {cenv with scope:=oB scope env} Da lx1 (λa=>ok a/\a≠Da) (λa=>okb a/\a≠Da) it R F.E) λt heq hemit=>?_
 have prlt:∀b,pr b->b < Da:=λb w=>let⟨o,e,_⟩:=hL b w;hD▸aC e
 refine ot R (g:=⟨tg,iter,ifs,0⟩) rfl rfl rfl rfl rfl (λA' s' Q' R' k' h'=>hself A' s' Q' R' (kp.trans k') h') (uy (s₀:=s) (fz:=fz) R F.E heq rfl rfl hemit hxs (λa o=>?_) (λs' p=>?_)
  (⟨.refl,⟨μc,S4⟩,⟨#[],hD3.at λo e=>g4.keep0 _ _ e,.nil⟩,λo=>o.2 rfl,λw=>(nfr _ w).elim (λe=>Nat.not_succ_le_self _ e) apD.1,sa.LW.symm▸apD.2.1,apD.2.2⟩:fA C (fj sc scope) {cenv with scope:=oB scope env} Da lx1 (λa=>ok a/\a≠Da) (λa=>okb a/\a≠Da) [] ρc lx1 s₄) q ⟨hpr,λb w=>?_,kp.notL hL,hpg⟩ ?_ (hit.kept kp))
 ·have hne:a≠Da:=λq=>absurd o.2 (by rw[hD,q];exact fw _)
  cases fz<;>exact⟨o.1,hne⟩
 ·obtain⟨out,ρ',lx',qP,cs,gr⟩:=p
  obtain⟨μ',S'⟩:=cs.st
  obtain⟨m,hm,_⟩:=S'.ns
  obtain⟨ys,la,ra⟩:=cs.acc
  rw[hc2]
  exact hRR Da (Da+1) s' ⟨out,ρ',lx',m,ys,qP,hDs,cm hDs,eR _,F.loc▸hm,sa.trans cs.sa,cs.lxr,gr.mono (λb w=>by
   rcases w with w|w|w|⟨x,hx,w⟩
   ·exact .inl (sa.W▸w)
   ·exact .inr (w▸hDs)
   ·rw[w,F.loc];exact .inr (cm hDs)
   ·exact(F.cells x b w).elim (λq=>absurd q.2 (hxf x hx)) λq=>.inr (ah hDs (ah (aF _ 2) q))) (λ_ w=>w.elim),la,ra⟩
 ·have ap:=S.apart (hpr b w)
  exact⟨⟨S.okf b (hpr b w),aK (prlt b w)⟩,λw'=>(nfr b w').elim (λe=>absurd (prlt b w) (Nat.not_lt.mpr (bD e))) ap.1,sa.LW.symm▸ap.2.1,ap.2.2⟩
 ·exact(g.mono (λb w=>.inl (.inl (sa.W.symm▸w))) (λ_ w=>w.elim)).trans0 g24
end
section
variable{C:Cx}{n:Nat}{sc:Scope}{ρ:List LV}{lx:Lx}
theorem ph(elt tg iter:Expr)(ifs:List Expr)(scope:Scope)(pos:Pos)(it acc:Value)(env:Env):
  pw (.ListComp elt [⟨tg,iter,ifs,0⟩] scope pos) 0 it acc env=fe iter.pos tg ifs ((do let _ <-call (.builtin "list.append") [acc,<-eval elt env]) >>= λ_=>again (.compLoop (.ListComp elt [⟨tg,iter,ifs,0⟩] scope pos) 0 it acc env)) env it (.compLoop (.ListComp elt [⟨tg,iter,ifs,0⟩] scope pos) 0 it acc env):=by
 unfold fe
 rfl
theorem D6{elt tg iter:Expr}{ifs:List Expr}{scope:Scope}{pos:Pos}{xs:List Str}:vY C n sc (.ListComp elt [⟨tg,iter,ifs,0⟩] scope pos) iter.pos tg ifs xs (qE C n sc elt):=
 λA env Da lx₀ ok okb it R E=>⟨_,ph ..,λout ρ lx s P cs h=>sw R E out ρ lx s P cs h⟩
theorem tH(elt tg iter tg2 iter2:Expr)(ifs ifs2:List Expr)(scope:Scope)(pos:Pos)(it acc:Value)(env:Env):
  pw (.ListComp elt [⟨tg,iter,ifs,0⟩,⟨tg2,iter2,ifs2,0⟩] scope pos) 0 it acc env=fe iter.pos tg ifs (do
    let x <-eval iter2 env
    tM iter2.pos
    let x <-ba iter2 env x
    let _ <-runOwn (.compStart (.ListComp elt [⟨tg,iter,ifs,0⟩,⟨tg2,iter2,ifs2,0⟩] scope pos) 1 (<-kX [x] (sX x)) acc env) env
    again (.compLoop (.ListComp elt [⟨tg,iter,ifs,0⟩,⟨tg2,iter2,ifs2,0⟩] scope pos) 0 it acc env)) env it (.compLoop (.ListComp elt [⟨tg,iter,ifs,0⟩,⟨tg2,iter2,ifs2,0⟩] scope pos) 0 it acc env):=by
 unfold fe
 rfl
theorem tG(elt tg iter tg2 iter2:Expr)(ifs ifs2:List Expr)(scope:Scope)(pos:Pos)(it acc:Value)(env:Env):
  pw (.ListComp elt [⟨tg,iter,ifs,0⟩,⟨tg2,iter2,ifs2,0⟩] scope pos) 1 it acc env=fe iter2.pos tg2 ifs2 ((do let _ <-call (.builtin "list.append") [acc,<-eval elt env]) >>= λ_=>again (.compLoop (.ListComp elt [⟨tg,iter,ifs,0⟩,⟨tg2,iter2,ifs2,0⟩] scope pos) 1 it acc env)) env it (.compLoop (.ListComp elt [⟨tg,iter,ifs,0⟩,⟨tg2,iter2,ifs2,0⟩] scope pos) 1 it acc env):=by
 unfold fe
 rfl
theorem D5{elt tg iter tg2 iter2:Expr}{ifs ifs2:List Expr}{scope:Scope}{pos:Pos}{xs:List Str}(hxs:∀x∈ES tg2,x∈xs)(hs:∀env x,ba iter2 env x=pure x):
  vY C n sc (.ListComp elt [⟨tg,iter,ifs,0⟩,⟨tg2,iter2,ifs2,0⟩] scope pos) iter.pos tg ifs xs (Ah C n sc iter2 tg2 ifs2 elt):=
 λA env Da lx₀ ok okb it R E=>⟨_,tH ..,λout ρ lx s P cs h=>by
  refine nG λkG=>?_;obtain⟨fz,h⟩:=h
  obtain⟨μ,S⟩:=cs.st
  refine kG ?_
  refine aa (al (h A env ok okb _ μ s R E S) (λx s₁ h₁=>aa (cu (aa (fF (hs env x) (aa (bg (al h₁ (λit2 s₂ h₂=>?_) λ_ _ x=>x.elim))))))) λ_ _ x=>x.elim)
  refine nG λkG=>?_;obtain⟨ds,lx',pr,pg,q,sa,l,g,hpr,hL,hpg,hself,hit⟩:=h₂
  refine kG ?_
  exact aa (wpAny_runOwn (ot R (g:=⟨tg2,iter2,ifs2,0⟩) rfl rfl rfl rfl rfl hself (uy (s₀:=s) (fz:=fz) (xs:=xs) R E (tG ..) rfl rfl (λout ρ lx s P cs h=>sw R E out ρ lx s P cs h) hxs (λa o=>o.1) (λs' p=>aq ⟨rfl,p⟩)
   (cs.grow g sa l) q ⟨hpr,λb w=>⟨S.okf b (hpr b w),cs.sa.LW▸S.apart (hpr b w)⟩,hL,hpg⟩ (Hv cs.sa g) hit)))⟩
def xK(C:Cx)(n:Nat)(sc:Scope)(ρ:List LV)(lx:Lx)(sc':Scope)(ρc:List LV)(elt:Expr):List bF->CP->Prop
 |[⟨tg,iter,ifs,a⟩],P=>a=0/\∃fz,iJ C n sc iter tg fz ρ lx λds lx1=>kU C n sc' (qE C n sc' elt) fz tg ifs ds [] ρc lx1 P
 |[⟨tg,iter,ifs,a⟩,⟨tg2,iter2,ifs2,b⟩],P=>a=0/\b=0/\(∀env x,ba iter2 env x=pure x)/\∃fz,iJ C n sc iter tg fz ρ lx λds lx1=>kU C n sc' (Ah C n sc' iter2 tg2 ifs2 elt) fz tg ifs ds [] ρc lx1 P
 |_,_=>False
noncomputable def jA:List bF->List Str
 |[⟨tg,_,_,_⟩]=>ES tg
 |[⟨tg,_,_,_⟩,⟨tg2,_,_,_⟩]=>ES tg++ES tg2
 |_=>[]
noncomputable def iC:List bF->Expr
 |⟨_,iter,_,_⟩::_=>iter
 |[]=>.Constant .none 0 ⟨0,0,0,0⟩
theorem pf{A:Around}{env:Env}{ok okb:Addr->Prop}{og:Nat->List Addr}{μ:Str->Option Value}{s:ab}{scope sc':Scope}{elt:Expr}{gens:List bF}{pos:Pos}{ρc:List LV}{P:CP}{use:Option (Value->Sem Unit)}{Q:Value->ab->Prop}
  (R:bj n A)(E:aY sc env)(S:St C sc env ρ lx ok okb og μ s)(hsc:(sc.names.map (·.1)).Nodup->fj sc scope=sc')(hnd:(scope.names.map (·.1)).Nodup)(hkind:scope.kind=.function)(hcap:ki sc.names ρ scope.names ρc)
  (hxf:∀x∈jA gens,(x,aL) ∉ scope.names)(hs:∀x,ba (iC gens) env x=pure x)(h:xK C n sc ρ lx sc' ρc elt gens P)
  (hRR:∀Da Cl s',nt C lx ok P s Da Cl s'->compPost C.M A bJ use Q (.ref Da) Cl (.ok .next) s'):ar C.M A (v6 (.ListComp elt gens scope pos) scope env (xV gens pos) (newList []) false (firstIter gens env) use) Q bJ s:=by
 have hnames:∀y∈scope.names,y.2=.local->scope.names.lookup y.1=some .local:=λy m e=>by refine cU (List.mem_iff_getElem?.mp m) λ_ hi=>?_;exact e▸cS hnd hi
 cases gens with
 |nil=>exact h.elim
 |cons g gens=>
  obtain⟨tg,iter,ifs,a⟩:=g
  cases gens with
  |nil=>
   refine nG λkG=>?_;obtain⟨rfl,fz,h⟩:=h
   refine a7 (uz (RR:=λacc Cl r s'=>compPost C.M A bJ use Q acc Cl r s') (gs:=[]) R E S hsc hnd hkind hcap (D6 (pos:=pos)) (λx m=>m) hxf h hRR) λcl e1 run=>?_
   refine kG ?_
   exact oH (g:=⟨tg,iter,ifs,0⟩) (gs:=[]) rfl hs e1 hkind hnames run
  |cons g2 gens=>
   obtain⟨tg2,iter2,ifs2,b⟩:=g2
   cases gens with
   |cons _ _=>exact h.elim
   |nil=>
    refine nG λkG=>?_;obtain⟨rfl,rfl,hs2,fz,h⟩:=h
    refine a7 (uz (RR:=λacc Cl r s'=>compPost C.M A bJ use Q acc Cl r s') (xs:=jA [⟨tg,iter,ifs,0⟩,⟨tg2,iter2,ifs2,0⟩]) (gs:=[⟨tg2,iter2,ifs2,0⟩]) R E S hsc hnd hkind hcap (D5 (pos:=pos) (λx m=>cT _ m) hs2) (λx m=>eA _ m) hxf h hRR) λcl e1 run=>?_
    refine kG ?_
    exact oH (g:=⟨tg,iter,ifs,0⟩) (gs:=[⟨tg2,iter2,ifs2,0⟩]) rfl hs e1 hkind hnames run
theorem jx{elt:Expr}{gens:List bF}{scope:Scope}{pos:Pos}{env:Env}(ha:eX gens=false):eval (.ListComp elt gens scope pos) env=v6 (.ListComp elt gens scope pos) scope env (xV gens pos) (newList []) false (firstIter gens env):=by
 rw[eval_ListComp,ha]
inductive EO(C:Cx)(lx:Lx)(ok:Addr->Prop)(P:CP)(s:ab)(Da:Addr)(s':ab):Prop where
 |mk (out:List D) (ρ':List LV) (lx':Lx) (ys:Array Value) (p:P out ρ' lx') (hD:s.heap.objs.size<=Da) (sa:bV lx lx') (l:nN C lx' s'.heap) (g:aH (W lx) cx s s') (la:dj s'.heap Da ys) (ra:dC (λa=>ok a/\a≠Da) s'.heap ys.toList out)
theorem nt.ns{ok:Addr->Prop}{s s':ab}{P:CP}{Da Cl:Addr}(p:nt C lx ok P s Da Cl s'):∃m,s'.heap.Ns Cl m:=by obtain⟨_,_,_,m,_,_,_,_,_,hm,_,_,_,_,_⟩:=p;exact⟨m,hm⟩
theorem nt.drop{env:Env}{ok okb:Addr->Prop}{og:Nat->List Addr}{μ:Str->Option Value}{s s':ab}{P:CP}{Da Cl:Addr}(S:St C sc env ρ lx ok okb og μ s)(p:nt C lx ok P s Da Cl s'){h':Heap}(hs':jQ Cl s'.heap h'):EO C lx ok P s Da {s' with heap:=h'}:=by
 refine nG λkG=>?_;obtain⟨out,ρ',lx',m,ys,q,hD,hC,hne,hm,sa,l,g,la,ra⟩:=p
 refine kG ?_
 have gC:aH (λb=>b=Cl) cx s' {s' with heap:=h'}:=fQ (t:=s'.toks) hm hs' rfl (ai _)
 have nC:∀a,(∃vs,dj s'.heap a vs)->a≠Cl:=λa l=>pS hm l.choose_spec
 exact⟨out,ρ',lx',ys,q,hD,sa,l.part λb o w e=>(hs'.2 b λq=>(S.apart hC).2.1 (sa.LW▸q▸w)).trans e,g.trans gC (λb w=>.inr (w▸hC)) (λ_ w=>w.elim),dj.grow gC (nC Da ⟨_,la⟩) la,ra.grow gC λa _ l=>nC a l⟩
theorem Ev.comp{scope sc':Scope}{elt:Expr}{gens:List bF}{pos:Pos}{ρc:List LV}{Q:Va->Lx->Prop}(hsc:(sc.names.map (·.1)).Nodup->fj sc scope=sc')(hcap:ki sc.names ρ scope.names ρc)(h:xK C n sc ρ lx sc' ρc elt gens λout _ lx1=>Q (.dat (.list out)) lx1)
  (hnd:(scope.names.map (·.1)).Nodup)(hkind:scope.kind=.function)(hxf:∀x∈jA gens,(x,aL) ∉ scope.names)(hs:∀env x,ba (iC gens) env x=pure x)(ha:eX gens=false):
  Ev C n sc (.ListComp elt gens scope pos) ρ lx Q:=λA env ok okb og μ s R E S=>by
 rw[jx ha]
 exact pf R E S hsc hnd hkind hcap hxf (hs env) h λDa Cl s' p=>by obtain⟨m,hm⟩:=p.ns;exact⟨m,hm,λh' hs'=>by obtain⟨out,_,lx',ys,q,hD,sa,l,g,la,ra⟩:=p.drop S hs';exact⟨.dat (.list out),lx',q,Rd.list la (S.okf Da hD) (ra.mono λa _ o=>o.1),sa,l,g⟩⟩
theorem zt{A:Around}{env:Env}{ok okb:Addr->Prop}{og:Nat->List Addr}{μ:Str->Option Value}{s s₁:ab}{i:Nat}{x:Str}{k:az}{lv₀:LV}{lx':Lx}{Da:Addr}{ys:Array Value}{out:List D}{P:Fl->List LV->Lx->Prop}(E:aY sc env)(S:St C sc env ρ lx ok okb og μ s)(B:cZ ρ)(a:d5 sc.names ρ i x k lv₀)(hk:k=.local\/k=.cell)
  (hD:s.heap.objs.size<=Da)(sa:bV lx lx')(l:nN C lx' s₁.heap)(g:aH (W lx) cx s s₁)(la:dj s₁.heap Da ys)(ra:dC (λa=>ok a/\a≠Da) s₁.heap ys.toList out)(q:P .nxt (ρ.set i (.own out)) lx'):
  ar C.M A (jh env x (.ref Da)) (λ_ s'=>i7 C sc env lx ok okb og s P .next s') bJ s₁:=by
 have S1:St C sc env ρ lx' (λa=>ok a/\a≠Da) okb og μ s₁:=
  S.move g sa l (λa e o=>⟨o,aK (ay e hD)⟩) (λa o=>o.1) (λ_ _ o=>o) (λ_ o=>o) (λa o=>S.sub a o.1) (λa e=>⟨(S.okf.grow g) a e,cq (ay (by refine cU la λ_ e=>?_;exact aC e) e)⟩)
 refine gc (lv:=.own out) (as:=[Da]) E S1 a hk ⟨Da,ys,rfl,rfl,la,ra⟩ (λb m=>(List.mem_singleton.mp m).symm▸⟨S.sub _ (S.okf Da hD),λo=>o.2 rfl,(S.apart hD).2.2⟩) (List.nodup_cons.mpr ⟨dw,bx⟩) (λj b _ m m'=>(S.owns j Da (List.mem_singleton.mp m▸m')).2.1 (S.okf Da hD)) λs'' S'' gx=>?_
 refine .at q trivial S'' (B.set λd e=>by cases e) ⟨sa,λa o=>o.1,λa e o=>⟨o,aK (ay e hD)⟩,λ_ o=>o,λ_ _ o=>o,λj b m=>?_,(g.mono (W':=WS env og lx) (λb w=>.inl (.inl w)) (λ_ w=>w.elim)).trans gx (λb w=>.inl (.inr (.inl w.frw))) (λ_ w=>w.elim)⟩
 by_cases q:j=i
 ·rw[if_pos q]at m;exact .inr (List.mem_singleton.mp m▸hD)
 ·rw[if_neg q]at m;exact .inl ⟨j,m⟩
theorem gT.assignOwn{x:Str}{elt:Expr}{scope sc':Scope}{gens:List bF}{cpos p pos:Pos}{i:Nat}{k:az}{lv₀:LV}{ρc:List LV}{P:Fl->List LV->Lx->Prop}(a:d5 sc.names ρ i x k lv₀)(hk:k=.local\/k=.cell)
  (hsc:(sc.names.map (·.1)).Nodup->fj sc scope=sc')(hcap:ki sc.names ρ scope.names ρc)(h:xK C n sc ρ lx sc' ρc elt gens λout _ lx1=>P .nxt (ρ.set i (.own out)) lx1)
  (hnd:(scope.names.map (·.1)).Nodup)(hkind:scope.kind=.function)(hxf:∀x∈jA gens,(x,aL) ∉ scope.names)(hs:∀env x,ba (iC gens) env x=pure x)(ha:eX gens=false)
  (hsw:∀env,aY sc env->kq (.ListComp elt gens scope cpos) (some (.Name x p)) pos.line env=pure false):gT C n sc (.Assign [.Name x p] (.ListComp elt gens scope cpos) pos) ρ lx P:=λA env ok okb og μ s R E S B=>by
 refine cJ ?_ (hsw env E)
 rw[jx ha]
 exact pf R E S hsc hnd hkind hcap hxf (hs env) h λDa Cl s' p=>by obtain⟨m,hm⟩:=p.ns;exact⟨m,hm,λh' hs'=>by refine nG λkG=>?_;obtain⟨out,_,lx',ys,q,hD,sa,l,g,la,ra⟩:=p.drop S hs';refine kG ?_;exact zt E S B a hk hD sa l g la ra q⟩
theorem gT.assignComp{x:Str}{elt:Expr}{scope sc':Scope}{gens:List bF}{cpos p pos:Pos}{i:Nat}{lv₀:LV}{ρc:List LV}{P:Fl->List LV->Lx->Prop}(a:d5 sc.names ρ i x .local lv₀)
  (hsc:(sc.names.map (·.1)).Nodup->fj sc scope=sc')(hcap:ki sc.names ρ scope.names ρc)(h:xK C n sc ρ lx sc' ρc elt gens λout _ lx1=>P .nxt (ρ.set i (.dat (.list out))) lx1)
  (hsw:∀env,aY sc env->kq (.ListComp elt gens scope cpos) (some (.Name x p)) pos.line env=pure true)
  (hnd:(scope.names.map (·.1)).Nodup)(hkind:scope.kind=.function)(hxf:∀x∈jA gens,(x,aL) ∉ scope.names)(hs:∀env x,ba (iC gens) env x=pure x)(ha:eX gens=false):
  gT C n sc (.Assign [.Name x p] (.ListComp elt gens scope cpos) pos) ρ lx P:=λA env ok okb og μ s R E S B=>by
 rw[exec_Assign_Name_used x p (.ListComp elt gens scope cpos) pos (hsw env E)]
 refine aa (cu (aa ?_))
 show ar _ A (do let _ <-v6 (.ListComp elt gens scope cpos) scope env (xV gens cpos) (newList []) (eX gens) (firstIter gens env) (some (nQ (.Name x p) env))) _ _ s
 rw[ha]
 refine aa (al (pf (use:=some (nQ (.Name x p) env)) (Q:=λ_ s'=>i7 C sc env lx ok okb og s P .next s') R E S hsc hnd hkind hcap hxf (hs env) h λDa Cl s' p=>?_) (λ_ s' hq=>aq (aq hq)) λ_ _ x=>x.elim)
 obtain⟨out,ρ',lx',m,ys,q,hD,hC,hne,hm,sa,l,g,la,ra⟩:=p
 have S1:=S.grow g sa l
 have hrd:Rd ok s'.heap (.ref Da) (.list out):=Rd.list la (S.okf Da hD) (ra.mono λa _ o=>o.1)
 refine oA (sI E S1 a (.inl rfl) (lv:=.dat (.list out)) ⟨rfl,_,rfl,hrd⟩ λog' μ' s'' S'' c=>?_)
 have apC:=S.apart hC
 have ClD:¬WS env og lx' Cl:=λw=>by
  rcases w with w|w|⟨j,w⟩
  ·exact apC.2.1 (cC (sa.W▸w))
  ·exact apC.1 w
  ·exact(S.owns j Cl w).2.1 (S.okf Cl hC)
 have hm2:s''.heap.Ns Cl m:=Ns.at hm λo=>c.g.heap _ o ClD
 exact⟨m,hm2,λh' hs'=>.at q trivial (S''.moveP (fQ (t:=s''.toks) (W:=λb=>b=Cl) hm2 hs' rfl (ai _)) (λb vs q l=>pS hm2 l q) (λb w=>w▸⟨S.okf Cl hC,apC.1,sa.LW.symm▸apC.2.1,apC.2.2⟩)) (B.set λd e=>by cases e)
  ((kh.trans (.of_grow g sa) c).transP (fQ (t:=s''.toks) (W:=λb=>b=Cl) hm2 hs' rfl (ai _)) (λb w=>w▸hC) (λ_ w=>w.elim))⟩
end
section
variable{C:Cx}{n:Nat}{sc:Scope}{ρ:List LV}{lx:Lx}{K:Va->Prop}{L:Bool->Prop}
theorem bj.units'{A:Around}(r:bj 2 A):A.units+65 < cLine:=du (jM (ah (aF ..) r.2.2) 65) (by decide)
open PySem.SeqAt in
theorem iM.inList{a b:Va}{d:D}{xs:List D}(ha:a.d=some d)(hb:b.d=some (.list xs))(h1:shaped (cj xs)=true)(h2:shaped d=true)(hm:∀y∈xs,noMix y d=true)(h:L (decide (countIn d xs≠0))):iM C .In a b L:=λA ok okb lx s v w r _ k rx ry=>by
 refine a7 (rx.rd k ha) λas ra _=>?_
 refine a7 (ry.rd k hb) λbs rb _=>?_
 exact in_list_dataH rb ra h1 h2 r.units' hm ⟨_,rfl,h,.refl⟩
open PySem.SeqAt in
theorem iM.notInList{a b:Va}{d:D}{xs:List D}(ha:a.d=some d)(hb:b.d=some (.list xs))(h1:shaped (cj xs)=true)(h2:shaped d=true)(hm:∀y∈xs,noMix y d=true)(h:L (!decide (countIn d xs≠0))):iM C .NotIn a b L:=λA ok okb lx s v w r _ k rx ry=>by
 refine a7 (rx.rd k ha) λas ra _=>?_
 refine a7 (ry.rd k hb) λbs rb _=>?_
 exact notIn_list_dataH rb ra h1 h2 r.units' hm ⟨_,rfl,h,.refl⟩
def zc(C:Cx)(op:fV)(a b:Va)(K:Va->Prop):Prop:=
 ∀A ok okb lx s x y,bj 2 A->RV ok okb lx s.heap a x->RV ok okb lx s.heap b y->ar C.M A (inplaceOp op x y) (λv s'=>∃r,K r/\RV ok okb lx s'.heap r v/\bG s s') bJ s
theorem zc.add_int{a b:Int}(h:K (.dat (.int (a+b)))):zc C .Add (.dat (.int a)) (.dat (.int b)) K:=λA ok okb lx s x y _ rx ry=>by
 obtain⟨t,rfl⟩:=Rd.int_inv rx;obtain⟨u,rfl⟩:=Rd.int_inv ry
 exact P.iadd_int ⟨_,h,Rd.int,.tk1⟩
theorem zc.sub_int{a b:Int}(h:K (.dat (.int (a - b)))):zc C .Sub (.dat (.int a)) (.dat (.int b)) K:=λA ok okb lx s x y _ rx ry=>by
 obtain⟨t,rfl⟩:=Rd.int_inv rx;obtain⟨u,rfl⟩:=Rd.int_inv ry
 exact P.isub_int ⟨_,h,Rd.int,.tk1⟩
theorem zc.add_str{a b:Str}(hs:a.length+b.length<=sizeLine)(h:K (.dat (.str (a++b)))):zc C .Add (.dat (.str a)) (.dat (.str b)) K:=λA ok okb lx s x y _ rx ry=>by
 obtain⟨t,rfl⟩:=Rd.str_inv rx;obtain⟨u,rfl⟩:=Rd.str_inv ry
 refine bR (PySem.SB.iadd (λt' k ht _=>⟨_,h,Rd.str,?_⟩) hs)
 exact .tk ht
theorem js{A:Around}{env:Env}{ok okb:Addr->Prop}{og:Nat->List Addr}{μ:Str->Option Value}{s:ab}{i:Nat}{x:Str}{k:az}{lv:LV}{r:Va}{Q:Value->ab->Prop}(E:aY sc env)(S:St C sc env ρ lx ok okb og μ s)(a:d5 sc.names ρ i x k lv)(hk:k=.local\/k=.cell)(hr:lv.va=some r)
  (h:∀v,RV ok okb lx s.heap r v->μ x=some v->Q v s):ar C.M A (loadName env x) Q bJ s:=by
 refine en a.get λe1 e2=>?_
 refine a7 ((S.vars i x k lv e1 e2).rv S.sub (λa m=>(S.owns i a m).1) hr) λv hv rv=>?_
 rcases hk with rfl|rfl
 ·exact by refine a7 S.ns λm hn hm=>?_;exact eQ (by rw[E.scope];exact E.kind) (E.at e1) hn ((hm x (cS E.nodup e1)).trans hv) (h v rv hv)
 ·exact by refine a7 (S.cell x (cS E.nodup e1)) λc hc hcell=>?_;exact uL (by rw[E.scope];exact E.kind) (E.at e1) hc (hv▸hcell) (h v rv hv)
theorem gT.aug{x:Str}{op:fV}{e:Expr}{p pos:Pos}{i:Nat}{k:az}{lv₀:LV}{r:Va}{P:Fl->List LV->Lx->Prop}(a:d5 sc.names ρ i x k lv₀)(hk:k=.local\/k=.cell)(hr:lv₀.va=some r)
  (h:Ev C (n+2) sc e ρ lx λr2 lx1=>zc C op r r2 λr3=>∃lv,r3.lv=some lv/\P .nxt (ρ.set i lv) lx1):gT C (n+2) sc (.AugAssign (.Name x p) op e pos) ρ lx P:=λA env ok okb og μ s R E S B=>by
 refine wpAny_AugAssign_Name (js E S a hk hr λv rv hv=>h.go R E S λv2 s₁ r2 lx₁ q rv2 S1 sa g=>?_)
 refine al (q A ok okb lx₁ s₁ v v2 R.two (S.rv g sa rv) rv2) (λv3 s₂ p=>?_) λ_ _ x=>x
 refine jH p λr3 hY0 rv3 g0=>?_;refine a7 hY0 λlv e1 p=>?_
 have hv:=G8 rv3 e1
 exact sI E (S1.grow0 g0) a hk hv.1 λog' μ' s' S' c=>.at p trivial S' (B.set hv.2) (.trans (.of_grow (g.trans0 g0) sa) c)
noncomputable def xI(C:Cx)(n:Nat)(sc:Scope)(t:Expr)(b:List Stmt)(P:Fl->List LV->Lx->Prop):Nat->List LV->Lx->Prop
 |0,_,_=>False
 |k+1,ρ,lx=>jI C n sc t ρ lx λc lx1=>if c=true then nO C n sc b ρ lx1 (λf ρ2 lx2=>match f with
   |.nxt=>xI C n sc t b P k ρ2 lx2
   |.cont=>xI C n sc t b P k ρ2 lx2
   |.brk=>P .nxt ρ2 lx2
   |.ret r=>P (.ret r) ρ2 lx2)else P .nxt ρ lx1
theorem x7{A:Around}{env:Env}{t:Expr}{b:List Stmt}{pos:Pos}{s:ab}{Q:Flow->ab->Prop}(I:Nat->ab->Prop)(ht:∀k s',I k s'->ar C.M A (mh t env (eval t env)) (λc s₂=>if c=true then ar C.M A (kj b env) (vU Q I k) bJ s₂ else Q .next s₂) bJ s')(k:Nat)(hk:I k s):
  ar C.M A (exec (.While t b [] pos) env) Q bJ s:=
 wpAny_While (codeAny_whileLoop I (λk s' hI=>al (ht k s' hI) (λc s₂ h₂=>by
  cases c with
  |false=>exact iY h₂
  |true=>exact al h₂ (λf s₃ h₃=>by cases f<;>exact h₃) λ_ _ x=>x.elim) λ_ _ x=>x.elim) k hk)
inductive Li(C:Cx)(n:Nat)(sc:Scope)(env:Env)(t:Expr)(b:List Stmt)(P:Fl->List LV->Lx->Prop)(lx:Lx)(ok okb:Addr->Prop)(og:Nat->List Addr)(s:ab)(k:Nat)(s':ab):Prop where
 |mk (ρ':List LV) (lx':Lx) (ok' okb':Addr->Prop) (og':Nat->List Addr) (μ':Str->Option Value) (q:xI C n sc t b P k ρ' lx') (st:St C sc env ρ' lx' ok' okb' og' μ' s') (nb:cZ ρ') (c:kh env lx lx' ok okb ok' okb' og og' s s')
theorem gT.while{t:Expr}{b:List Stmt}{pos:Pos}{P:Fl->List LV->Lx->Prop}(k:Nat)(h:xI C n sc t b P k ρ lx):gT C n sc (.While t b [] pos) ρ lx P:=λA env ok okb og μ s R E S B=>by
 refine x7 (Li C n sc env t b P lx ok okb og s) (λk s' h=>?_) k ⟨ρ,lx,ok,okb,og,μ,h,S,B,.refl⟩
 obtain⟨ρ',lx',ok',okb',og',μ',h,S',B',c⟩:=h
 cases k with
 |zero=>exact h.elim
 |succ k=>
  refine jI.go h R E S' λv s₁ lx₁ q S1 sa g=>?_
  have c1:=c.trans (.of_grow g sa)
  cases v with
  |false=>exact .at (f:=.nxt) q trivial S1 B' c1
  |true=>
   refine al ((q:nO C n sc b ρ' lx₁ _) A env ok' okb' og' μ' s₁ R E S1 B') (λfl s₂ h₂=>?_) λ_ _ x=>x
   obtain⟨f,ρ₂,lx₂,ok₂,okb₂,og₂,μ₂,q2,fr,S2,B2,c2⟩:=h₂
   cases f with
   |nxt=>obtain rfl:=fr.nxt;exact⟨k,bC _,_,_,_,_,_,_,q2,S2,B2,c1.trans c2⟩
   |cont=>obtain rfl:=fr.cont;exact⟨k,bC _,_,_,_,_,_,_,q2,S2,B2,c1.trans c2⟩
   |brk=>obtain rfl:=fr.brk;exact .at (f:=.nxt) q2 trivial S2 B2 (c1.trans c2)
   |ret r=>obtain⟨v,rfl,rv⟩:=fr.ret;exact .at (f:=.ret r) q2 rv S2 B2 (c1.trans c2)
theorem Ev.strMeth{o e:Expr}{name:Str}{id:String}{apos pos:Pos}{Q:Va->Lx->Prop}(slot:Slot "str" name id)(ty:typeOf (.builtin id)=pure (.type "method_descriptor"))
  (h:Ev C n sc o ρ lx λr lx1=>∃x,r=.dat (.str x)/\Ev C n sc e ρ lx1 λr2 lx2=>dS C n (.builtin id) [.dat (.str x),r2] lx2 Q)
  (hbase:∀env,f8 o name env (eval o env)=eval o env)(hs:bt [e]=true)(hline:(apos.endLine==pos.line)=true):Ev C n sc (.Call (.Attribute o name apos) [e] [] pos) ρ lx Q:=λA env ok okb og μ s R E S=>by
 refine dt (hbase env) (by rw[(bq hs).1];rfl) hline (h.go R E S λov s₁ r lx₁ q rv S1 sa g=>?_)
 obtain⟨x,rfl,q⟩:=q
 obtain⟨t,rfl⟩:=Rd.str_inv rv
 exact⟨"str",id,F.plainAttrs_str,slot,ty,wi _ _ _,(λ_ e=>nomatch e),qM rfl (Calls.evalArgs_plain (ja (q.go R E S1 λv2 s₂ r2 lx₂ q2 rv2 S2 sa2 g2=>x4
  (al (q2 A ok okb s₂ [.str x t,v2] R S2.wx (.cons Rd.str (.cons rv2 .nil))) (λ_ _ p=>(p.then g2 sa2).then g sa) λ_ _ x=>x))))⟩
theorem dS.join{x:Str}{xs:List Str}{r:Va}{Q:Va->Lx->Prop}(hr:r.d=some (.list (xs.map .str)))(hok:JoinOk x xs=true)(h:Q (.dat (.str (Txt.join x xs))) lx):dS C n (.builtin "str.join") [.dat (.str x),r] lx Q:=λA ok okb s vs R w a=>by
 refine ml (pG a) λv v' hX=>?_;obtain rfl:=hX.1;refine oG hX λ_ rv rv'=>?_
 obtain⟨t,rfl⟩:=Rd.str_inv rv
 refine ml (Rd.list_inv (rv'.rd w.sub hr)) λa vs hX=>?_;obtain rfl:=hX.1;refine wb hX λ_ _ l rs=>?_
 refine a7 (Cv rs) λls e1 e2=>?_
 have l':=l.isList
 rw[show vs=(strValues ls).toArray by rw[<-e1]]at l'
 exact bR (PySem.SC.join l' e2 hok λt' k ht _=>.of0 h Rd.str w.lxr (.tk ht))
theorem dS.count{x y:Str}{Q:Va->Lx->Prop}(h:Q (.dat (.int (Txt.count x y))) lx):dS C n (.builtin "str.count") [.dat (.str x),.dat (.str y)] lx Q:=λA ok okb s vs R w a=>by
 obtain⟨v,v',rfl,rv,rv'⟩:=pG a
 obtain⟨t,rfl⟩:=Rd.str_inv rv
 obtain⟨u,rfl⟩:=Rd.str_inv rv'
 exact PySem.SC.count (.of0 h Rd.int w.lxr .tk1)
theorem Ev.replace{o:Expr}{y z:Str}{k1 k2:Nat}{p1 p2 apos pos:Pos}{Q:Va->Lx->Prop}(hyz:(y==z)=false)(hz:z.length<=14)
  (h:Ev C n sc o ρ lx λr lx1=>∃x,r=.dat (.str x)/\x.length<=1048576/\Q (.dat (.str (gX x y z))) lx1)
  (hbase:∀env,f8 o "replace" env (eval o env)=eval o env)(hline:(apos.endLine==pos.line)=true):Ev C n sc (.Call (.Attribute o "replace" apos) [.Constant (.str y) k1 p1,.Constant (.str z) k2 p2] [] pos) ρ lx Q:=λA env ok okb og μ s R E S=>by
 refine PySem.Call_method2 (hbase env) rfl hline (h.go R E S λov s₁ r lx₁ q rv S1 sa g=>?_)
 obtain⟨x,hX⟩:=q;obtain rfl:=hX.1;refine(λhx q=>?_) hX.2.1 hX.2.2
 obtain⟨t,rfl⟩:=Rd.str_inv rv
 refine Y2 ("str") ("str.replace") ⟨F.plainAttrs_str,F.slot_str_replace,F.type_str_replace,wi _ _ _,(λ_ e=>nomatch e),qM rfl (Calls.evalArgs_plain (ja (fJ (ja (fJ (x4 ?_))))))⟩
 have h0:=S1.wd.toks
 refine bR (PySem.SC.replaceW (cq h0) (cq (iN h0)) (aK (bC _)) hyz hx hz λt' k ht _=>?_)
 exact iV.then g sa (.of0 q Rd.str S1.lxr (.tk (ah (aF _ 2) ht)))
end
section
variable{C:Cx}{n:Nat}{sc:Scope}{ρ:List LV}{lx:Lx}
theorem St.ownAt{env:Env}{ok okb:Addr->Prop}{og:Nat->List Addr}{μ:Str->Option Value}{s:ab}{i:Nat}{x:Str}{k:az}{ds:List D}(S:St C sc env ρ lx ok okb og μ s)(a:d5 sc.names ρ i x k (.own ds)):
  ∃b vs,μ x=some (.ref b)/\og i=[b]/\dj s.heap b vs/\dC ok s.heap vs.toList ds:=by
 refine BG (S.vars i x k _ a.get.1 a.get.2) λb vs e1 e2 l r=>?_
 exact Y2 b vs ⟨e1,e2,l,r⟩
theorem jf.nobor{ok okb okb':Addr->Prop}{lx:Lx}{h:Heap}{lv:LV}{u:Option Value}{as:List Addr}(hn:∀d,lv≠ .bor d)(x:jf ok okb lx h lv u as):jf ok okb' lx h lv u as:=by
 cases lv with
 |bor d=>exact absurd rfl (hn d)
 |_=>exact x
theorem St.mut{env:Env}{ok okb:Addr->Prop}{og:Nat->List Addr}{μ:Str->Option Value}{s s':ab}{i:Nat}{x:Str}{k:az}{ds ds':List D}{b:Addr}{vs:Array Value}(E:aY sc env)(S:St C sc env ρ lx ok okb og μ s)(B:cZ ρ)(a:d5 sc.names ρ i x k (.own ds))
  (hμ:μ x=some (.ref b))(g:aH (λc=>c=b) cx s s')(l:dj s'.heap b vs)(r:dC ok s'.heap vs.toList ds'):St C sc env (ρ.set i (.own ds')) lx ok okb og μ s'/\kh env lx lx ok okb ok okb og og s s':=by
 refine BG (S.ownAt a) λb' vs' e1 e2 l0 _=>?_
 cases hμ.symm.trans e1
 have hb:=S.owns i b (e2▸.head _)
 have nok:∀c,ok c->(∃vs,dj s.heap c vs)->¬c=b:=λc o _ q=>hb.2.1 (q▸o)
 have nfr:¬i8 env b:=λw=>S.nolist b w _ l0
 exact⟨{
  wd:=S.wd.grow g λc q=>q▸hb.2.2
  okf:=S.okf.grow g
  sub:=S.sub
  len:=by rw[dL];exact S.len
  ns:=by refine a7 S.ns λm n r=>?_;exact⟨m,Ns.at n λo=>g.heap _ o (λw=>nfr (.inl w.symm)),r⟩
  cell:=λy e=>by refine a7 (S.cell y e) λc e1 e2=>?_;exact⟨c,e1,IsCell.at e2 λo=>g.heap _ o (λw=>nfr (.inr ⟨y,w▸e1⟩))⟩
  cellx:=λy c e=>by refine cU (S.cellx y c e) λv e2=>?_;exact⟨v,IsCell.at e2 λo=>g.heap _ o (λw=>nfr (.inr ⟨y,w▸e⟩))⟩
  vars:=λj y k' lv' f1 f2=>by
   by_cases hj:j=i
   ·subst hj
    cases ao (a.get.1.symm.trans f1)
    rw[dT (by rw[S.len];exact(List.getElem?_eq_some_iff.mp a.get.1).1)]at f2
    cases f2
    exact Y2 b vs ⟨hμ,e2,l,r⟩
   ·rw[bU (Ne.symm hj)]at f2
    have hn:∀d,lv'≠ .bor d:=λd q=>B j d (q▸f2)
    exact((S.vars j y k' lv' f1 f2).nobor hn).move g .refl nok nok (λ_ _ o=>o) (λ_ _ o=>o) (λc m q=>hj (S.ownx j i c m (by rw[e2,q];exact .head _)))|>.nobor hn
  owns:=S.owns
  ownd:=S.ownd
  ownx:=S.ownx
  lxr:=S.lxr.part λc o w e=>g.heap c o (λq=>S.lxok b hb.1 (q▸w)) e
  lxok:=S.lxok
  lxf:=S.lxf
  lx0:=S.lx0
  fr0:=S.fr0},.refl,λ_ o=>o,λ_ _ o=>o,λ_ o=>o,λ_ _ o=>o,λj c m=>.inl ⟨j,m⟩,g.mono (λc q=>.inl (.inr (.inr ⟨i,by rw[e2,q];exact .head _⟩))) (λ_ w=>w.elim)⟩
inductive KD(C:Cx)(sc:Scope)(env:Env)(lx:Lx)(ok okb:Addr->Prop)(og:Nat->List Addr)(μ:Str->Option Value)(s:ab)(Q:Va->List LV->Lx->Prop)(v:Value)(s':ab):Prop where
 |mk (r:Va) (ρ':List LV) (lx':Lx) (q:Q r ρ' lx') (rv:RV ok okb lx' s'.heap r v) (st:St C sc env ρ' lx' ok okb og μ s') (nb:cZ ρ') (c:kh env lx lx' ok okb ok okb og og s s')
def uJ(C:Cx)(n:Nat)(sc:Scope)(e:Expr)(ρ:List LV)(lx:Lx)(Q:Va->List LV->Lx->Prop):Prop:=
 ∀A env ok okb og μ s,bj n A->aY sc env->St C sc env ρ lx ok okb og μ s->cZ ρ->ar C.M A (eval e env) (KD C sc env lx ok okb og μ s Q) bJ s
theorem uJ.of{e:Expr}{Q:Va->List LV->Lx->Prop}(h:Ev C n sc e ρ lx λr lx1=>Q r ρ lx1):uJ C n sc e ρ lx Q:=λA env ok okb og μ s R E S B=>
 h.go R E S λv s₁ r lx₁ q rv S1 sa g=>⟨r,ρ,lx₁,q,rv,S1,B,.of_grow g sa⟩
theorem jT{h:Heap}{b:Addr}{vs:Array Value}{n:Nat}(l:IsL h b vs n)(f:Array Value->Array Value):dj (h.update b (aS f)) b (f vs):=⟨_,l.update f⟩
theorem ju{s:ab}{b:Addr}{vs:Array Value}{n:Nat}(l:IsL s.heap b vs n)(f:Obj->Obj):aH (λc=>c=b) cx s {s with heap:=s.heap.update b f}:=
 aH.same (t:=s.toks) (uS ..) l (λq=>absurd q.1 (by dsimp only;decide)) rfl (ai _)
theorem St.upd{env:Env}{ok okb:Addr->Prop}{og:Nat->List Addr}{μ:Str->Option Value}{s:ab}{i:Nat}{x:Str}{k:az}{ds:List D}{b:Addr}(E:aY sc env)(S:St C sc env ρ lx ok okb og μ s)(B:cZ ρ)(a:d5 sc.names ρ i x k (.own ds))(hμ:μ x=some (.ref b)):
  ∃vs nn,IsL s.heap b vs nn/\dC ok s.heap vs.toList ds/\∀(f:Array Value->Array Value) {ds':List D},dC ok s.heap (f vs).toList ds'->aH (λc=>c=b) cx s {s with heap:=s.heap.update b (aS f)}/\(∀{v d},Rd ok s.heap v d->Rd ok (s.heap.update b (aS f)) v d)/\
   St C sc env (ρ.set i (.own ds')) lx ok okb og μ {s with heap:=s.heap.update b (aS f)}/\kh env lx lx ok okb ok okb og og s {s with heap:=s.heap.update b (aS f)}:=by
 refine BG (S.ownAt a) λb' vs f1 f2 hY2 rs=>?_;refine nG λkG=>?_;obtain⟨nn,hb⟩:=hY2
 cases hμ.symm.trans f1
 refine kG ?_
 have nok:∀c,ok c->(∃vs,dj s.heap c vs)->¬c=b:=λc o _ q=>(S.owns i b (f2▸.head _)).2.1 (q▸o)
 exact Y2 vs nn ⟨hb,rs,λf ds' r=>have g:=ju hb (aS f);⟨g,λr=>r.grow g nok,S.mut E B a hμ g (jT hb f) (r.grow g nok)⟩⟩
theorem D2{vs:Array Value}{j:Nat}(h:j < vs.size):(vs.eraseIdxIfInBounds j).toList=vs.toList.take j++vs.toList.drop (j+1):=by
 rw[mz,dif_pos h,Array.toList_eraseIdx,eJ]
theorem dC.erase{ok:Addr->Prop}{h:Heap}{vs:Array Value}{ds:List D}(r:dC ok h vs.toList ds){j:Nat}(hj:j < ds.length):dC ok h (vs.eraseIdxIfInBounds j).toList (ds.eraseIdx j):=by
 rw[D2 (cX hj r.length.symm),eJ]
 exact(r.take j).append (r.drop (j+1))
theorem zL{α:Type}[BEq α][LawfulBEq α]{ok:Addr->Prop}{h:Heap}{vs:Array Value}{ds:List α}{enc:α->D}(rs:dC ok h vs.toList (ds.map enc)){m:α}(hm:m∈ds){p:Value->Bool}(hp:∀c v,Rd ok h v (enc c)->p v=(c==m)):
  (∀y∈vs,∃c,Rd ok h y (enc c))/\∃hj:ds.idxOf m < vs.size,p vs[ds.idxOf m]=true/\∀j (h1:j < vs.size),j < ds.idxOf m->p vs[j]=false:=by
 have hlen:vs.size=ds.length:=rs.length.trans (af ..)
 have at_:∀(j:Nat) (hj:j < vs.size),Rd ok h vs[j] (enc (ds[j]'(hlen▸hj))):=λj hj=>by
  obtain⟨y,hX⟩:=rs.get (i:=j) (d:=enc (ds[j]'(hlen▸hj))) (by rw[aW,aD (hlen▸hj)];rfl);refine(λhy ry=>?_) hX.1 hX.2
  rw[a9,bn hj]at hy
  exact ao hy▸ry
 have hj:ds.idxOf m < ds.length:=List.idxOf_lt_length_iff.mpr hm
 exact⟨λy hy=>by obtain⟨j,hj,e⟩:=Array.mem_iff_getElem.mp hy;exact⟨_,e▸at_ j hj⟩,hlen▸hj,by rw[hp _ _ (at_ _ (hlen▸hj)),List.getElem_idxOf,beq_self_eq_true],λj h1 h2=>by rw[hp _ _ (at_ j h1)];exact List.not_of_lt_findIdx (p:=(· ==m)) h2⟩
theorem pY{A:Around}{env:Env}{s:ab}{ok okb:Addr->Prop}{og:Nat->List Addr}{μ:Str->Option Value}{x name:Str}{id:String}{e:Expr}{p apos pos:Pos}{i:Nat}{k:az}{ds:List D}{Q:Value->ab->Prop}(E:aY sc env)(S:St C sc env ρ lx ok okb og μ s)(a:d5 sc.names ρ i x k (.own ds))(hk:k=.local\/k=.cell)
  (slot:Slot "list" name id)(ty:typeOf (.builtin id)=pure (.type "method_descriptor"))(h:∀b,μ x=some (.ref b)->ar C.M A (dY pos (.builtin id) [.ref b] [(false,eval e env)] []) Q bJ s)
  (hd:(x==("__debug__":Str))=false)(hs:bt [e]=true)(hline:(apos.endLine==pos.line)=true):ar C.M A (eval (.Call (.Attribute (.Name x p) name apos) [e] [] pos) env) Q bJ s:=by
 refine dt rfl (by rw[(bq hs).1];rfl) hline ?_
 refine BG (S.ownAt a) λb vs e1 e2 hY2 r=>?_;refine cU hY2 λnn hb=>?_
 refine dG (js E S a hk (r:=.bor (.list ds)) rfl λv rv hv=>?_) hd
 cases e1.symm.trans hv
 exact Y2 ("list") id ⟨F.plainAttrs_list,slot,ty,⟨_,hb,rfl⟩,λc q=>by cases q;exact⟨_,hb,rfl⟩,h b e1⟩
theorem gT.append{x:Str}{e:Expr}{p apos pos pos':Pos}{i:Nat}{k:az}{ds₀:List D}{P:Fl->List LV->Lx->Prop}(a:d5 sc.names ρ i x k (.own ds₀))(hk:k=.local\/k=.cell)
  (h:uJ C n sc e ρ lx λr ρ' lx1=>∃d ds,r=.dat d/\d5 sc.names ρ' i x k (.own ds)/\ds.length<=sizeLine/\P .nxt (ρ'.set i (.own (ds++[d]))) lx1)
  (hd:(x==("__debug__":Str))=false)(hs:bt [e]=true)(hline:(apos.endLine==pos.line)=true):gT C n sc (.Expr (.Call (.Attribute (.Name x p) "append" apos) [e] [] pos) pos') ρ lx P:=λA env ok okb og μ s R E S B=>by
 refine jK ?_ (by unfold gW;rw[E.scope,E.kind];rfl) rfl
 refine pY E S a hk F.slot_list_append F.type_list_append (λb hμ=>km (al (h A env ok okb og μ s R E S B) (λv s₁ p=>?_) λ_ _ x=>x)) hd hs hline
 refine nG λkG=>?_;obtain⟨r,ρ',lx₁,⟨d,ds,rfl,a',hz,q⟩,rv,S1,B1,c⟩:=p
 refine xP (S1.upd E B1 a' hμ) λvs nn hb rs k=>?_
 refine wb (k (λxs=>xs.push v) (ds':=ds++[d]) (by rw[fH];exact rs.append (.cons rv .nil))) λ_ _ S2 c2=>?_
 refine kG ?_
 exact Y2 vs nn ⟨ah (aJ rs.length) hz,hb,.at (f:=.nxt) q trivial S2 (B1.set λd e=>by cases e) (c.trans c2)⟩
theorem uJ.pop{x:Str}{e:Expr}{p apos pos:Pos}{i:Nat}{k:az}{ds:List D}{Q:Va->List LV->Lx->Prop}(a:d5 sc.names ρ i x k (.own ds))(hk:k=.local\/k=.cell)
  (h:Ev C n sc e ρ lx λr lx1=>∃m j d,r=.dat (.int m)/\dn m=true/\cP m ds.length=some j/\ds[j]? =some d/\ds.length<=sizeLine/\Q (.dat d) (ρ.set i (.own (ds.eraseIdx j))) lx1)
  (hd:(x==("__debug__":Str))=false)(hs:bt [e]=true)(hline:(apos.endLine==pos.line)=true):uJ C n sc (.Call (.Attribute (.Name x p) "pop" apos) [e] [] pos) ρ lx Q:=λA env ok okb og μ s R E S B=>by
 refine pY E S a hk F.slot_list_pop F.type_list_pop (λb hμ=>qI (h.go R E S λv s₁ r lx₁ q rv S1 sa g1=>?_)) hd hs hline
 refine nG λkG=>?_;obtain⟨m,j,d,hX⟩:=q;obtain rfl:=hX.1;refine kG ?_;refine LB hX λ_ hf hj hdj hz q=>?_
 refine nG λkG=>?_;obtain⟨u,rfl⟩:=Rd.int_inv rv
 refine ml (S1.upd E B a hμ) λvs nn hX=>?_;refine kG ?_;refine oG hX λhb rs k=>?_
 have hlen:vs.size=ds.length:=rs.length
 refine nG λkG=>?_;obtain⟨y,hy,ry⟩:=rs.get hdj
 refine wb (k (λxs=>xs.eraseIdxIfInBounds j) (rs.erase (List.getElem?_eq_some_iff.mp hdj).1)) λ_ kr S2 c2=>?_
 refine kG ?_
 exact Y6 vs nn m u j y ⟨hlen▸hz,rfl,hb,hf,by rw[hlen];exact hj,a9▸hy,.dat d,_,lx₁,q,kr ry,S2,B.set λd e=>(by cases e),(kh.of_grow g1 sa).trans c2⟩
theorem uJ.tuple2{e1 e2:Expr}{kk:Nat}{pos:Pos}{Q:Va->List LV->Lx->Prop}(h:uJ C n sc e1 ρ lx λr ρ1 lx1=>∃d,r=.dat d/\Ev C n sc e2 ρ1 lx1 λr2 lx2=>∃d2,r2=.dat d2/\Q (.dat (.tuple [d,d2])) ρ1 lx2)(hs:bt [e1,e2]=true):uJ C n sc (.Tuple [e1,e2] kk pos) ρ lx Q:=λA env ok okb og μ s R E S B=>by
 refine wpAny_Tuple ?_
 refine(λh1 h2=>?_) (bq (env:=env) hs).1 (bq (env:=env) hs).2
 rw[h1,(bq h2).1]
 refine ja (al (h A env ok okb og μ s R E S B) (λv s₁ p=>?_) λ_ _ x=>x)
 refine nG λkG=>?_;obtain⟨r,ρ1,lx₁,⟨d,rfl,q2⟩,rv,S1,B1,c1⟩:=p
 refine kG ?_
 refine ja (q2.go R E S1 λv2 s₂ r2 lx₂ q rv2 S2 sa g=>x4 ?_)
 refine nG λkG=>?_;obtain⟨d2,rfl,q⟩:=q
 refine kG ?_
 exact⟨by simp[sizeLine],.dat (.tuple [d,d2]),ρ1,lx₂,q,Rd.tuple ⟨_,aB _ rfl,rfl,_,rfl⟩ (dC.grow0 (.cons (S1.rv g sa rv) (.cons rv2 .nil)) bB),S2.grow0 bB,B1,(c1.trans (.of_grow g sa)).trans (.of_grow bB.of0 .refl)⟩
theorem gT.remove{x:Str}{e:Expr}{p apos pos pos':Pos}{i:Nat}{k:az}{is:List Int}{P:Fl->List LV->Lx->Prop}(a:d5 sc.names ρ i x k (.own (is.map .int)))(hk:k=.local\/k=.cell)
  (h:Ev C n sc e ρ lx λr lx1=>∃m,r=.dat (.int m)/\m∈is/\is.length<=sizeLine/\P .nxt (ρ.set i (.own ((is.erase m).map .int))) lx1)
  (hd:(x==("__debug__":Str))=false)(hs:bt [e]=true)(hline:(apos.endLine==pos.line)=true):gT C n sc (.Expr (.Call (.Attribute (.Name x p) "remove" apos) [e] [] pos) pos') ρ lx P:=λA env ok okb og μ s R E S B=>by
 refine jK ?_ (by unfold gW;rw[E.scope,E.kind];rfl) rfl
 refine pY E S a hk F.slot_list_remove F.type_list_remove (λb hμ=>PySem.P.remove_list (h.go R E S λv s₁ r lx₁ q rv S1 sa g1=>?_)) hd hs hline
 refine cU q λm hX=>?_;obtain rfl:=hX.1;refine wb hX λ_ hm hz q=>?_
 obtain⟨u,rfl⟩:=Rd.int_inv rv
 refine xP (S1.upd E B a hμ) λvs nn hb rs k=>?_
 have hlen:vs.size=is.length:=rs.length.trans (af ..)
 have hj:is.idxOf m < is.length:=List.idxOf_lt_length_iff.mpr hm
 obtain⟨f1,f2,f3,f4⟩:=zL (p:=λy=>match y with|.int c _=>c==m|_=>false) rs hm λc v r=>by obtain⟨t,e⟩:=Rd.int_inv r;exact e▸rfl
 obtain⟨_,_,S2,c2⟩:=k (λxs=>xs.eraseIdxIfInBounds (is.idxOf m)) (ds':=(is.erase m).map .int) (by
  rw[List.erase_eq_eraseIdx_of_idxOf rfl,show((is.eraseIdx (is.idxOf m)).map aw)=(is.map aw).eraseIdx (is.idxOf m)by rw[eJ,eJ,aQ,hH,q9]]
  exact rs.erase (cX hj (af ..).symm))
 exact Y4 vs nn (λy=>match y with|.int c _=>c==m|_=>false) (is.idxOf m) ⟨f2,hlen▸hz,hb,λy hy=>by obtain⟨c,r⟩:=f1 y hy;exact by obtain⟨t,e⟩:=Rd.int_inv r;exact e▸PySem.MeetsSeq.EqGives.int _ m t u,f3,f4,.at (f:=.nxt) q trivial S2 (B.set λd e=>by cases e) ((kh.of_grow g1 sa).trans c2)⟩
theorem gT.newOwn{x:Str}{lp p pos:Pos}{i:Nat}{k:az}{lv₀:LV}{P:Fl->List LV->Lx->Prop}(a:d5 sc.names ρ i x k lv₀)(hk:k=.local\/k=.cell)(q:P .nxt (ρ.set i (.own [])) lx):gT C n sc (.Assign [.Name x p] (.List [] lp) pos) ρ lx P:=λA env ok okb og μ s R E S B=>by
 refine cJ ?_ rfl
 refine wh (iW ⟨bH _,?_⟩)
 exact zt E S B a hk (ai _) .refl (S.lxr.grow0 bB) bB.of0 ⟨_,aB _ rfl⟩ .nil q
theorem GE(a b:Str):(a.cps.toList==b.cps.toList)=(a==b):=by
 rw[wk,beq_iff_eq,beq_iff_eq]
 exact⟨λh=>congrArg oI (Array.ext' h),λh=>h▸rfl⟩
theorem Ev.index{o e:Expr}{apos pos:Pos}{Q:Va->Lx->Prop}
  (h:Ev C n sc o ρ lx λr lx1=>∃xs:List Str,r.d=some (.list (xs.map .str))/\Ev C n sc e ρ lx1 λr2 lx2=>∃x,r2=.dat (.str x)/\x∈xs/\(xs.length:Int) < 2 ^ 63 - 1/\Q (.dat (.int (xs.idxOf x:Nat))) lx2)
  (hbase:∀env,f8 o "index" env (eval o env)=eval o env)(hs:bt [e]=true)(hline:(apos.endLine==pos.line)=true):Ev C n sc (.Call (.Attribute o "index" apos) [e] [] pos) ρ lx Q:=λA env ok okb og μ s R E S=>by
 refine dt (hbase env) (by rw[(bq hs).1];rfl) hline (h.go R E S λov s₁ r lx₁ q rv S1 sa g=>?_)
 refine a7 q λxs e1 q=>?_
 refine ml ((rv.rd S.sub e1).list_inv) λb vs hX=>?_;obtain rfl:=hX.1;refine wb hX λ_ hokb hY2 rs=>?_;refine cU hY2 λnn hb=>?_
 refine Y2 ("list") ("list.index") ⟨F.plainAttrs_list,F.slot_list_index,F.type_list_index,⟨_,hb,rfl⟩,λc q=>by cases q;exact⟨_,hb,rfl⟩,PySem.P.index_list (q.go R E S1 λv2 s₂ r2 lx₂ q rv2 S2 sa2 g2=>?_)⟩
 obtain⟨x,rfl,hx,hz,q2⟩:=q
 obtain⟨u,rfl⟩:=Rd.str_inv rv2
 have hlen:vs.size=xs.length:=rs.length.trans (af ..)
 obtain⟨f1,f2,f3,f4⟩:=zL (p:=λy=>match y with|.str c _=>c.cps.toList==x.cps.toList|_=>false) rs hx λc v r=>by obtain⟨t,e⟩:=Rd.str_inv r;exact e▸GE c x
 exact Y4 vs nn (λy=>match y with|.str c _=>c.cps.toList==x.cps.toList|_=>false) (xs.idxOf x) ⟨f2,g2.heap _ _ (λw=>S1.lxok b hokb (cC w)) hb,λy hy=>by obtain⟨c,r⟩:=f1 y hy;exact by obtain⟨t,e⟩:=Rd.str_inv r;exact e▸PySem.SeqRoads2.EqGives.str _ x t u,by have:=List.idxOf_lt_length_iff.mpr hx;exact ts (Int.ofNat_lt.mpr (cX f2 hlen)) hz,f3,f4,((iV.of0 q2 Rd.int S2.lxr .tk1).then g2 sa2).then g sa⟩
end
abbrev DE:=List LV->Lx->Option (Va × Lx)
abbrev DT:=List LV->Lx->Option (Bool × Lx)
abbrev DL:=List LV->Lx->Option (List Va × Lx)
abbrev DO:=List LV->Lx->Option (Option Int × Lx)
abbrev DI:=List LV->Lx->Option (Bool × List D × Lx)
abbrev DM:=List LV->Lx->Option (Va × List LV × Lx)
abbrev DS:=List LV->Lx->Option (Fl × List LV × Lx)
abbrev DF:=List Va->Lx->Option (Va × Lx)
def Ok{α:Type}(o:Option α)(Q:α->Prop):Prop:=match o with
 |some a=>Q a
 |none=>False
section
variable{α β:Type}{o p:Option α}{Q Q':α->Prop}
theorem Ok.bind{f:α->Option β}{Q:β->Prop}(h:Ok (o.bind f) Q):Ok o λa=>Ok (f a) Q:=by cases o<;>exact h
theorem Ok.map{f:α->β}{Q:β->Prop}(h:Ok (o.map f) Q):Ok o λa=>Q (f a):=by cases o<;>exact h
theorem Ok.iff{c:Bool}(h:Ok (if c=true then o else none) Q):c=true/\Ok o Q:=by cases c with
 |true=>exact⟨rfl,h⟩
 |false=>exact h.elim
theorem Ok.iff'{c:Prop}[Decidable c](h:Ok (if decide c=true then o else none) Q):c/\Ok o Q:=⟨of_decide_eq_true h.iff.1,h.iff.2⟩
theorem Ok.ite{c:Bool}(h:Ok (if c=true then o else p) Q):c=true/\Ok o Q\/c=false/\Ok p Q:=by cases c with
 |true=>exact .inl ⟨rfl,h⟩
 |false=>exact .inr ⟨rfl,h⟩
theorem Ok.or(h:Ok (o.or p) Q):Ok o Q\/Ok p Q:=by cases o with
 |none=>exact .inr h
 |some a=>exact .inl h
theorem Ok.mono(h:Ok o Q)(k:∀a,Q a->Q' a):Ok o Q':=by cases o with
 |none=>exact h
 |some a=>exact k a h
theorem Ok.of{a:α}(e:o=some a)(q:Q a):Ok o Q:=by obtain rfl:=e;exact q
theorem Ok.eq(h:Ok o Q):∃a,o=some a/\Q a:=by cases o with
 |none=>exact h.elim
 |some a=>exact⟨a,rfl,h⟩
end
abbrev zb{α β:Type}(a:α)(b:β):α->β->Prop:=λx y=>x=a/\y=b
abbrev Je{α β γ:Type}(a:α)(b:β)(c:γ):α->β->γ->Prop:=λx y z=>x=a/\y=b/\z=c
structure SE(C:Cx)(n:Nat)(sc:Scope)(e:Expr)(f:DE):Prop where
 run:∀ρ lx r l,f ρ lx=some (r,l)->Ev C n sc e ρ lx (zb r l)
structure SB(C:Cx)(n:Nat)(sc:Scope)(e:Expr)(f:DT):Prop where
 run:∀ρ lx r l,f ρ lx=some (r,l)->jI C n sc e ρ lx (zb r l)
structure SL(C:Cx)(n:Nat)(sc:Scope)(es:List Expr)(f:DL):Prop where
 run:∀ρ lx r l,f ρ lx=some (r,l)->qX C n sc es ρ lx (zb r l)
structure SO(C:Cx)(n:Nat)(sc:Scope)(e:Option Expr)(f:DO):Prop where
 run:∀ρ lx r l,f ρ lx=some (r,l)->xS C n sc e ρ lx (zb r l)
structure SI(C:Cx)(n:Nat)(sc:Scope)(e tg:Expr)(f:DI):Prop where
 run:∀ρ lx fz ds l,f ρ lx=some (fz,ds,l)->iJ C n sc e tg fz ρ lx (zb ds l)
structure SM(C:Cx)(n:Nat)(sc:Scope)(e:Expr)(f:DM):Prop where
 run:∀ρ lx r ρ' l,f ρ lx=some (r,ρ',l)->uJ C n sc e ρ lx (Je r ρ' l)
structure S1(C:Cx)(n:Nat)(sc:Scope)(st:Stmt)(f:DS):Prop where
 run:∀ρ lx fl ρ' l,f ρ lx=some (fl,ρ',l)->gT C n sc st ρ lx (Je fl ρ' l)
structure SS(C:Cx)(n:Nat)(sc:Scope)(b:List Stmt)(f:DS):Prop where
 run:∀ρ lx fl ρ' l,f ρ lx=some (fl,ρ',l)->nO C n sc b ρ lx (Je fl ρ' l)
def kg(C:Cx)(n:Nat)(v:Value)(f:DF):Prop:=∀rs lx r l,f rs lx=some (r,l)->dS C n v rs lx (zb r l)
theorem eg{α β:Type}{o:Option α}{f:α->Option β}{b:β}(h:o.bind f=some b):∃a,o=some a/\f a=some b:=Option.bind_eq_some_iff.mp h
theorem tB{α β:Type}{o:Option α}{f:α->β}{b:β}(h:o.map f=some b):∃a,o=some a/\f a=b:=Option.map_eq_some_iff.mp h
theorem cb{α:Type}{c:Bool}{o:Option α}{b:α}(h:(if c=true then o else none)=some b):c=true/\o=some b:=by
 cases c with
 |true=>exact⟨rfl,h⟩
 |false=>cases h
inductive eP:List (Str × az)->Nat->Str->az->Prop where
 |here {x k ns}:eP ((x,k)::ns) 0 x k
 |there {x k ns i y k'}:eP ns i y k'->eP ((x,k)::ns) (i+1) y k'
theorem eP.get{ns:List (Str × az)}{i:Nat}{x:Str}{k:az}(h:eP ns i x k):ns[i]? =some (x,k):=by
 induction h with
 |here=>rfl
 |there _ ih=>exact ih
theorem eP.at{ns:List (Str × az)}{i:Nat}{x:Str}{k:az}(h:eP ns i x k){ρ:List LV}{lv:LV}(e:ρ[i]? =some lv):d5 ns ρ i x k lv:=⟨h.get,e⟩
abbrev jW(k:az):Prop:=k=.local\/k=.cell
noncomputable def dM:Va->Option Int
 |.dat (.int i)=>some i
 |_=>none
noncomputable def ia:Va->Option Str
 |.dat (.str x)=>some x
 |_=>none
noncomputable def y4:Va->Option Bool
 |.dat (.bool x)=>some x
 |_=>none
noncomputable def Bh:Va->Option (List D)
 |.dat (.list x)=>some x
 |_=>none
noncomputable def GA:Va->Option (List D)
 |.bor (.list x)=>some x
 |_=>none
noncomputable def CX:Va->Bool
 |.dat .none=>true
 |_=>false
section
variable{r:Va}{P:Va->Prop}
theorem vx{Q:Int->Prop}(h:Ok (dM r) Q)(k:∀i,Q i->P (.dat (.int i))):P r:=by
 cases r with
 |dat d=>cases d with
  |int i=>exact k i h
  |_=>exact h.elim
 |_=>exact h.elim
theorem iz{Q:Str->Prop}(h:Ok (ia r) Q)(k:∀i,Q i->P (.dat (.str i))):P r:=by
 cases r with
 |dat d=>cases d with
  |str i=>exact k i h
  |_=>exact h.elim
 |_=>exact h.elim
theorem xB{Q:Bool->Prop}(h:Ok (y4 r) Q)(k:∀i,Q i->P (.dat (.bool i))):P r:=by
 cases r with
 |dat d=>cases d with
  |bool i=>exact k i h
  |_=>exact h.elim
 |_=>exact h.elim
theorem vH{Q:List D->Prop}(h:Ok (Bh r) Q)(k:∀i,Q i->P (.dat (.list i))):P r:=by
 cases r with
 |dat d=>cases d with
  |list i=>exact k i h
  |_=>exact h.elim
 |_=>exact h.elim
theorem El{Q:List D->Prop}(h:Ok (GA r) Q)(k:∀i,Q i->P (.bor (.list i))):P r:=by
 cases r with
 |bor d=>cases d with
  |list i=>exact k i h
  |_=>exact h.elim
 |_=>exact h.elim
theorem CW(h:CX r=true)(k:P (.dat .none)):P r:=by
 cases r with
 |dat d=>cases d with
  |none=>exact k
  |_=>exact by cases h
 |_=>exact by cases h
end
theorem dB{r:Va}{i:Int}(h:dM r=some i):r=.dat (.int i):=vx (P:=λr=>r=.dat (.int i)) (Ok.of (Q:=λj=>j=i) h rfl) λ_ e=>by rw[e]
theorem kE{r:Va}{x:Str}(h:ia r=some x):r=.dat (.str x):=iz (P:=λr=>r=.dat (.str x)) (Ok.of (Q:=λj=>j=x) h rfl) λ_ e=>by rw[e]
section
variable{C:Cx}{n:Nat}{sc:Scope}{pos:Pos}
theorem jI.mono{e:Expr}{ρ:List LV}{lx:Lx}{Q Q':Bool->Lx->Prop}(h:jI C n sc e ρ lx Q)(k:∀r l,Q r l->Q' r l):jI C n sc e ρ lx Q':=
 λA env ok okb og μ s r E S=>al (h A env ok okb og μ s r E S) (λ_ _ p=>by obtain⟨l,q,a,b,c⟩:=p;exact⟨l,k _ _ q,a,b,c⟩) λ_ _ x=>x
theorem qX.mono:∀{es:List Expr} {ρ:List LV} {lx:Lx} {Q Q':List Va->Lx->Prop},qX C n sc es ρ lx Q->(∀r l,Q r l->Q' r l)->qX C n sc es ρ lx Q'
 |[],_,_,_,_,h,k=>k _ _ h
 |_::es,_,_,_,_,h,k=>Ev.mono h λr l h'=>qX.mono (es:=es) h' λrs l2 q=>k _ _ q
theorem iJ.mono{e tg:Expr}{fz:Bool}{ρ:List LV}{lx:Lx}{Q Q':List D->Lx->Prop}(h:iJ C n sc e tg fz ρ lx Q)(k:∀r l,Q r l->Q' r l):iJ C n sc e tg fz ρ lx Q':=
 λA env ok okb og μ s R E S=>al (h A env ok okb og μ s R E S) (λ_ _ h=>al h (λ_ _ p=>by obtain⟨ds,l,pr,pg,q,a,b,c,d,e,f,g,i⟩:=p;exact⟨ds,l,pr,pg,k _ _ q,a,b,c,d,e,f,g,i⟩) λ_ _ x=>x) λ_ _ x=>x
theorem xS.mono{e:Option Expr}{ρ:List LV}{lx:Lx}{Q Q':Option Int->Lx->Prop}(h:xS C n sc e ρ lx Q)(k:∀r l,Q r l->Q' r l):xS C n sc e ρ lx Q':=by
 cases e with
 |none=>exact k _ _ h
 |some e=>exact Ev.mono h λ_ l ⟨i,e1,q⟩=>⟨i,e1,k _ _ q⟩
theorem n7{α β:Type}{a:α}{b:β}{Q:α->β->Prop}(q:Q a b):∀x y,zb a b x y->Q x y:=λ_ _ h=>by obtain⟨rfl,rfl⟩:=h;exact q
theorem yE{α β γ:Type}{a:α}{b:β}{c:γ}{Q:α->β->γ->Prop}(q:Q a b c):∀x y z,Je a b c x y z->Q x y z:=λ_ _ _ h=>by refine nG λkG=>?_;obtain⟨rfl,rfl,rfl⟩:=h;refine kG ?_;exact q
theorem Ev.to{e:Expr}{ρ:List LV}{lx:Lx}{r:Va}{l:Lx}{Q:Va->Lx->Prop}(h:Ev C n sc e ρ lx (zb r l))(q:Q r l):Ev C n sc e ρ lx Q:=h.mono (n7 q)
theorem jI.to{e:Expr}{ρ:List LV}{lx:Lx}{r:Bool}{l:Lx}{Q:Bool->Lx->Prop}(h:jI C n sc e ρ lx (zb r l))(q:Q r l):jI C n sc e ρ lx Q:=h.mono (n7 q)
theorem qX.to{es:List Expr}{ρ:List LV}{lx:Lx}{r:List Va}{l:Lx}{Q:List Va->Lx->Prop}(h:qX C n sc es ρ lx (zb r l))(q:Q r l):qX C n sc es ρ lx Q:=h.mono (n7 q)
theorem iJ.to{e tg:Expr}{fz:Bool}{ρ:List LV}{lx:Lx}{ds:List D}{l:Lx}{Q:List D->Lx->Prop}(h:iJ C n sc e tg fz ρ lx (zb ds l))(q:Q ds l):iJ C n sc e tg fz ρ lx Q:=h.mono (n7 q)
theorem xS.to{e:Option Expr}{ρ:List LV}{lx:Lx}{r:Option Int}{l:Lx}{Q:Option Int->Lx->Prop}(h:xS C n sc e ρ lx (zb r l))(q:Q r l):xS C n sc e ρ lx Q:=h.mono (n7 q)
section
variable{e tg:Expr}{es:List Expr}{oe:Option Expr}{ρ:List LV}{lx:Lx}
abbrev l7{α:Type}(o:Option (α × Lx))(Q:α->Lx->Prop):Prop:=Ok o λp=>Q p.1 p.2
theorem SE.of{f:DE}(h:∀ρ lx Q,l7 (f ρ lx) Q->Ev C n sc e ρ lx Q):SE C n sc e f:=⟨λρ lx r l e=>h ρ lx _ (.of e ⟨rfl,rfl⟩)⟩
theorem SE.ok{f:DE}(h:SE C n sc e f){Q:Va->Lx->Prop}(k:l7 (f ρ lx) Q):Ev C n sc e ρ lx Q:=by refine a7 k.eq λp e q=>?_;exact(h.run ρ lx p.1 p.2 e).to q
theorem SB.of{f:DT}(h:∀ρ lx Q,l7 (f ρ lx) Q->jI C n sc e ρ lx Q):SB C n sc e f:=⟨λρ lx r l e=>h ρ lx _ (.of e ⟨rfl,rfl⟩)⟩
theorem SB.ok{f:DT}(h:SB C n sc e f){Q:Bool->Lx->Prop}(k:l7 (f ρ lx) Q):jI C n sc e ρ lx Q:=by refine a7 k.eq λp e q=>?_;exact(h.run ρ lx p.1 p.2 e).to q
theorem SL.of{f:DL}(h:∀ρ lx Q,l7 (f ρ lx) Q->qX C n sc es ρ lx Q):SL C n sc es f:=⟨λρ lx r l e=>h ρ lx _ (.of e ⟨rfl,rfl⟩)⟩
theorem SL.ok{f:DL}(h:SL C n sc es f){Q:List Va->Lx->Prop}(k:l7 (f ρ lx) Q):qX C n sc es ρ lx Q:=by refine a7 k.eq λp e q=>?_;exact(h.run ρ lx p.1 p.2 e).to q
theorem SO.intro{f:DO}(h:∀ρ lx Q,l7 (f ρ lx) Q->xS C n sc oe ρ lx Q):SO C n sc oe f:=⟨λρ lx r l e=>h ρ lx _ (.of e ⟨rfl,rfl⟩)⟩
theorem SO.ok{f:DO}(h:SO C n sc oe f){Q:Option Int->Lx->Prop}(k:l7 (f ρ lx) Q):xS C n sc oe ρ lx Q:=by refine a7 k.eq λp e q=>?_;exact(h.run ρ lx p.1 p.2 e).to q
theorem SI.of{f:DI}(h:∀ρ lx fz Q,Ok (f ρ lx) (λp=>fz=p.1/\Q p.2.1 p.2.2)->iJ C n sc e tg fz ρ lx Q):SI C n sc e tg f:=⟨λρ lx fz r l e=>h ρ lx fz _ (.of e ⟨rfl,rfl,rfl⟩)⟩
end
noncomputable def DE.k(d:D):DE:=λ_ lx=>some (.dat d,lx)
noncomputable def DE.nm(i:Nat):DE:=λρ lx=>ρ[i]?.bind λlv=>lv.va.map λr=>(r,lx)
theorem SE.int{i:Int}{k:Nat}:SE C n sc (.Constant (.int i) k pos) (.k (.int i)):=.of λ_ _ _ h=>Ev.int h
theorem SE.str{x:Str}{k:Nat}:SE C n sc (.Constant (.str x) k pos) (.k (.str x)):=.of λ_ _ _ h=>Ev.str h
theorem SE.bool{b:Bool}{k:Nat}:SE C n sc (.Constant (.bool b) k pos) (.k (.bool b)):=.of λ_ _ _ h=>Ev.bool h
theorem SE.none{k:Nat}:SE C n sc (.Constant .none k pos) (.k .none):=.of λ_ _ _ h=>Ev.none h
theorem SE.nm{x:Str}{i:Nat}{k:az}(a:eP sc.names i x k)(hk:jW k)(hd:(x==("__debug__":Str))=false):SE C n sc (.Name x pos) (.nm i):=.of λρ lx Q h=>
 by refine a7 h.bind.eq λlv e1 h=>?_;exact by refine a7 h.map.eq λr e2 q=>?_;exact Ev.name (a.at e1) hk e2 q hd
noncomputable def small(a:Int):Bool:=decide (a.natAbs < 1073741824)
noncomputable def oh{α:Type}(f:Int->Int->Option α)(a b:Va):Option α:=(dM a).bind λx=>(dM b).bind (f x)
theorem ip{α:Type}{f:Int->Int->Option α}{a b:Va}{Q:α->Prop}{P:Va->Va->Prop}(h:Ok (oh f a b) Q)(k:∀x y,Ok (f x y) Q->P (.dat (.int x)) (.dat (.int y))):P a b:=
 vx (P:=λa=>P a b) h.bind λx h=>vx (P:=λb=>P (.dat (.int x)) b) (Ok.bind h) λy h=>k x y h
noncomputable def o7(k:Nat)(r:Va):Option Va:=if decide (k<=sizeLine)=true then some r else none
noncomputable def Ku(a b:Va):Option Va:=(ia a).bind λx=>(ia b).bind λy=>o7 (x.length+y.length) (.dat (.str (x++y)))
noncomputable def Kt(a b:Va):Option Va:=(oh (λx y=>some (Va.dat (.int (x+y)))) a b).or ((Ku a b).or
 ((Bh a).bind λx=>((Bh b).bind λy=>o7 (x.length+y.length) (.dat (.list (x++y)))).or ((GA b).bind λy=>o7 (x.length+y.length) (.bor (.list (x++y))))))
noncomputable def qT(op:fV)(a b:Va):Option Va:=match op with
 |.Add=>Kt a b
 |.Sub=>oh (λx y=>some (.dat (.int (x - y)))) a b
 |.Mult=>oh (λx y=>if small x=true then some (.dat (.int (x * y)))else none) a b
 |.FloorDiv=>oh (λx y=>if(small y&&y != 0)=true then some (.dat (.int (x.fdiv y)))else none) a b
 |.Mod=>oh (λx y=>if(y != 0)=true then some (.dat (.int (x.fmod y)))else none) a b
 |_=>none
theorem yj{a:Int}(h:small a=true):Builtin.Int.intBits a<=64:=by
 have h1:a.natAbs < 1073741824:=of_decide_eq_true h
 unfold Builtin.Int.intBits
 split
 ·exact bH _
 ·rename_i hz
  have hz':a.natAbs≠0:=by simpa using hz
  have:a.natAbs.log2 < 30:=(Nat.log2_lt hz').mpr (by simpa using h1)
  exact ah this (by decide)
theorem m4{y:Int}(g:(small y&&y != 0)=true):y≠0/\∀x,fY x y=false:=
 have g:=Bool.and_eq_true_iff.mp g
 ⟨bne_iff_ne.mp g.2,λ_=>PyProof.noPylong_small (of_decide_eq_true g.1)⟩
theorem GL{x y:Va}{K:Va->Prop}(h:Ok (Kt x y) K):mn C .Add x y K:=by
 rcases h.or with h|h
 ·exact ip (P:=λx y=>mn C .Add x y K) h λi j q=>mn.add_int q
 rcases h.or with h|h
 ·exact iz (P:=λx=>mn C .Add x y K) h.bind λi h=>iz (P:=λy=>mn C .Add _ y K) (Ok.bind h) λj h=>mn.add_str (Ok.iff' h).1 (Ok.iff' h).2
 refine vH (P:=λx=>mn C .Add x y K) h.bind λi h=>?_
 rcases Ok.or h with h|h
 ·exact vH (P:=λy=>mn C .Add _ y K) h.bind λj h=>mn.add_list (Ok.iff' h).1 (Ok.iff' h).2
 ·exact El (P:=λy=>mn C .Add _ y K) h.bind λj h=>mn.add_listB (Ok.iff' h).1 (Ok.iff' h).2
theorem GD{op:fV}{x y:Va}{K:Va->Prop}(h:Ok (qT op x y) K):mn C op x y K:=by
 cases op with
 |Add=>exact GL h
 |Sub=>exact ip (P:=λx y=>mn C _ x y K) h λi j q=>mn.sub_int q
 |Mult=>exact ip (P:=λx y=>mn C _ x y K) h λi j q=>mn.mul_int (.of_left (yj q.iff.1)) q.iff.2
 |FloorDiv=>exact ip (P:=λx y=>mn C _ x y K) h λi j q=>mn.fdiv (m4 q.iff.1).1 ((m4 q.iff.1).2 i) q.iff.2
 |Mod=>exact ip (P:=λx y=>mn C _ x y K) h λi j q=>mn.fmod (bne_iff_ne.mp q.iff.1) q.iff.2
 |_=>exact h.elim
noncomputable def DE.bin(op:fV)(a b:DE):DE:=λρ lx=>(a ρ lx).bind λp=>(b ρ p.2).bind λq=>(qT op p.1 q.1).map λz=>(z,q.2)
theorem SE.bin{op:fV}{l r:Expr}{a b:DE}(ha:SE C (n+2) sc l a)(hb:SE C (n+2) sc r b):SE C (n+2) sc (.BinOp l op r pos) (.bin op a b):=.of λρ lx Q h=>
 Ev.bin (ha.ok (h.bind.mono λp h=>hb.ok (h.bind.mono λq h=>GD h.map)))
noncomputable def Kb(a b:Va):Option Bool:=a.d.bind λx=>b.d.bind λy=>if(b0 x&&b0 y)=true then some (gY x y)else none
noncomputable def lG:Va->Option (List D)
 |.dat (.list ds)=>some ds
 |.bor (.list ds)=>some ds
 |_=>none
theorem kK{r:Va}{ds:List D}(h:lG r=some ds):r.d=some (.list ds):=by
 cases r with
 |dat d=>cases d with
  |list _=>cases h;rfl
  |_=>exact by cases h
 |bor d=>cases d with
  |list _=>cases h;rfl
  |_=>exact by cases h
 |lex=>exact by cases h
noncomputable def K2(a b:Va):Option Bool:=(ia a).bind λx=>(ia b).map λy=>fK y x
noncomputable def K3(a b:Va):Option Bool:=a.d.bind λx=>(lG b).bind λys=>if(b0 (cj ys)&&b0 x&&ys.all λy=>SeqAt.noMix y x)=true then some (decide (countIn x ys≠0))else none
noncomputable def K0(a b:Va):Option Bool:=if(CX b&&a.d.isSome)=true then some (isNone a)else none
noncomputable def gF(op:iy)(a b:Va):Option Bool:=match op with
 |.Lt=>oh (λx y=>some (decide (x < y))) a b
 |.LtE=>oh (λx y=>some (decide (x<=y))) a b
 |.Gt=>oh (λx y=>some (decide (y < x))) a b
 |.Eq=>Kb a b
 |.NotEq=>(Kb a b).map λz=>!z
 |.In=>(K2 a b).or (K3 a b)
 |.NotIn=>(K2 a b).or (K3 a b)|>.map λz=>!z
 |.Is=>((y4 a).bind λx=>(y4 b).bind λy=>if y=true then some x else none).or (K0 a b)
 |.IsNot=>(K0 a b).map λz=>!z
 |_=>none
theorem Hj{x y:Va}{K:Bool->Prop}{G:Prop}(h:Ok (Kb x y) K)(k:∀{a b:D},x.d=some a->y.d=some b->b0 a=true->b0 b=true->K (gY a b)->G):G:=
 by refine a7 h.bind.eq λ_ e1 h=>?_;exact by obtain⟨_,e2,h⟩:=(Ok.bind h).eq;exact by obtain⟨g,q⟩:=Ok.iff h;exact by refine en (Bool.and_eq_true_iff.mp g) λg1 g2=>?_;exact k e1 e2 g1 g2 q
theorem Hf{x y:Va}{K:Bool->Prop}{G:Prop}(h:Ok (K3 x y) K)(k:∀{a:D} {b:List D},x.d=some a->y.d=some (.list b)->b0 (cj b)=true->b0 a=true->(∀z∈b,SeqAt.noMix z a=true)->K (decide (countIn a b≠0))->G):G:=
 by refine a7 h.bind.eq λ_ e1 h=>?_;exact by obtain⟨_,e2,h⟩:=(Ok.bind h).eq;exact by obtain⟨g,q⟩:=Ok.iff h;exact by obtain⟨g1,g2⟩:=Bool.and_eq_true_iff.mp g;exact by refine en (Bool.and_eq_true_iff.mp g1) λg0 g1=>?_;exact k e1 (kK e2) g0 g1 (List.all_eq_true.mp g2) q
theorem He{x y:Va}{K:Bool->Prop}{P:Va->Va->Prop}(h:Ok (K2 x y) K)(k:∀a b,K (fK b a)->P (.dat (.str a)) (.dat (.str b))):P x y:=
 iz (P:=λx=>P x y) h.bind λa h=>iz (P:=λy=>P _ y) (Ok.map h) λb h=>k a b h
theorem Hd{x y:Va}{K:Bool->Prop}{P:Va->Prop}(h:Ok (K0 x y) K)(k:x.d.isSome=true->K (isNone x)->P (.dat .none)):P y:=
 by refine en (Ok.iff h) λg q=>?_;exact by obtain⟨g1,g2⟩:=Bool.and_eq_true_iff.mp g;exact CW g1 (k g2 q)
theorem rn{op:iy}{x y:Va}{K:Bool->Prop}(h:Ok (gF op x y) K):iM C op x y K:=by
 cases op with
 |Lt=>exact ip (P:=λx y=>iM C _ x y K) h λi j q=>iM.lt q
 |LtE=>exact ip (P:=λx y=>iM C _ x y K) h λi j q=>iM.le q
 |Gt=>exact ip (P:=λx y=>iM C _ x y K) h λi j q=>iM.gt q
 |Eq=>exact Hj h iM.eq
 |NotEq=>exact Hj h.map iM.ne
 |In=>exact h.or.elim (λh=>He (P:=λx y=>iM C _ x y K) h λ_ _=>iM.inStr) λh=>Hf h iM.inList
 |NotIn=>exact h.map.or.elim (λh=>He (P:=λx y=>iM C _ x y K) h λ_ _=>iM.notInStr) λh=>Hf h iM.notInList
 |Is=>exact h.or.elim (λh=>xB (P:=λx=>iM C _ x y K) h.bind λa h=>xB (P:=λy=>iM C _ _ y K) (Ok.bind h) λb h=>by
   cases b with
   |true=>exact iM.isTrue h
   |false=>exact h.elim) λh=>Hd (P:=λy=>iM C _ x y K) h λa b=>iM.isNone b a
 |IsNot=>exact Hd (P:=λy=>iM C _ x y K) h.map λa b=>iM.isNotNone b a
 |_=>exact h.elim
noncomputable def DT.cmp(op:iy)(a b:DE):DT:=λρ lx=>(a ρ lx).bind λp=>(b ρ p.2).bind λq=>(gF op p.1 q.1).map λz=>(z,q.2)
theorem SB.cmp{op:iy}{l r:Expr}{a b:DE}(ha:SE C (n+2) sc l a)(hb:SE C (n+2) sc r b)(hm:v7 op r=false):SB C (n+2) sc (.Compare l [op] [r] pos) (.cmp op a b):=.of λρ lx Q h=>
 jI.cmp (ha.ok (h.bind.mono λp h=>hb.ok (h.bind.mono λq h=>rn h.map))) hm
noncomputable def DE.ofT(t:DT):DE:=λρ lx=>(t ρ lx).map λp=>(.dat (.bool p.1),p.2)
theorem SE.cmp{op:iy}{l r:Expr}{a b:DE}(ha:SE C (n+2) sc l a)(hb:SE C (n+2) sc r b)(hm:v7 op r=false):SE C (n+2) sc (.Compare l [op] [r] pos) (.ofT (.cmp op a b)):=.of λρ lx Q h=>
 Ev.cmp (ha.ok (h.map.bind.mono λp h=>hb.ok (h.bind.mono λq h=>rn h.map))) hm
abbrev DC:=Va->List LV->Lx->Option (Bool × Lx)
noncomputable def DC.one(op:iy)(b:DE):DC:=λa ρ lx=>(b ρ lx).bind λq=>(gF op a q.1).map λz=>(z,q.2)
noncomputable def DC.more(op:iy)(b:DE)(r:DC):DC:=λa ρ lx=>(b ρ lx).bind λq=>(gF op a q.1).bind λz=>if z=true then r q.1 ρ q.2 else some (false,q.2)
structure SC(C:Cx)(n:Nat)(sc:Scope)(ops:List iy)(rs:List Expr)(f:DC):Prop where
 len:ops.length=rs.length
 run:∀a ρ lx Q,l7 (f a ρ lx) Q->Ai C n sc ρ a ops rs lx Q
theorem SC.one{op:iy}{r:Expr}{b:DE}(hb:SE C n sc r b):SC C n sc [op] [r] (.one op b):=.mk rfl λa ρ lx Q h=>⟨rfl,hb.ok (h.bind.mono λq h=>rn h.map)⟩
theorem Ok.step{z b:Bool}{o:Option (Bool × Lx)}{l:Lx}{Q:Bool->Lx->Prop}{P:Prop}(h:l7 (if z=true then o else some (b,l)) Q)(k:l7 o Q->P):if z=true then P else Q b l:=by cases z with
 |true=>exact k h
 |false=>exact h
theorem SC.more{op op':iy}{ops:List iy}{r r':Expr}{rs:List Expr}{b:DE}{f:DC}(hb:SE C n sc r b)(hf:SC C n sc (op'::ops) (r'::rs) f):SC C n sc (op::op'::ops) (r::r'::rs) (.more op b f):=.mk (congrArg nz hf.len) λa ρ lx Q h=>
 ⟨hf.len,hb.ok (h.bind.mono λq h=>rn (h.bind.mono λz h=>Ok.step h (hf.run _ _ _ _)))⟩
noncomputable def DT.chain(a:DE)(f:DC):DT:=λρ lx=>(a ρ lx).bind λp=>f p.1 ρ p.2
theorem SB.chain{l r1 r2:Expr}{rs:List Expr}{o1 o2:iy}{ops:List iy}{a:DE}{f:DC}(ha:SE C (n+2) sc l a)(hf:SC C (n+2) sc (o1::o2::ops) (r1::r2::rs) f)(hm:lastMarks (o1::o2::ops) (r1::r2::rs)=false):
  SB C (n+2) sc (.Compare l (o1::o2::ops) (r1::r2::rs) pos) (.chain a f):=.of λρ lx Q h=>jI.chain (ha.ok (h.bind.mono λp h=>hf.run _ _ _ _ h)) hm
noncomputable def DT.tt:DT:=λ_ lx=>some (true,lx)
noncomputable def DT.ff:DT:=λ_ lx=>some (false,lx)
noncomputable def DT.and(a b:DT):DT:=λρ lx=>(a ρ lx).bind λp=>if p.1=true then b ρ p.2 else some (false,p.2)
noncomputable def DT.or(a b:DT):DT:=λρ lx=>(a ρ lx).bind λp=>if p.1=true then some (true,p.2)else b ρ p.2
theorem SB.andNil:SB C n sc (.BoolOp .And [] pos) .tt:=.of λ_ _ _ h=>jI.andNil h
theorem SB.orNil:SB C n sc (.BoolOp .Or [] pos) .ff:=.of λ_ _ _ h=>jI.orNil h
theorem SB.and{x:Expr}{rest:List Expr}{a b:DT}(ha:SB C n sc x a)(hb:SB C n sc (.BoolOp .And rest pos) b):SB C n sc (.BoolOp .And (x::rest) pos) (.and a b):=.of λρ lx Q h=>
 jI.and (ha.ok (h.bind.mono λp h=>Ok.step h hb.ok))
theorem Ok.step'{z b:Bool}{o:Option (Bool × Lx)}{l:Lx}{Q:Bool->Lx->Prop}{P:Prop}(h:l7 (if z=true then some (b,l)else o) Q)(k:l7 o Q->P):if z=true then Q b l else P:=by cases z with
 |true=>exact h
 |false=>exact k h
theorem SB.or{x:Expr}{rest:List Expr}{a b:DT}(ha:SB C n sc x a)(hb:SB C n sc (.BoolOp .Or rest pos) b):SB C n sc (.BoolOp .Or (x::rest) pos) (.or a b):=.of λρ lx Q h=>
 jI.or (ha.ok (h.bind.mono λp h=>Ok.step' h hb.ok))
noncomputable def BV:D->Nat
 |.list ds=>ds.length
 |.str x=>x.length
 |_=>0
noncomputable def Hs(d:D):Option Bool:=if decide (BV d<=sizeLine)=true then BZ d else none
noncomputable def DT.val(a:DE):DT:=λρ lx=>(a ρ lx).bind λp=>p.1.d.bind λd=>(Hs d).map λz=>(z,p.2)
theorem AC{d:D}(h:BV d<=sizeLine):(∀ds,d=.list ds->ds.length<=sizeLine)/\∀x,d=.str x->x.length<=sizeLine:=⟨λds e=>by rw[e]at h;exact h,λds e=>by rw[e]at h;exact h⟩
theorem SB.val{e:Expr}{a:DE}(ha:SE C n sc e a)(he:∀env whole,mh e env whole=(do let v <-whole;tM e.pos;kX [v] (truthy v))):SB C n sc e (.val a):=.of λρ lx Q h=>
 jI.val (ha.ok (h.bind.mono λp h=>by refine a7 h.bind.eq λd e1 h=>?_;exact by refine en (Ok.iff' h.map) λw h=>?_;exact by refine a7 h.eq λz e2 q=>?_;exact Y2 d z ⟨e1,e2,AC w,q⟩)) he
theorem Ok.both{α:Type}{z:Bool}{o p:Option α}{Q:α->Prop}{P P':Prop}(h:Ok (if z=true then o else p) Q)(k:Ok o Q->P)(k':Ok p Q->P'):if z=true then P else P':=by cases z with
 |true=>exact k h
 |false=>exact k' h
noncomputable def DE.ite(t:DT)(a b:DE):DE:=λρ lx=>(t ρ lx).bind λp=>if p.1=true then a ρ p.2 else b ρ p.2
theorem SE.ite{t b o:Expr}{c:DT}{x y:DE}(ht:SB C n sc t c)(hx:SE C n sc b x)(hy:SE C n sc o y):SE C n sc (.IfExp t b o pos) (.ite c x y):=.of λρ lx Q h=>
 Ev.ifexp (ht.ok (h.bind.mono λp h=>Ok.both h hx.ok hy.ok))
noncomputable def KW(r:Va):Option Va:=(dM r).map λi=>.dat (.int (-i))
noncomputable def DE.neg(a:DE):DE:=λρ lx=>(a ρ lx).bind λp=>(KW p.1).map λz=>(z,p.2)
theorem SE.neg{e:Expr}{a:DE}(ha:SE C n sc e a):SE C n sc (.UnaryOp .USub e pos) (.neg a):=.of λρ lx Q h=>
 Ev.neg (ha.ok (h.bind.mono λp h=>by refine a7 h.map.map.eq λi e q=>?_;exact⟨i,dB e,q⟩))
noncomputable def DL.nil:DL:=λ_ lx=>some ([],lx)
noncomputable def DL.cons(a:DE)(b:DL):DL:=λρ lx=>(a ρ lx).bind λp=>(b ρ p.2).map λq=>(p.1::q.1,q.2)
theorem SL.nil:SL C n sc [] .nil:=.of λ_ _ _ h=>h
theorem SL.cons{e:Expr}{es:List Expr}{a:DE}{b:DL}(ha:SE C n sc e a)(hb:SL C n sc es b):SL C n sc (e::es) (.cons a b):=.of λρ lx Q h=>ha.ok (h.bind.mono λp h=>hb.ok h.map)
noncomputable def Bi:List Va->Option (List D)
 |[]=>some []
 |r::rs=>(match r with
  |.dat d=>some d
  |_=>none).bind λd=>(Bi rs).map (d:: ·)
theorem zT{rs:List Va}:∀{ds:List D},Bi rs=some ds->rs=ds.map Va.dat:=by
 induction rs with
 |nil=>intro ds h;cases h;rfl
 |cons r rs ih=>
  intro ds h
  refine a7 (eg h) λd e1 h=>?_
  refine a7 (tB h) λds e2 h=>?_
  rw[<-h,ih e2]
  cases r with
  |dat _=>cases e1;rfl
  |_=>exact by cases e1
noncomputable def IZ:List Va->Option (List D)
 |[]=>some []
 |r::rs=>r.d.bind λd=>(IZ rs).map (d:: ·)
theorem GJ{rs:List Va}:∀{ds:List D},IZ rs=some ds->rs.map Va.d=ds.map some:=by
 induction rs with
 |nil=>intro ds h;cases h;rfl
 |cons r rs ih=>
  intro ds h
  refine a7 (eg h) λd e1 h=>?_
  refine a7 (tB h) λds e2 h=>?_
  rw[<-h,bX,bX,ih e2,e1]
noncomputable def DE.list(a:DL):DE:=λρ lx=>(a ρ lx).bind λp=>(Bi p.1).bind λds=>if decide (ds.length<=sizeLine)=true then some (.dat (.list ds),p.2)else none
noncomputable def DE.tup(a:DL):DE:=λρ lx=>(a ρ lx).bind λp=>(Bi p.1).bind λds=>if decide (ds.length<=sizeLine)=true then some (.dat (.tuple ds),p.2)else none
noncomputable def DE.tupB(a:DL):DE:=λρ lx=>(a ρ lx).bind λp=>(IZ p.1).bind λds=>if decide (ds.length<=sizeLine)=true then some (.bor (.tuple ds),p.2)else none
theorem SE.list{es:List Expr}{a:DL}(ha:SL C n sc es a)(hs:bt es=true):SE C n sc (.List es pos) (.list a):=.of λρ lx Q h=>
 Ev.list (ha.ok (h.bind.mono λp h=>by obtain⟨ds,hX⟩:=h.bind.eq;refine(λe h=>?_) hX.1 hX.2;exact by obtain⟨g,q⟩:=Ok.iff' h;exact⟨ds,zT e,g,q⟩)) hs
theorem SE.tup{es:List Expr}{k:Nat}{a:DL}(ha:SL C n sc es a)(hs:bt es=true):SE C n sc (.Tuple es k pos) (.tup a):=.of λρ lx Q h=>
 Ev.tuple (ha.ok (h.bind.mono λp h=>by obtain⟨ds,hX⟩:=h.bind.eq;refine(λe h=>?_) hX.1 hX.2;exact by obtain⟨g,q⟩:=Ok.iff' h;exact⟨ds,zT e,g,q⟩)) hs
theorem SE.tupB{es:List Expr}{k:Nat}{a:DL}(ha:SL C n sc es a)(hs:bt es=true):SE C n sc (.Tuple es k pos) (.tupB a):=.of λρ lx Q h=>
 Ev.tupleB (ha.ok (h.bind.mono λp h=>by obtain⟨ds,hX⟩:=h.bind.eq;refine(λe h=>?_) hX.1 hX.2;exact by obtain⟨g,q⟩:=Ok.iff' h;exact⟨ds,GJ e,g,q⟩)) hs
noncomputable def DE.item(a i:DE):DE:=λρ lx=>(a ρ lx).bind λp=>(i ρ p.2).bind λq=>p.1.d.bind λx=>(dM q.1).bind λk=>(jt x k).bind λd=>if decide (-(2 ^ 63)<=k/\k < 2 ^ 63)=true then some (p.1.like d,q.2)else none
theorem SE.item{v s:Expr}{a i:DE}(ha:SE C n sc v a)(hi:SE C n sc s i):SE C n sc (.Subscript v s pos) (.item a i):=.of λρ lx Q h=>
 Ev.item (ha.ok (h.bind.mono λp h=>hi.ok (h.bind.mono λq h=>by refine a7 h.bind.eq λd e3 h=>?_;exact by refine a7 ((Ok.bind h).eq) λk e4 h=>?_;exact by obtain⟨d',hX⟩:=(Ok.bind h).eq;refine(λe5 h=>?_) hX.1 hX.2;exact by refine en (Ok.iff' h) λg q=>?_;exact Y3 d k d' ⟨e3,dB e4,e5,g,q⟩)))
noncomputable def DO.no:DO:=λ_ lx=>some (none,lx)
noncomputable def DO.of(a:DE):DO:=λρ lx=>(a ρ lx).bind λp=>(dM p.1).map λk=>(some k,p.2)
theorem SO.no:SO C n sc none .no:=.intro λ_ _ _ h=>h
theorem SO.of{e:Expr}{a:DE}(ha:SE C n sc e a):SO C n sc (some e) (.of a):=.intro λρ lx Q h=>ha.ok (h.bind.mono λp h=>by refine a7 h.map.eq λk e q=>?_;exact⟨k,dB e,q⟩)
noncomputable def DE.cut(a:DE)(lo hi st:DO):DE:=λρ lx=>(a ρ lx).bind λp=>(lo ρ p.2).bind λl=>(hi ρ l.2).bind λu=>(st ρ u.2).bind λt=>p.1.d.bind λx=>(tF x l.1 u.1 t.1).map λd=>(p.1.like d,t.2)
theorem SE.cut{v:Expr}{lo hi st:Option Expr}{p:Pos}{a:DE}{l u t:DO}(ha:SE C n sc v a)(hl:SO C n sc lo l)(hu:SO C n sc hi u)(ht:SO C n sc st t):SE C n sc (.Subscript v (.Slice lo hi st p) pos) (.cut a l u t):=.of λρ lx Q h=>
 Ev.cut (ha.ok (h.bind.mono λp h=>hl.ok (h.bind.mono λq h=>hu.ok (h.bind.mono λr h=>ht.ok (h.bind.mono λw h=>by refine a7 h.bind.eq λd e h=>?_;exact by refine a7 ((Ok.map h).eq) λd' e' q=>?_;exact Y2 d d' ⟨e,e',q⟩)))))
noncomputable def DE.call(f:DF)(a:DL):DE:=λρ lx=>(a ρ lx).bind λp=>f p.1 p.2
theorem dS.to{v:Value}{rs:List Va}{lx:Lx}{r:Va}{l:Lx}{Q:Va->Lx->Prop}(h:dS C n v rs lx (zb r l))(q:Q r l):dS C n v rs lx Q:=λA ok okb s vs R w a=>
 al (h A ok okb s vs R w a) (λ_ _ p=>by obtain⟨r,l,e,rv,sa,l',g⟩:=p;exact⟨r,l,n7 q _ _ e,rv,sa,l',g⟩) λ_ _ x=>x
theorem kg.ok{v:Value}{f:DF}{rs:List Va}{lx:Lx}{Q:Va->Lx->Prop}(h:kg C n v f)(k:l7 (f rs lx) Q):dS C n v rs lx Q:=by refine a7 k.eq λp e q=>?_;exact dS.to (h rs lx p.1 p.2 e) q
theorem kg.of{v:Value}{f:DF}(h:∀rs lx Q,l7 (f rs lx) Q->dS C n v rs lx Q):kg C n v f:=λrs lx r l e=>h rs lx _ (.of e ⟨rfl,rfl⟩)
theorem SE.call{x:Str}{v:Value}{p:Pos}{e:Expr}{es:List Expr}{f:DF}{a:DL}(k:dk C)(hx:nF sc.names x .globalImplicit)(hv:Gb C x v)(hk:cV C v)(hf:kg C n v f)(ha:SL C n sc (e::es) a)(hs:bt (e::es)=true)(hd:(x==("__debug__":Str))=false):
  SE C n sc (.Call (.Name x p) (e::es) [] pos) (.call f a):=.of λρ lx Q h=>Ev.call k hx hv hk (ha.ok (h.bind.mono λp h=>hf.ok h)) hs hd
end
inductive Tg where
 |nm (i:Nat)
 |tup (is:List Nat)
noncomputable def u7(fz:Bool):List Nat->List D->List LV->Option (List LV)
 |[],ds,ρ=>if ds.isEmpty=true then some ρ else none
 |i::is,ds,ρ=>ds.head?.bind λd=>if decide (i < ρ.length)=true then u7 fz is ds.tail (ρ.set i (wY fz d))else none
noncomputable def uT:D->Option (List D)
 |.tuple ds=>some ds
 |_=>none
theorem pI{d:D}{ds:List D}(h:uT d=some ds):d=.tuple ds:=by
 cases d with
 |tuple _=>cases h;rfl
 |_=>exact by cases h
noncomputable def Tg.asg(fz:Bool)(t:Tg)(d:D)(ρ:List LV):Option (List LV):=match t with
 |.nm i=>if decide (i < ρ.length)=true then some (ρ.set i (wY fz d))else none
 |.tup is=>(uT d).bind λds=>u7 fz is ds ρ
inductive EV(names:List (Str × az)):List Expr->List Nat->Prop where
 |nil:EV names [] []
 |cons {x pos es i is k}:eP names i x k->jW k->EV names es is->EV names (.Name x pos::es) (i::is)
inductive wc(names:List (Str × az)):Expr->Tg->Prop where
 |nm {x pos i k}:eP names i x k->jW k->wc names (.Name x pos) (.nm i)
 |tup {es kk pos is}:EV names es is->wc names (.Tuple es kk pos) (.tup is)
theorem AK{fz:Bool}{names:List (Str × az)}{es:List Expr}{is:List Nat}(a:EV names es is):∀{ds:List D} {ρ:List LV} {Q:List LV->Prop},Ok (u7 fz is ds ρ) Q->∃ρ',ze fz names es ds ρ ρ'/\Q ρ':=by
 induction a with
 |nil=>exact λ{ds ρ Q} h=>by refine en h.iff λg q=>?_;exact⟨ρ,List.isEmpty_iff.mp g▸.nil,q⟩
 |cons a hk r ih=>
  intro ds ρ Q h
  cases ds with
  |nil=>exact h.elim
  |cons d ds=>
   refine en (Ok.iff' (show Ok (if decide (_ < ρ.length)=true then u7 _ _ ds _ else none) Q from h)) λg h=>?_
   refine a7 (ih h) λρ' b q=>?_
   exact⟨ρ',.cons (a.at (aD g)) hk rfl b,q⟩
theorem Tg.ok{fz:Bool}{names:List (Str × az)}{e:Expr}{t:Tg}(a:wc names e t){d:D}{ρ:List LV}{Q:List LV->Prop}(h:Ok (t.asg fz d ρ) Q):∃ρ',xM fz names e d ρ ρ'/\Q ρ':=by
 cases a with
 |nm a hk=>exact by refine en (Ok.iff' h) λg q=>?_;exact⟨_,.name (a.at (aD g)) hk,q⟩
 |tup a=>
  refine a7 h.bind.eq λds e h=>?_
  refine a7 (AK a h) λρ' b q=>?_
  exact⟨ρ',pI e▸.tup b,q⟩
theorem Gi{r:Va}{x:List D}(h:Bh r=some x):r=.dat (.list x):=vH (P:=λr=>r=.dat (.list x)) (Ok.of (Q:=λj=>j=x) h rfl) λ_ e=>by rw[e]
theorem Gz{r:Va}{x:List D}(h:GA r=some x):r=.bor (.list x):=El (P:=λr=>r=.bor (.list x)) (Ok.of (Q:=λj=>j=x) h rfl) λ_ e=>by rw[e]
section
variable{C:Cx}{n:Nat}{sc:Scope}{pos:Pos}
theorem SI.ok{e tg:Expr}{f:DI}(h:SI C n sc e tg f){ρ:List LV}{lx:Lx}{Q:Bool->List D->Lx->Prop}(k:Ok (f ρ lx) λp=>Q p.1 p.2.1 p.2.2):∃fz,iJ C n sc e tg fz ρ lx (Q fz):=
 by refine a7 k.eq λp e q=>?_;exact⟨p.1,(h.run ρ lx p.1 p.2.1 p.2.2 e).to q⟩
noncomputable def vG(r:Va):Option (Bool × List D):=((Bh r).map λds=>(true,ds)).or ((GA r).map λds=>(false,ds))
theorem uu{r:Va}{fz:Bool}{Q:List D->Prop}(h:Ok (vG r) λp=>fz=p.1/\Q p.2):∃ds,r=(if fz=true then Va.dat (.list ds)else Va.bor (.list ds))/\Q ds:=by
 rcases h.or with h|h
 ·exact by refine jH h.map.eq λds e e1 q=>?_;exact⟨ds,by rw[Gi e,e1];rfl,q⟩
 ·exact by refine jH h.map.eq λds e e1 q=>?_;exact⟨ds,by rw[Gz e,e1];rfl,q⟩
noncomputable def Hc(r:Va):Option (Bool × List D):=(vG r).or ((ia r).map λx=>(true,zm x))
noncomputable def DI.val(a:DE):DI:=λρ lx=>(a ρ lx).bind λp=>(Hc p.1).map λq=>(q.1,q.2,p.2)
theorem SI.val{e tg:Expr}{a:DE}(ha:SE C (n+1) sc e a):SI C (n+1) sc e tg (.val a):=.of λρ lx fz Q h=>by
 refine a7 h.bind.eq λp e1 h=>?_
 rcases(Ok.map h).or with h|h
 ·exact iJ.list (ha.ok (.of e1 (uu h)))
 ·refine nG λkG=>?_;obtain⟨x,e2,rfl,q⟩:=h.map.eq
  refine kG ?_
  exact iJ.str (ha.ok (.of e1 ⟨x,kE e2,q⟩))
noncomputable def jl(rs:List Va):Option (Int × Int × Int):=match rs with
 |[]=>none
 |a::rs=>match rs with
  |[]=>(dM a).map λb=>(0,b,1)
  |b::rs=>match rs with
   |[]=>oh (λa b=>some (a,b,1)) a b
   |c::rs=>oh (λa b=>(dM c).bind λc=>if(small c&&c != 0)=true then(if rs.isEmpty=true then some (a,b,c)else none)else none) a b
def y8(rs:List Va)(a b c:Int):Prop:=rs=[.dat (.int b)]/\a=0/\c=1\/rs=[.dat (.int a),.dat (.int b)]/\c=1\/rs=[.dat (.int a),.dat (.int b),.dat (.int c)]/\c≠0/\fY (b - a) c=false
theorem vd{rs:List Va}{Q:Int × Int × Int->Prop}(h:Ok (jl rs) Q):∃a b c,y8 rs a b c/\Q (a,b,c):=by
 cases rs with
 |nil=>exact h.elim
 |cons a rs=>cases rs with
  |nil=>exact by refine a7 (Ok.eq (Ok.map h)) λb e q=>?_;exact Y3 0 b 1 ⟨.inl ⟨by rw[dB e],rfl,rfl⟩,q⟩
  |cons b rs=>cases rs with
   |nil=>exact ip (P:=λa b=>∃x y z,y8 [a,b] x y z/\Q (x,y,z)) h λx y q=>Y3 x y 1 ⟨.inr (.inl ⟨rfl,rfl⟩),q⟩
   |cons c rs=>exact ip (P:=λa b=>∃x y z,y8 (a::b::c::rs) x y z/\Q (x,y,z)) h λx y q=>
     let⟨z,e,q⟩:=q.bind.eq;by refine(λg q=>?_) (Ok.iff q).1 (Ok.iff q).2;exact by refine en (Ok.iff q) λg' q=>?_;exact Y3 x y z ⟨.inr (.inr ⟨by rw[dB e,List.isEmpty_iff.mp g'],(m4 g).1,(m4 g).2 _⟩),q⟩
noncomputable def DI.range(a:DL):DI:=λρ lx=>(a ρ lx).bind λp=>(jl p.1).bind λq=>if(dp q.1 q.2.1 q.2.2&&decide (0<=aV q.1 q.2.1 q.2.2))=true then some (true,n6 q.1 q.2.1 q.2.2,p.2)else none
theorem SI.range{p:Pos}{tg e:Expr}{es:List Expr}{a:DL}(k:dk C)(hx:nF sc.names "range" .globalImplicit)(hv:Gb C "range" (.type "range"))(ha:SL C n sc (e::es) a)(hs:bt (e::es)=true):SI C n sc (.Call (.Name "range" p) (e::es) [] pos) tg (.range a):=.of λρ lx fz Q h=>by
 refine nG λkG=>?_;obtain⟨p,e1,h⟩:=h.bind.eq
 refine I8 (vd (Ok.bind h)) λx y z c h=>?_
 obtain⟨g,rfl,q⟩:=Ok.iff h
 refine en (Bool.and_eq_true_iff.mp g) λg1 g2=>?_
 refine kG ?_
 exact iJ.range k hx hv (ha.ok (.of e1 ⟨x,y,z,c,g1,of_decide_eq_true g2,q⟩)) hs
noncomputable def DI.enum(a:DE):DI:=λρ lx=>(a ρ lx).bind λp=>(vG p.1).map λq=>(q.1,qy q.2,p.2)
theorem SI.enum{p tp:Pos}{elts:List Expr}{x1:Nat}{e:Expr}{a:DE}(k:dk C)(hx:nF sc.names "enumerate" .globalImplicit)(hv:Gb C "enumerate" (.type "enumerate"))(ha:SE C (n+1) sc e a)(hs:bt [e]=true):SI C (n+1) sc (.Call (.Name "enumerate" p) [e] [] pos) (.Tuple elts x1 tp) (.enum a):=.of λρ lx fz Q h=>by
 refine a7 h.bind.eq λp e1 h=>?_
 exact iJ.enum k hx hv (ha.ok (.of e1 (uu (Q:=λds=>Q (qy ds) p.2) (Ok.map h)))) hs
noncomputable def ox:List (Option Nat)->List LV->Option (List LV)
 |[],_=>some []
 |c::r,ρ=>(match c with
  |none=>some LV.un
  |some i=>ρ[i]?.map LV.cap).bind λv=>(ox r ρ).map (v:: ·)
inductive jg(on:List (Str × az)):List (Str × az)->List (Option Nat)->List (Str × az)->Prop where
 |nil:jg on [] [] []
 |un {x k ns cs ns'}:(k==aL)=false->jg on ns cs ns'->jg on ((x,k)::ns) (none::cs) ((x,k)::ns')
 |cap {x ns cs i ns'}:eP on i x .cell->jg on ns cs ns'->jg on ((x,.free)::ns) (some i::cs) ((x,.cell)::ns')
theorem vL{on:List (Str × az)}{ρ:List LV}{ns:List (Str × az)}{cs:List (Option Nat)}{ns':List (Str × az)}(a:jg on ns cs ns'):∀{Q:List LV->Prop},Ok (ox cs ρ) Q->∃ρ',ki on ρ ns ρ'/\Q ρ':=by
 induction a with
 |nil=>exact λq=>⟨[],.nil,q⟩
 |un hk _ ih=>exact λh=>by refine a7 (ih (Ok.map h)) λρ' c q=>?_;exact⟨_,.un hk c,q⟩
 |cap a _ ih=>exact λh=>by refine a7 h.bind.map.eq λlv e h=>?_;exact by refine a7 (ih (Ok.map h)) λρ' c q=>?_;exact⟨_,.cap (a.at e) c,q⟩
theorem yZ{on:List (Str × az)}(hn:(on.map (·.1)).Nodup){ns:List (Str × az)}{cs:List (Option Nat)}{ns':List (Str × az)}(a:jg on ns cs ns'):tv on ns=ns':=by
 induction a with
 |nil=>rfl
 |@un x k ns _ _ hk _ ih=>
  show(if(k== .free&&on.lookup x==some .cell)=true then(x,cG)else(x,k))::tv on ns=_
  rw[hk,ih];rfl
 |@cap x ns _ _ _ a _ ih=>
  show(if(aL== .free&&on.lookup x==some .cell)=true then(x,cG)else(x,.free))::tv on ns=_
  rw[cS hn a.get,ih];rfl
theorem vM{sc:Scope}{kd:tN}{ns ns':List (Str × az)}{g c:Bool}{m:List (Str × Const)}{cs:List (Option Nat)}(h:jg sc.names ns cs ns')(hn:(sc.names.map (·.1)).Nodup):fj sc ⟨kd,ns,g,c,m⟩=⟨kd,ns',g,c,m⟩:=by
 show(⟨kd,tv sc.names ns,g,c,m⟩:Scope)=_
 rw[yZ hn h]
structure xR(C:Cx)(n:Nat)(sc:Scope)(es:List Expr)(f:DT):Prop where
 run:∀{ρ lx Q},l7 (f ρ lx) Q->KQ C n sc ρ es lx Q
theorem xR.nil:xR C n sc [] .tt:=.mk λh=>h
theorem xR.cons{e:Expr}{es:List Expr}{a b:DT}(ha:SB C n sc e a)(hb:xR C n sc es b):xR C n sc (e::es) (.and a b):=.mk λh=>ha.ok (h.bind.mono λp h=>Ok.step h hb.run)
abbrev DEm:=List D->List LV->Lx->Option (List D × List LV × Lx)
abbrev BH{α:Type}(o:Option (α × List LV × Lx))(Q:α->List LV->Lx->Prop):Prop:=Ok o λp=>Q p.1 p.2.1 p.2.2
noncomputable def lW(fz:Bool)(tg:Tg)(ifs:DT)(emit:DEm):List D->DEm
 |[],out,ρ,lx=>some (out,ρ,lx)
 |d::ds,out,ρ,lx=>(tg.asg fz d ρ).bind λρ1=>(ifs ρ1 lx).bind λp=>if p.1=true then(emit out ρ1 p.2).bind λq=>lW fz tg ifs emit ds q.1 q.2.1 q.2.2 else lW fz tg ifs emit ds out ρ1 p.2
def Ll(emit:List D->List LV->Lx->CP->Prop)(f:DEm):Prop:=∀{out ρ lx} {P:CP},BH (f out ρ lx) P->emit out ρ lx P
theorem sh{tg:Expr}{t:Tg}{ifs:List Expr}{i:DT}{emit:List D->List LV->Lx->CP->Prop}{f:DEm}{fz:Bool}(a:wc sc.names tg t)(hi:xR C n sc ifs i)(hf:Ll emit f){P:CP}{ds:List D}:∀{out:List D} {ρ:List LV} {lx:Lx},BH (lW fz t i f ds out ρ lx) P->kU C n sc emit fz tg ifs ds out ρ lx P:=by
 induction ds with
 |nil=>exact λh=>h
 |cons d ds ih=>exact λh=>by refine a7 (Tg.ok a h.bind) λρ1 e h=>?_;exact⟨ρ1,e,hi.run (h.bind.mono λp h=>Ok.both h (λh=>hf ((Ok.bind h).mono λq h=>ih h)) ih)⟩
noncomputable def sy:Va->Option D
 |.dat d=>some d
 |_=>none
noncomputable def cF(elt:DE):DEm:=λout ρ lx=>(elt ρ lx).bind λp=>(sy p.1).bind λd=>if decide (out.length<=sizeLine)=true then some (out++[d],ρ,p.2)else none
theorem kR{r:Va}{d:D}(h:sy r=some d):r=.dat d:=by
 cases r with
 |dat _=>cases h;rfl
 |_=>exact by cases h
theorem xr{e:Expr}{a:DE}(ha:SE C n sc e a):Ll (qE C n sc e) (cF a):=λh=>ha.ok (h.bind.mono λp h=>by obtain⟨d,hX⟩:=h.bind.eq;refine(λe h=>?_) hX.1 hX.2;exact by obtain⟨g,q⟩:=Ok.iff' h;exact⟨d,kR e,g,q⟩)
noncomputable def o9(it:DI)(tg:Tg)(ifs:DT)(elt:DE):DEm:=λout ρ lx=>(it ρ lx).bind λp=>lW p.1 tg ifs (cF elt) p.2.1 out ρ p.2.2
theorem D7{iter tg e:Expr}{ifs:List Expr}{it:DI}{t:Tg}{i:DT}{a:DE}(hit:SI C n sc iter tg it)(ht:wc sc.names tg t)(hi:xR C n sc ifs i)(ha:SE C n sc e a):Ll (Ah C n sc iter tg ifs e) (o9 it t i a):=λ{out ρ lx P} h=>
 hit.ok (Q:=λfz ds l=>kU C n sc (qE C n sc e) fz tg ifs ds out ρ l P) (h.bind.mono λp h=>sh ht hi (xr ha) h)
noncomputable def cw(cs:List (Option Nat))(it:DI)(tg:Tg)(ifs:DT)(emit:DEm):List LV->Lx->Option (List D × Lx):=λρ lx=>(ox cs ρ).bind λρc=>(it ρ lx).bind λp=>(lW p.1 tg ifs emit p.2.1 [] ρc p.2.2).map λq=>(q.1,q.2.2)
def Ho(C:Cx)(n:Nat)(sc sc':Scope)(names:List (Str × az))(elt:Expr)(gens:List bF)(f:List LV->Lx->Option (List D × Lx)):Prop:=
 ∀{ρ lx} {Q:List D->Lx->Prop},l7 (f ρ lx) Q->∃ρc,ki sc.names ρ names ρc/\xK C n sc ρ lx sc' ρc elt gens λout _ l=>Q out l
theorem Ho.one{sc':Scope}{ns' names:List (Str × az)}{elt iter tg:Expr}{ifs:List Expr}{cs:List (Option Nat)}{it:DI}{t:Tg}{i:DT}{a:DE}(hc:jg sc.names names cs ns')(hit:SI C n sc iter tg it)(ht:wc sc'.names tg t)(hi:xR C n sc' ifs i)(ha:SE C n sc' elt a):
  Ho C n sc sc' names elt [⟨tg,iter,ifs,0⟩] (cw cs it t i (cF a)):=λ{ρ lx Q} h=>by refine a7 (vL hc h.bind) λρc c h=>?_;exact⟨ρc,c,rfl,hit.ok (Q:=λfz ds l=>kU C n sc' (qE C n sc' elt) fz tg ifs ds [] ρc l λout _ l=>Q out l) (h.bind.mono λp h=>sh ht hi (xr ha) (Ok.map h))⟩
theorem Ho.two{sc':Scope}{ns' names:List (Str × az)}{elt iter tg iter2 tg2:Expr}{ifs ifs2:List Expr}{cs:List (Option Nat)}{it it2:DI}{t t2:Tg}{i i2:DT}{a:DE}(hc:jg sc.names names cs ns')(hit:SI C n sc iter tg it)(ht:wc sc'.names tg t)(hi:xR C n sc' ifs i)
  (hit2:SI C n sc' iter2 tg2 it2)(ht2:wc sc'.names tg2 t2)(hi2:xR C n sc' ifs2 i2)(ha:SE C n sc' elt a)(hs:∀env x,ba iter2 env x=pure x):
  Ho C n sc sc' names elt [⟨tg,iter,ifs,0⟩,⟨tg2,iter2,ifs2,0⟩] (cw cs it t i (o9 it2 t2 i2 a)):=λ{ρ lx Q} h=>by refine a7 (vL hc h.bind) λρc c h=>?_;exact⟨ρc,c,rfl,rfl,hs,hit.ok (Q:=λfz ds l=>kU C n sc' (Ah C n sc' iter2 tg2 ifs2 elt) fz tg ifs ds [] ρc l λout _ l=>Q out l) (h.bind.mono λp h=>sh ht hi (D7 hit2 ht2 hi2 ha) (Ok.map h))⟩
noncomputable def DE.comp(f:List LV->Lx->Option (List D × Lx)):DE:=λρ lx=>(f ρ lx).map λp=>(.dat (.list p.1),p.2)
theorem SE.comp{scope sc':Scope}{elt:Expr}{gens:List bF}{f:List LV->Lx->Option (List D × Lx)}(hf:Ho C n sc sc' scope.names elt gens f)(hsc:(sc.names.map (·.1)).Nodup->fj sc scope=sc')
  (hnd:(scope.names.map (·.1)).Nodup)(hkind:scope.kind=.function)(hxf:∀x∈jA gens,(x,aL) ∉ scope.names)(hs:∀env x,ba (iC gens) env x=pure x)(ha:eX gens=false):
  SE C n sc (.ListComp elt gens scope pos) (.comp f):=.of λρ lx Q h=>by refine a7 (hf (Q:=λout l=>Q (.dat (.list out)) l) h.map) λρc hc k=>?_;exact Ev.comp hsc hc k hnd hkind hxf hs ha
end
section
variable{C:Cx}{n:Nat}{sc:Scope}{pos:Pos}
theorem gT.mono{b:Stmt}{ρ:List LV}{lx:Lx}{P P':Fl->List LV->Lx->Prop}(h:gT C n sc b ρ lx P)(k:∀f ρ l,P f ρ l->P' f ρ l):gT C n sc b ρ lx P':=λA env ok okb og μ s R E S B=>
 al (h A env ok okb og μ s R E S B) (λfl s₁ p=>by obtain⟨f,ρ₁,lx₁,ok₁,okb₁,og₁,μ₁,q,r,r2,r3,r4⟩:=p;exact⟨f,ρ₁,lx₁,ok₁,okb₁,og₁,μ₁,k _ _ _ q,r,r2,r3,r4⟩) λ_ _ x=>x
theorem uJ.mono{e:Expr}{ρ:List LV}{lx:Lx}{P P':Va->List LV->Lx->Prop}(h:uJ C n sc e ρ lx P)(k:∀f ρ l,P f ρ l->P' f ρ l):uJ C n sc e ρ lx P':=λA env ok okb og μ s R E S B=>
 al (h A env ok okb og μ s R E S B) (λfl s₁ p=>by obtain⟨r,ρ₁,lx₁,q,a,b,c,d⟩:=p;exact⟨r,ρ₁,lx₁,k _ _ _ q,a,b,c,d⟩) λ_ _ x=>x
section
variable{b:List Stmt}{st:Stmt}{e:Expr}{ρ ρ':List LV}{lx l:Lx}{fl:Fl}{P:Fl->List LV->Lx->Prop}{R:Va->List LV->Lx->Prop}
theorem nO.to(h:nO C n sc b ρ lx (Je fl ρ' l))(q:P fl ρ' l):nO C n sc b ρ lx P:=h.mono (yE q)
theorem gT.to(h:gT C n sc st ρ lx (Je fl ρ' l))(q:P fl ρ' l):gT C n sc st ρ lx P:=h.mono (yE q)
theorem uJ.to{r:Va}(h:uJ C n sc e ρ lx (Je r ρ' l))(q:R r ρ' l):uJ C n sc e ρ lx R:=h.mono (yE q)
theorem S1.of{f:DS}(h:∀ρ lx P,BH (f ρ lx) P->gT C n sc st ρ lx P):S1 C n sc st f:=⟨λρ lx r ρ' l e=>h ρ lx _ (.of e ⟨rfl,rfl,rfl⟩)⟩
theorem S1.ok{f:DS}(h:S1 C n sc st f)(k:BH (f ρ lx) P):gT C n sc st ρ lx P:=by refine a7 k.eq λp e q=>?_;exact(h.run ρ lx p.1 p.2.1 p.2.2 e).to q
theorem SS.of{f:DS}(h:∀ρ lx P,BH (f ρ lx) P->nO C n sc b ρ lx P):SS C n sc b f:=⟨λρ lx r ρ' l e=>h ρ lx _ (.of e ⟨rfl,rfl,rfl⟩)⟩
theorem SS.ok{f:DS}(h:SS C n sc b f)(k:BH (f ρ lx) P):nO C n sc b ρ lx P:=by refine a7 k.eq λp e q=>?_;exact(h.run ρ lx p.1 p.2.1 p.2.2 e).to q
theorem SM.intro{f:DM}(h:∀ρ lx P,BH (f ρ lx) P->uJ C n sc e ρ lx P):SM C n sc e f:=⟨λρ lx r ρ' l e=>h ρ lx _ (.of e ⟨rfl,rfl,rfl⟩)⟩
theorem SM.ok{f:DM}(h:SM C n sc e f)(k:BH (f ρ lx) R):uJ C n sc e ρ lx R:=by refine a7 k.eq λp e q=>?_;exact(h.run ρ lx p.1 p.2.1 p.2.2 e).to q
end
noncomputable def DS.nil:DS:=λρ lx=>some (.nxt,ρ,lx)
noncomputable def DS.cons(a b:DS):DS:=λρ lx=>(a ρ lx).bind λp=>match p.1 with
 |.nxt=>b p.2.1 p.2.2
 |f=>some (f,p.2)
theorem SS.nil:SS C n sc [] .nil:=.of λ_ _ _ h=>nO.nil h
theorem SS.cons{st:Stmt}{rest:List Stmt}{a b:DS}(ha:S1 C n sc st a)(hb:SS C n sc rest b):SS C n sc (st::rest) (.cons a b):=.of λρ lx P h=>
 nO.cons (ha.ok (h.bind.mono λ⟨f,ρ',l⟩ h=>by cases f with
  |nxt=>exact hb.ok h
  |_=>exact h))
noncomputable def DS.cont:DS:=λρ lx=>some (.cont,ρ,lx)
theorem S1.cont:S1 C n sc (.Continue pos) .cont:=.of λ_ _ _ h=>gT.cont h
noncomputable def DS.brk:DS:=λρ lx=>some (.brk,ρ,lx)
theorem S1.brk:S1 C n sc (.Break pos) .brk:=.of λ_ _ _ h=>gT.brk h
noncomputable def DS.ret(a:DE):DS:=λρ lx=>(a ρ lx).map λp=>(.ret p.1,ρ,p.2)
theorem S1.ret{e:Expr}{a:DE}(ha:SE C n sc e a):S1 C n sc (.Return (some e) pos) (.ret a):=.of λρ lx P h=>gT.ret (ha.ok h.map)
noncomputable def DS.ite(t:DT)(a b:DS):DS:=λρ lx=>(t ρ lx).bind λp=>if p.1=true then a ρ p.2 else b ρ p.2
theorem S1.ite{t:Expr}{b o:List Stmt}{c:DT}{x y:DS}(ht:SB C n sc t c)(hx:SS C n sc b x)(hy:SS C n sc o y):S1 C n sc (.If t b o pos) (.ite c x y):=.of λρ lx P h=>
 gT.if (ht.ok (h.bind.mono λp h=>Ok.both h hx.ok hy.ok))
noncomputable def DS.asg(i:Nat)(a:DE):DS:=λρ lx=>(a ρ lx).bind λp=>p.1.lv.bind λlv=>if decide (i < ρ.length)=true then some (.nxt,ρ.set i lv,p.2)else none
theorem S1.asg{x:Str}{e:Expr}{p:Pos}{i:Nat}{k:az}{a:DE}(b:eP sc.names i x k)(hk:jW k)(ha:SE C n sc e a)(hs:∀env,kq e (some (.Name x p)) pos.line env=pure false):S1 C n sc (.Assign [.Name x p] e pos) (.asg i a):=.of λρ lx P h=>
 have g:i < ρ.length:=by refine a7 h.bind.eq λ_ _ h=>?_;exact by refine a7 ((Ok.bind h).eq) λ_ _ h=>?_;exact(Ok.iff' h).1
 gT.assign (b.at (aD g)) hk (ha.ok (h.bind.mono λp h=>by refine a7 h.bind.eq λlv e h=>?_;exact⟨lv,e,(Ok.iff' h).2⟩)) hs
noncomputable def DS.asgT(is:List Nat)(a:DE):DS:=λρ lx=>(a ρ lx).bind λp=>(sy p.1).bind λd=>((Tg.tup is).asg true d ρ).map λρ'=>(.nxt,ρ',p.2)
theorem S1.asgT{es:List Expr}{kk:Nat}{e:Expr}{tp:Pos}{is:List Nat}{a:DE}(b:EV sc.names es is)(ha:SE C n sc e a)(hs:∀env,swapsWithSole [.Tuple es kk tp] e pos.line env=pure false)(hw:∀env,swappedStores [.Tuple es kk tp] e env=pure none):S1 C n sc (.Assign [.Tuple es kk tp] e pos) (.asgT is a):=.of λρ lx P h=>
 gT.assignT (ρ':=[]) (ha.ok (h.bind.mono λp h=>by refine a7 h.bind.eq λd e h=>?_;exact by refine a7 (Tg.ok (.tup (kk:=kk) (pos:=tp) b) (Ok.map h)) λρ' c q=>?_;exact Y2 d ρ' ⟨kR e,c,q⟩)) hs hw
noncomputable def GI(op:fV)(a b:Va):Option Va:=match op with
 |.Add=>(oh (λx y=>some (Va.dat (.int (x+y)))) a b).or (Ku a b)
 |.Sub=>oh (λx y=>some (.dat (.int (x - y)))) a b
 |_=>none
theorem GH{op:fV}{x y:Va}{K:Va->Prop}(h:Ok (GI op x y) K):zc C op x y K:=by
 cases op with
 |Add=>exact h.or.elim (λh=>ip (P:=λx y=>zc C _ x y K) h λi j q=>zc.add_int q) λh=>iz (P:=λx=>zc C _ x y K) h.bind λi h=>iz (P:=λy=>zc C _ _ y K) (Ok.bind h) λj h=>zc.add_str (Ok.iff' h).1 (Ok.iff' h).2
 |Sub=>exact ip (P:=λx y=>zc C _ x y K) h λi j q=>zc.sub_int q
 |_=>exact h.elim
noncomputable def DS.aug(i:Nat)(op:fV)(a:DE):DS:=λρ lx=>ρ[i]?.bind λlv=>lv.va.bind λr=>(a ρ lx).bind λp=>(GI op r p.1).bind λz=>z.lv.map λlv=>(.nxt,ρ.set i lv,p.2)
theorem S1.aug{x:Str}{op:fV}{e:Expr}{p:Pos}{i:Nat}{k:az}{a:DE}(b:eP sc.names i x k)(hk:jW k)(ha:SE C (n+2) sc e a):S1 C (n+2) sc (.AugAssign (.Name x p) op e pos) (.aug i op a):=.of λρ lx P h=>
 by refine a7 h.bind.eq λlv e0 h=>?_;exact let⟨r,e1,h⟩:=(Ok.bind h).eq
 gT.aug (b.at e0) hk e1 (ha.ok ((Ok.bind h).mono λp h=>GH (h.bind.mono λz h=>by refine a7 h.map.eq λlv e q=>?_;exact⟨lv,e,q⟩)))
noncomputable def lK(tg:Tg)(b:DS):List D->DS
 |[],ρ,lx=>some (.nxt,ρ,lx)
 |d::ds,ρ,lx=>(tg.asg true d ρ).bind λρ1=>(b ρ1 lx).bind λp=>match p.1 with
  |.nxt=>lK tg b ds p.2.1 p.2.2
  |.cont=>lK tg b ds p.2.1 p.2.2
  |.brk=>some (.nxt,p.2)
  |.ret r=>some (.ret r,p.2)
theorem F9{tg:Expr}{t:Tg}{body:List Stmt}{b:DS}(a:wc sc.names tg t)(hb:SS C n sc body b){P:Fl->List LV->Lx->Prop}{ds:List D}:∀{ρ:List LV} {lx:Lx},BH (lK t b ds ρ lx) P->zd C n sc tg body ds ρ lx P:=by
 induction ds with
 |nil=>exact λh=>h
 |cons d ds ih=>exact λh=>let⟨ρ1,c,h⟩:=Tg.ok a h.bind;⟨ρ1,c,hb.ok (h.bind.mono λ⟨f,ρ',l⟩ h=>by cases f with
  |nxt=>exact ih h
  |cont=>exact ih h
  |_=>exact h)⟩
noncomputable def DS.for(it:DI)(tg:Tg)(b:DS):DS:=λρ lx=>(it ρ lx).bind λp=>if p.1=true then lK tg b p.2.1 ρ p.2.2 else none
theorem S1.for{iter tg:Expr}{body:List Stmt}{it:DI}{t:Tg}{b:DS}(hit:SI C n sc iter tg it)(a:wc sc.names tg t)(hb:SS C n sc body b)(hs:∀env x,ba iter env x=pure x):S1 C n sc (.For tg iter body [] pos) (.for it t b):=.of λρ lx P h=>by
 obtain⟨fz,h⟩:=hit.ok (Q:=λfz ds l=>fz=true/\zd C n sc tg body ds ρ l P) (h.bind.mono λp h=>⟨(Ok.iff h).1,F9 a hb (Ok.iff h).2⟩)
 cases fz with
 |true=>exact gT.for (h.mono λ_ _ q=>q.2) hs
 |false=>exact gT.for (λA env ok okb og μ s R E S=>al (h A env ok okb og μ s R E S) (λ_ _ h=>al h (λ_ _ p=>by obtain⟨_,_,_,_,q,_,_,_,_,_,_,_,_⟩:=p;exact nomatch q.1) λ_ _ x=>x) λ_ _ x=>x) hs
noncomputable def jX(t:DT)(b:DS):Nat->DS
 |0,_,_=>none
 |k+1,ρ,lx=>(t ρ lx).bind λp=>if p.1=true then(b ρ p.2).bind λq=>(match q.1 with
  |.nxt=>jX t b k q.2.1 q.2.2
  |.cont=>jX t b k q.2.1 q.2.2
  |.brk=>some (.nxt,q.2)
  |.ret r=>some (.ret r,q.2))else some (.nxt,ρ,p.2)
theorem AB{te:Expr}{t:DT}{body:List Stmt}{b:DS}(ht:SB C n sc te t)(hb:SS C n sc body b){P:Fl->List LV->Lx->Prop}{k:Nat}:∀{ρ:List LV} {lx:Lx},BH (jX t b k ρ lx) P->xI C n sc te body P k ρ lx:=by
 induction k with
 |zero=>exact λh=>h
 |succ k ih=>exact λh=>ht.ok (h.bind.mono λp h=>Ok.both h (λh=>hb.ok (h.bind.mono λ⟨f,ρ',l⟩ h=>by cases f with
  |nxt=>exact ih h
  |cont=>exact ih h
  |_=>exact h)) λh=>h)
noncomputable def DS.while(k:Nat)(t:DT)(b:DS):DS:=jX t b k
theorem S1.while{te:Expr}{t:DT}{body:List Stmt}{b:DS}(k:Nat)(ht:SB C n sc te t)(hb:SS C n sc body b):S1 C n sc (.While te body [] pos) (.while k t b):=.of λρ lx P h=>gT.while k (AB ht hb h)
noncomputable def LV.ownD:LV->Option (List D)
 |.own ds=>some ds
 |_=>none
theorem LV.ownD_ok{lv:LV}{ds:List D}(h:lv.ownD=some ds):lv=.own ds:=by
 cases lv with
 |own _=>cases h;rfl
 |_=>exact by cases h
noncomputable def ownAt(ρ:List LV)(i:Nat):Option (List D):=ρ[i]?.bind LV.ownD
theorem oR{ρ:List LV}{i:Nat}{Q:List D->Prop}(h:Ok (ownAt ρ i) Q):∃ds,ρ[i]? =some (.own ds)/\Q ds:=by refine a7 h.bind.eq λ_ e h=>?_;exact by refine a7 (Ok.eq h) λds e' q=>?_;exact⟨ds,LV.ownD_ok e'▸e,q⟩
noncomputable def DM.of(a:DE):DM:=λρ lx=>(a ρ lx).map λp=>(p.1,ρ,p.2)
theorem SM.of{e:Expr}{a:DE}(ha:SE C n sc e a):SM C n sc e (.of a):=.intro λρ lx P h=>uJ.of (ha.ok h.map)
noncomputable def DM.pop(i:Nat)(a:DE):DM:=λρ lx=>(ownAt ρ i).bind λds=>(a ρ lx).bind λp=>(dM p.1).bind λm=>(cP m ds.length).bind λj=>ds[j]?.bind λd=>
 if dn m=true then(if decide (ds.length<=sizeLine)=true then some (.dat d,ρ.set i (.own (ds.eraseIdx j)),p.2)else none)else none
theorem SM.pop{x:Str}{e:Expr}{p apos:Pos}{i:Nat}{k:az}{a:DE}(b:eP sc.names i x k)(hk:jW k)(ha:SE C n sc e a)(hd:(x==("__debug__":Str))=false)(hs:bt [e]=true)(hline:(apos.endLine==pos.line)=true):SM C n sc (.Call (.Attribute (.Name x p) "pop" apos) [e] [] pos) (.pop i a):=.intro λρ lx P h=>
 by refine a7 (oR h.bind) λds e0 h=>?_;exact uJ.pop (b.at e0) hk (ha.ok ((Ok.bind h).mono λp h=>by refine a7 h.bind.eq λm e1 h=>?_;exact by refine a7 ((Ok.bind h).eq) λj e2 h=>?_;exact by refine a7 ((Ok.bind h).eq) λd e3 h=>?_;exact Y3 m j d ⟨dB e1,(Ok.iff h).1,e2,e3,(Ok.iff' (Ok.iff h).2).1,(Ok.iff' (Ok.iff h).2).2⟩)) hd hs hline
noncomputable def DM.tup2(a:DM)(b:DE):DM:=λρ lx=>(a ρ lx).bind λp=>(sy p.1).bind λd=>(b p.2.1 p.2.2).bind λq=>(sy q.1).map λd2=>(.dat (.tuple [d,d2]),p.2.1,q.2)
theorem SM.tup2{e1 e2:Expr}{kk:Nat}{a:DM}{b:DE}(ha:SM C n sc e1 a)(hb:SE C n sc e2 b)(hs:bt [e1,e2]=true):SM C n sc (.Tuple [e1,e2] kk pos) (.tup2 a b):=.intro λρ lx P h=>
 uJ.tuple2 (ha.ok (h.bind.mono λp h=>by refine a7 h.bind.eq λd e h=>?_;exact⟨d,kR e,hb.ok ((Ok.bind h).mono λq h=>by refine a7 h.map.eq λd2 e2 h=>?_;exact⟨d2,kR e2,h⟩)⟩)) hs
noncomputable def DS.app(i:Nat)(a:DM):DS:=λρ lx=>(ownAt ρ i).bind λ_=>(a ρ lx).bind λp=>(sy p.1).bind λd=>(ownAt p.2.1 i).bind λds=>if decide (ds.length<=sizeLine)=true then some (.nxt,p.2.1.set i (.own (ds++[d])),p.2.2)else none
theorem S1.app{x:Str}{e:Expr}{p apos pos':Pos}{i:Nat}{k:az}{a:DM}(b:eP sc.names i x k)(hk:jW k)(ha:SM C n sc e a)(hd:(x==("__debug__":Str))=false)(hs:bt [e]=true)(hline:(apos.endLine==pos.line)=true):S1 C n sc (.Expr (.Call (.Attribute (.Name x p) "append" apos) [e] [] pos) pos') (.app i a):=.of λρ lx P h=>
 by refine a7 (oR h.bind) λ_ e0 h=>?_;exact gT.append (b.at e0) hk (ha.ok ((Ok.bind h).mono λp h=>by refine a7 h.bind.eq λd e h=>?_;exact by refine a7 (oR (Ok.bind h)) λds e2 h=>?_;exact Y2 d ds ⟨kR e,b.at e2,(Ok.iff' h).1,(Ok.iff' h).2⟩)) hd hs hline
noncomputable def lX:List D->Option (List Int)
 |[]=>some []
 |d::r=>(dM (.dat d)).bind λi=>(lX r).map (i:: ·)
theorem o4{ds:List D}:∀{is:List Int},lX ds=some is->ds=is.map .int:=by
 induction ds with
 |nil=>intro is h;cases h;rfl
 |cons d r ih=>
  intro is h
  refine a7 (eg h) λi e1 h=>?_
  refine a7 (tB h) λq e h=>?_
  rw[<-h,ih e,bX]
  exact congrArg (· ::_) (Va.dat.inj (dB e1))
noncomputable def DS.rem(i:Nat)(a:DE):DS:=λρ lx=>(ownAt ρ i).bind λds=>(lX ds).bind λis=>(a ρ lx).bind λp=>(dM p.1).bind λm=>if is.contains m=true then(if decide (is.length<=sizeLine)=true then some (.nxt,ρ.set i (.own ((is.erase m).map .int)),p.2)else none)else none
theorem S1.rem{x:Str}{e:Expr}{p apos pos':Pos}{i:Nat}{k:az}{a:DE}(b:eP sc.names i x k)(hk:jW k)(ha:SE C n sc e a)(hd:(x==("__debug__":Str))=false)(hs:bt [e]=true)(hline:(apos.endLine==pos.line)=true):S1 C n sc (.Expr (.Call (.Attribute (.Name x p) "remove" apos) [e] [] pos) pos') (.rem i a):=.of λρ lx P h=>
 by refine a7 (oR h.bind) λds e0 h=>?_;exact let⟨is,e1,h⟩:=(Ok.bind h).eq
 gT.remove (is:=is) (b.at (o4 e1▸e0)) hk (ha.ok ((Ok.bind h).mono λp h=>by refine a7 h.bind.eq λm e2 h=>?_;exact⟨m,dB e2,List.contains_iff_mem.mp (Ok.iff h).1,(Ok.iff' (Ok.iff h).2).1,(Ok.iff' (Ok.iff h).2).2⟩)) hd hs hline
noncomputable def DS.new(i:Nat):DS:=λρ lx=>if decide (i < ρ.length)=true then some (.nxt,ρ.set i (.own []),lx)else none
theorem S1.new{x:Str}{lp p:Pos}{i:Nat}{k:az}(b:eP sc.names i x k)(hk:jW k):S1 C n sc (.Assign [.Name x p] (.List [] lp) pos) (.new i):=.of λρ lx P h=>gT.newOwn (b.at (aD h.iff'.1)) hk h.iff'.2
theorem wu{x:Str}{elt:Expr}{gens:List bF}{scope:Scope}{cpos p:Pos}{line:Nat}{i:Nat}(h:eP sc.names i x .cell):∀env,aY sc env->kq (.ListComp elt gens scope cpos) (some (.Name x p)) line env=pure false:=λenv E=>by
 have hl:env.kindOf x=some .cell:=by
  unfold fM;rw[E.scope]
  have:∀{ns:List (Str × az)} {i:Nat} {x:Str} {k:az},eP ns i x k->ns[i]? =some (x,k):=by
   intro ns i x k h
   induction h with
   |here=>rfl
   |there _ ih=>simpa using ih
  exact cS E.nodup (this h)
 unfold kq
 have e:(some cG==some NameKind.local)=false:=rfl
 show(do return env.blockKind== .function&&env.kindOf x==some .local&&p.line==cpos.line&&!(scope.names.any λ(n,k)=>n==x&&(k== .local||k== .cell)):Sem Bool)=_
 rw[hl,e]
 simp
theorem rI{x:Str}{elt:Expr}{gens:List bF}{scope:Scope}{cpos p:Pos}{line:Nat}{i:Nat}(h:eP sc.names i x .local)(hl:(p.line==cpos.line)=true)(hn:(scope.names.any λ(n,k)=>n==x&&(k== .local||k== .cell))=false):∀env,aY sc env->kq (.ListComp elt gens scope cpos) (some (.Name x p)) line env=pure true:=λenv E=>by
 have hk:env.kindOf x=some .local:=by unfold fM;rw[E.scope];exact cS E.nodup h.get
 have hb:(env.blockKind==ScopeKind.function)=true:=by unfold Env.blockKind;rw[E.scope,E.kind];rfl
 unfold kq
 show(do return env.blockKind== .function&&env.kindOf x==some .local&&p.line==cpos.line&&!(scope.names.any λ(n,k)=>n==x&&(k== .local||k== .cell)):Sem Bool)=_
 rw[hn,hk,hb]
 have e:p.line=cpos.line:=eq_of_beq hl
 simp[e]
noncomputable def DS.comp(i:Nat)(f:List LV->Lx->Option (List D × Lx)):DS:=λρ lx=>if decide (i < ρ.length)=true then(f ρ lx).map λp=>(.nxt,ρ.set i (.dat (.list p.1)),p.2)else none
noncomputable def DS.compO(i:Nat)(f:List LV->Lx->Option (List D × Lx)):DS:=λρ lx=>if decide (i < ρ.length)=true then(f ρ lx).map λp=>(.nxt,ρ.set i (.own p.1),p.2)else none
def ED(C:Cx)(n:Nat)(sc scope:Scope)(elt:Expr)(gens:List bF)(f:List LV->Lx->Option (List D × Lx)):Prop:=∃sc',Ho C n sc sc' scope.names elt gens f/\((sc.names.map (·.1)).Nodup->fj sc scope=sc')
theorem ED.one{kd:tN}{ns ns':List (Str × az)}{g c:Bool}{m:List (Str × Const)}{cs:List (Option Nat)}{elt iter tg:Expr}{ifs:List Expr}{it:DI}{t:Tg}{i:DT}{a:DE}(hc:jg sc.names ns cs ns')(hit:SI C n sc iter tg it)(ht:wc ns' tg t)(hi:xR C n ⟨kd,ns',g,c,m⟩ ifs i)(ha:SE C n ⟨kd,ns',g,c,m⟩ elt a):
  ED C n sc ⟨kd,ns,g,c,m⟩ elt [⟨tg,iter,ifs,0⟩] (cw cs it t i (cF a)):=⟨_,Ho.one hc hit ht hi ha,vM hc⟩
theorem ED.two{kd:tN}{ns ns':List (Str × az)}{g c:Bool}{m:List (Str × Const)}{cs:List (Option Nat)}{elt iter tg iter2 tg2:Expr}{ifs ifs2:List Expr}{it it2:DI}{t t2:Tg}{i i2:DT}{a:DE}(hc:jg sc.names ns cs ns')(hit:SI C n sc iter tg it)(ht:wc ns' tg t)(hi:xR C n ⟨kd,ns',g,c,m⟩ ifs i)
  (hit2:SI C n ⟨kd,ns',g,c,m⟩ iter2 tg2 it2)(ht2:wc ns' tg2 t2)(hi2:xR C n ⟨kd,ns',g,c,m⟩ ifs2 i2)(ha:SE C n ⟨kd,ns',g,c,m⟩ elt a)(hs:∀env x,ba iter2 env x=pure x):
  ED C n sc ⟨kd,ns,g,c,m⟩ elt [⟨tg,iter,ifs,0⟩,⟨tg2,iter2,ifs2,0⟩] (cw cs it t i (o9 it2 t2 i2 a)):=⟨_,Ho.two hc hit ht hi hit2 ht2 hi2 ha hs,vM hc⟩
theorem SE.compW{scope:Scope}{elt:Expr}{gens:List bF}{f:List LV->Lx->Option (List D × Lx)}(hf:ED C n sc scope elt gens f)(hnd:(scope.names.map (·.1)).Nodup)(hkind:scope.kind=.function)(hxf:∀x∈jA gens,(x,aL) ∉ scope.names)
  (hs:∀env x,ba (iC gens) env x=pure x)(ha:eX gens=false):SE C n sc (.ListComp elt gens scope pos) (.comp f):=by refine a7 hf λ_ h1 h2=>?_;exact SE.comp h1 h2 hnd hkind hxf hs ha
theorem S1.compW{x:Str}{scope:Scope}{elt:Expr}{gens:List bF}{cpos p:Pos}{i:Nat}{f:List LV->Lx->Option (List D × Lx)}(b:eP sc.names i x .local)(hf:ED C n sc scope elt gens f)(hl:(p.line==cpos.line)=true)(hn:(scope.names.any λ(n,k)=>n==x&&(k== .local||k== .cell))=false)
  (hnd:(scope.names.map (·.1)).Nodup)(hkind:scope.kind=.function)(hxf:∀x∈jA gens,(x,aL) ∉ scope.names)(hs:∀env x,ba (iC gens) env x=pure x)(ha:eX gens=false):
  S1 C n sc (.Assign [.Name x p] (.ListComp elt gens scope cpos) pos) (.comp i f):=.of λρ lx P h=>
 by refine a7 hf λ_ h1 h2=>?_;exact let⟨_,hc,k⟩:=h1 (Q:=λout l=>P .nxt (ρ.set i (.dat (.list out))) l) h.iff'.2.map
 gT.assignComp (b.at (aD h.iff'.1)) h2 hc k (rI b hl hn) hnd hkind hxf hs ha
theorem S1.compOW{x:Str}{scope:Scope}{elt:Expr}{gens:List bF}{cpos p:Pos}{i:Nat}{f:List LV->Lx->Option (List D × Lx)}(b:eP sc.names i x .cell)(hf:ED C n sc scope elt gens f)
  (hnd:(scope.names.map (·.1)).Nodup)(hkind:scope.kind=.function)(hxf:∀x∈jA gens,(x,aL) ∉ scope.names)(hs:∀env x,ba (iC gens) env x=pure x)(ha:eX gens=false):
  S1 C n sc (.Assign [.Name x p] (.ListComp elt gens scope cpos) pos) (.compO i f):=.of λρ lx P h=>
 by refine a7 hf λ_ h1 h2=>?_;exact let⟨_,hc,k⟩:=h1 (Q:=λout l=>P .nxt (ρ.set i (.own out)) l) h.iff'.2.map
 gT.assignOwn (b.at (aD h.iff'.1)) (.inr rfl) h2 hc k hnd hkind hxf hs ha (wu b)
end
section
variable{C:Cx}{n:Nat}{sc:Scope}{pos:Pos}
noncomputable def DN(f:Va->Option Va):DF:=λrs lx=>rs.head?.bind λr=>if rs.tail.isEmpty=true then(f r).map λv=>(v,lx)else none
theorem rk{v:Value}{f:Va->Option Va}(h:∀r lx Q,Ok (f r) (λx=>Q x lx)->dS C n v [r] lx Q):kg C n v (DN f):=.of λrs lx Q k=>by
 cases rs with
 |nil=>exact k.elim
 |cons r rs=>exact by refine(λg k=>?_) (Ok.iff k).1 (Ok.iff k).2;exact(show rs=[]from List.isEmpty_iff.mp g)▸h r lx Q (Ok.map k)
noncomputable def lenF:DF:=DN λr=>r.d.bind λd=>(Hb d).bind λk=>if decide (k<=sizeLine)=true then some (.dat (.int k))else none
theorem FQ:kg C n (.builtin "len") lenF:=rk λr lx Q h=>by
 refine a7 h.bind.eq λd e1 h=>?_
 refine a7 ((Ok.bind h).eq) λk e2 h=>?_
 exact dS.len e1 e2 (Ok.iff' h).1 (Ok.iff' h).2
theorem dS.sumT{r:Va}{is:List Int}{Q:Va->Lx->Prop}(hd:r.d=some (.tuple (is.map .int)))(h:Q (.dat (.int is.sum)) lx):dS C n (.builtin "sum") [r] lx Q:=λA ok okb s vs R w a=>by
 obtain⟨v,rfl,rv⟩:=jq a
 obtain⟨a,vs,rfl,l,rs⟩:=Rd.tuple_inv (rv.rd w.sub hd)
 refine a7 (n9 (vq rs)) λxs e1 e2=>?_
 rw[show vs=intItems xs by rw[<-e1]]at l
 refine bR (ktm_sumG R.hh l λh' tk t' hk hle hz=>?_)
 have g:bG s {s with heap:=h',toks:=tk}:=.of_keep hle hz hk
 rw[show preSum (numAt xs) xs.size=is.sum from e2▸zk xs]
 exact .of0 h Rd.int w.lxr g
noncomputable def GV(r:Va):Option (List D):=(sy r).bind uT
theorem BY{r:Va}{ds:List D}(h:GV r=some ds):r.d=some (.tuple ds):=by refine a7 (eg h) λd e h=>?_;exact by rw[kR e,pI h];rfl
noncomputable def od(r:Va):Option (List Int):=(lG r).bind lX
theorem uj{r:Va}{is:List Int}(h:od r=some is):r.d=some (.list (is.map .int)):=by refine a7 (eg h) λds e h=>?_;exact o4 h▸kK e
noncomputable def sumF:DF:=DN λr=>((od r).or ((GV r).bind lX)).map λis=>.dat (.int is.sum)
theorem Fb:kg C n (.builtin "sum") sumF:=rk λr lx Q h=>by
 rcases h.map.or with h|h
 ·exact by refine a7 h.eq λis e q=>?_;exact dS.sum (uj e) q
 ·exact by refine a7 h.bind.eq λds e h=>?_;exact by refine a7 (Ok.eq h) λis e2 q=>?_;exact dS.sumT (o4 e2▸BY e) q
noncomputable def oW:List Int->Int
 |[]=>0
 |x::r=>r.foldl (λa b=>if a < b then b else a) x
theorem Ga(r:List Int):∀x:Int,(r.foldl (λa b=>if a < b then b else a) x=x\/r.foldl (λa b=>if a < b then b else a) x∈r)/\x<=r.foldl (λa b=>if a < b then b else a) x/\∀y∈r,y<=r.foldl (λa b=>if a < b then b else a) x:=by
 induction r with
 |nil=>intro x;exact⟨.inl rfl,pE _,λ_ m=>by cases m⟩
 |cons a r ih=>
  intro x
  simp only[List.foldl_cons]
  refine oG (ih (if x < a then a else x)) λh1 h2 h3=>?_
  refine⟨?_,?_,λy m=>?_⟩
  ·rcases h1 with h1|h1
   ·rw[h1];by_cases q:x < a
    ·rw[if_pos q];exact .inr lj
    ·rw[if_neg q];exact .inl rfl
   ·exact .inr (pD _ h1)
  ·refine dA ?_ h2
   by_cases q:x < a
   ·rw[if_pos q];exact Int.le_of_lt q
   ·rw[if_neg q];exact pE _
  ·rcases List.mem_cons.mp m with rfl|m
   ·refine dA ?_ h2
    by_cases q:x < y
    ·rw[if_pos q];exact pE _
    ·rw[if_neg q];exact Int.not_lt.mp q
   ·exact h3 y m
theorem C4{x:Int}{r:List Int}:oW (x::r)∈x::r/\∀y∈x::r,y<=oW (x::r):=by
 refine oG (Ga r x) λh1 h2 h3=>?_
 refine⟨?_,λy m=>?_⟩
 ·rcases h1 with h1|h1
  ·have:oW (x::r)=x:=h1
   rw[this];exact lj
  ·exact pD _ h1
 ·rcases List.mem_cons.mp m with rfl|m
  ·exact h2
  ·exact h3 y m
noncomputable def maxF:DF:=DN λr=>(od r).bind λis=>if decide (0 < is.length)=true then some (.dat (.int (oW is)))else none
theorem H3{is:List Int}(hne:0 < is.length){xs:Array (Int × Tok)}(f2:xs.toList.map (·.1)=is):numAt xs (argBest (λi j=>decide (numAt xs i > numAt xs j)) (xs.size - 1))=oW is:=by
 have hsz:xs.size=is.length:=by rw[<-f2,af,cA]
 refine en (argBest_gt (numAt xs) (xs.size - 1)) λb1 b2=>?_
 have at_:∀i,i < is.length->is[i]? =some (numAt xs i):=λi hi=>by
  rw[<-f2,aW,a9,numAt,bn (hsz▸hi)]
  rfl
 cases is with
 |nil=>exact absurd hne (fw _)
 |cons y r=>
  refine en (C4 (x:=y) (r:=r)) λm1 m2=>?_
  refine Int.le_antisymm (m2 _ (aU (at_ _ (du b1 (hsz▸Nat.sub_lt (hsz▸hne) Nat.one_pos))))) ?_
  refine cU (List.mem_iff_getElem?.mp m1) λi hi=>?_
  have hil:=(List.getElem?_eq_some_iff.mp hi).1
  rw[ao (hi.symm.trans (at_ i hil))]
  exact b2 i (Nat.le_sub_one_of_lt (hsz▸hil))
theorem vv{ok okb:Addr->Prop}{lx:Lx}{s:ab}{r:Va}{v:Value}{is:List Int}(k:∀a,ok a->okb a)(rv:RV ok okb lx s.heap r v)(e:od r=some is):∃a vs,v=.ref a/\s.heap.IsList a vs/\IntsAre vs.toList is:=
 by refine BG (Rd.list_inv (rv.rd k (uj e))) λa vs e1 _ l rs=>?_;exact Y2 a vs ⟨e1,l.isList,vq rs⟩
theorem FK:kg C n (.builtin "max") maxF:=rk λr lx Q h A ok okb s vs R w a=>by
 refine a7 h.bind.eq λis e2 h=>?_
 refine en (Ok.iff' h) λhne q=>?_
 obtain⟨v,rfl,rv⟩:=jq a
 obtain⟨a,vs,rfl,l,rs⟩:=vv w.sub rv e2
 obtain⟨xs,f1,f2⟩:=n9 rs
 rw[show vs=intItems xs by rw[<-f1]]at l
 refine bR (max_intList R.hh l (by have:=congrArg fX f2;rw[af,cA]at this;exact J2 [Ql (Qs (Qn 0) 1) Q1,Qe Q0 Q1] (Qs (Qn 0) 1) Q0 1 [1,.negSucc 0] Qt hne this) λv h' tk hv hk hle hz=>?_)
 obtain⟨t,rfl⟩:=intItems_at hv
 rw[H3 hne f2]
 exact .of0 q Rd.int w.lxr (.of_keep hle hz hk)
noncomputable def minF:DF:=λrs lx=>rs.head?.bind λa=>rs.tail.head?.bind λb=>if rs.tail.tail.isEmpty=true then oh (λx y=>some (.dat (.int (if y < x then y else x)),lx)) a b else none
theorem KY{a b:Int}{lx:Lx}{Q:Va->Lx->Prop}(h:Q (.dat (.int (if b < a then b else a))) lx):dS C n (.builtin "min") [.dat (.int a),.dat (.int b)] lx Q:=λA ok okb s vs R w q=>by
 obtain⟨v,v',rfl,rv,rv'⟩:=pG q
 obtain⟨t,rfl⟩:=Rd.int_inv rv
 obtain⟨u,rfl⟩:=Rd.int_inv rv'
 refine bR (min_two_ints R.hh λh' tk hk hle hz=>.of0 h ?_ w.lxr (.of_keep hle hz hk))
 by_cases q:b < a
 ·rw[if_pos q,if_pos q];exact Rd.int
 ·rw[if_neg q,if_neg q];exact Rd.int
theorem FJ:kg C n (.builtin "min") minF:=.of λrs lx Q h=>by
 cases rs with
 |nil=>exact h.elim
 |cons a rs=>cases rs with
  |nil=>exact h.elim
  |cons b rs=>exact by refine(λg h=>?_) (Ok.iff h).1 (Ok.iff h).2;exact ip (P:=λa b=>dS C n _ (a::b::rs) lx Q) h λx y q=>(show rs=[]from List.isEmpty_iff.mp g)▸KY q
noncomputable def ins(x:Int):List Int->List Int
 |[]=>[x]
 |y::r=>if x<=y then x::y::r else y::ins x r
noncomputable def gN:List Int->List Int
 |[]=>[]
 |x::r=>ins x (gN r)
theorem sk(x:Int):∀l,(ins x l).Perm (x::l)
 |[]=>.refl _
 |y::r=>by
  unfold ins
  split
  ·exact .refl _
  ·exact((sk x r).cons y).trans (.swap x y r)
theorem lJ:∀l,(gN l).Perm l
 |[]=>.refl _
 |x::r=>(sk x _).trans ((lJ r).cons x)
theorem sj(x:Int):∀l:List Int,l.Pairwise (· <= ·)->(ins x l).Pairwise (· <= ·)
 |[],_=>by simp[ins]
 |y::r,h=>by
  refine(λh1 h2=>?_) (List.pairwise_cons.mp h).1 (List.pairwise_cons.mp h).2
  unfold ins
  split
  ·rename_i q
   refine List.pairwise_cons.mpr ⟨λz m=>?_,h⟩
   rcases List.mem_cons.mp m with rfl|m
   ·exact q
   ·exact dA q (h1 z m)
  ·rename_i q
   refine List.pairwise_cons.mpr ⟨λz m=>?_,sj x r h2⟩
   rcases List.mem_cons.mp ((sk x r).mem_iff.mp m)with rfl|m
   ·exact Int.le_of_lt (Int.not_le.mp q)
   ·exact h1 z m
theorem lI:∀l:List Int,(gN l).Pairwise (· <= ·)
 |[]=>.nil
 |x::r=>sj x _ (lI r)
theorem rN{s:ab}{vs:List Value}{out:Array Value}{ok:Addr->Prop}{ns:List Int}(hf:EX ok s.heap)(hI:IntsAre out.toList ns):Rd ok (sortedAll s.heap vs out) (.ref (s.heap.objs.size+1)) (.list (ns.map .int)):=by
 refine cU (sortedAll_at s.heap vs out) λe h=>?_
 exact Rd.list ⟨e,h⟩ (hf _ (a8 _)) (FE hI)
noncomputable def sortF:DF:=DN λr=>(od r).bind λis=>if decide (is.length < 64)=true then some (.dat (.list ((gN is).map .int)))else none
theorem Cp:kg C n (.builtin "sorted") sortF:=rk λr lx Q h A ok okb s vs R w a=>by
 refine a7 h.bind.eq λis e2 h=>?_
 refine en (Ok.iff' h) λhne q=>?_
 refine cU (jq a) λv hX=>?_;obtain rfl:=hX.1;refine(λrv=>?_) hX.2
 obtain⟨a,vs,rfl,l,rs⟩:=vv w.sub rv e2
 refine bR (sorted_ints (vs:=vs.toList) l rs (rs.length▸hne) λout ns' hI hp hs hle hsz=>?_)
 obtain rfl:=(ksm_same (hp.trans (lJ is).symm) hs (lI is):ns'=gN is)
 exact .of0 q (rN w.okf hI) w.lxr (.of_keep (t:=s.toks) (ai _) hsz λb o e=>BJ e)
noncomputable def DE.sortRev(a:DE):DE:=λρ lx=>(a ρ lx).bind λp=>(od p.1).bind λis=>if decide (is.length < 64)=true then some (.dat (.list ((gN is).reverse.map .int)),p.2)else none
theorem Cn{ns is:List Int}(hp:ns.Perm is)(ho:ns.Pairwise (· >= ·)):ns=(gN is).reverse:=by
 rw[<-ksm_same (ns.reverse_perm.trans (hp.trans (lJ is).symm)) (List.pairwise_reverse.mpr ho) (lI is),List.reverse_reverse]
theorem SE.sortRev{p kp cp:Pos}{ck:Nat}{e:Expr}{a:DE}(k:dk C)(hx:nF sc.names "sorted" .globalImplicit)(hv:Gb C "sorted" (.builtin "sorted"))(ha:SE C n sc e a)(hs:bt [e]=true):
  SE C n sc (.Call (.Name "sorted" p) [e] [⟨some "reverse",.Constant (.bool true) ck cp,kp⟩] pos) (.sortRev a):=.of λρ lx Q h A env ok okb og μ s R E S=>by
 refine ca (eN k E S.wd hx hv ?_ (by decide+kernel))
 have he:=(bq (env:=env) hs).1
 refine callWith_kw (al (zN (pos:=pos) R E [e] lx s (λrs l=>∃r is,rs=[r]/\od r=some is/\is.length < 64/\Q (.dat (.list ((gN is).reverse.map .int))) l) S hs
  (ha.ok (h.bind.mono λp h=>by refine a7 h.bind.eq λis e h=>?_;exact Y2 p.1 is ⟨rfl,e,(Ok.iff' h).1,(Ok.iff' h).2⟩))) (λvs s₁ h1=>?_) λ_ _ x=>x) (by rw[he];rfl) (by rw[he];rfl)
 obtain⟨rs,lx₁,⟨r,is,rfl,e1,hz,q⟩,rr,sa,l,g1⟩:=h1
 refine kws_cons (uN (kws_nil ?_))
 have S1:=S.grow g1 sa l
 obtain⟨v,rfl,rv⟩:=jq rr
 obtain⟨a,vs,rfl,la,rs⟩:=vv S.sub rv e1
 show ar C.M A (xW (.builtin "sorted") [.ref a] [(ad "reverse",.bool true)]) _ _ _
 refine bR (sorted_ints_rev (vs:=vs.toList) la rs (rs.length▸hz) λout ns' hI hp ho hle hsz=>?_)
 obtain rfl:=Cn hp (show ns'.Pairwise (· >= ·)by simpa [Ordered]using ho)
 exact iV.then g1 sa (.of0 q (rN S1.okf hI) l (.of_keep (t:=s₁.toks) (ai _) hsz λb o e=>BJ e))
noncomputable def rL:List D->Option (List Str)
 |[]=>some []
 |d::r=>(ia (.dat d)).bind λi=>(rL r).map (i:: ·)
theorem Ch{ds:List D}:∀{is:List Str},rL ds=some is->ds=is.map .str:=by
 induction ds with
 |nil=>intro is h;cases h;rfl
 |cons d r ih=>
  intro is h
  refine a7 (eg h) λi e1 h=>?_
  refine a7 (tB h) λq e h=>?_
  rw[<-h,ih e,bX]
  exact congrArg (· ::_) (Va.dat.inj (kE e1))
noncomputable def rK(r:Va):Option (List Str):=(lG r).bind rL
theorem tV{r:Va}{is:List Str}(h:rK r=some is):r.d=some (.list (is.map .str)):=by refine a7 (eg h) λds e h=>?_;exact Ch h▸kK e
noncomputable def DE.join(o a:DE):DE:=λρ lx=>(o ρ lx).bind λp=>(ia p.1).bind λx=>(a ρ p.2).bind λq=>(rK q.1).bind λxs=>if JoinOk x xs=true then some (.dat (.str (Txt.join x xs)),q.2)else none
theorem SE.join{o e:Expr}{apos:Pos}{f a:DE}(hf:SE C n sc o f)(ha:SE C n sc e a)(hbase:∀env,f8 o "join" env (eval o env)=eval o env)(hs:bt [e]=true)(hline:(apos.endLine==pos.line)=true):
  SE C n sc (.Call (.Attribute o "join" apos) [e] [] pos) (.join f a):=.of λρ lx Q h=>
 Ev.strMeth F.slot_str_join F.type_str_join (hf.ok (h.bind.mono λp h=>by refine a7 h.bind.eq λx e h=>?_;exact⟨x,kE e,ha.ok ((Ok.bind h).mono λq h=>by refine a7 h.bind.eq λxs e h=>?_;exact dS.join (tV e) (Ok.iff h).1 (Ok.iff h).2)⟩)) hbase hs hline
noncomputable def DE.count(o a:DE):DE:=λρ lx=>(o ρ lx).bind λp=>(ia p.1).bind λx=>(a ρ p.2).bind λq=>(ia q.1).map λy=>(.dat (.int (Txt.count x y)),q.2)
theorem SE.count{o e:Expr}{apos:Pos}{f a:DE}(hf:SE C n sc o f)(ha:SE C n sc e a)(hbase:∀env,f8 o "count" env (eval o env)=eval o env)(hs:bt [e]=true)(hline:(apos.endLine==pos.line)=true):
  SE C n sc (.Call (.Attribute o "count" apos) [e] [] pos) (.count f a):=.of λρ lx Q h=>
 Ev.strMeth F.slot_str_count F.type_str_count (hf.ok (h.bind.mono λp h=>by refine a7 h.bind.eq λx e h=>?_;exact⟨x,kE e,ha.ok ((Ok.bind h).mono λq h=>iz (P:=λr=>dS C n _ [_,r] q.2 Q) h.map λy=>dS.count)⟩)) hbase hs hline
noncomputable def DE.repl(y z:Str)(o:DE):DE:=λρ lx=>(o ρ lx).bind λp=>(ia p.1).bind λx=>if decide (x.length<=1048576)=true then some (.dat (.str (gX x y z)),p.2)else none
theorem SE.repl{o:Expr}{y z:Str}{k1 k2:Nat}{p1 p2 apos:Pos}{f:DE}(hf:SE C n sc o f)(hyz:(y==z)=false)(hz:z.length<=14)(hbase:∀env,f8 o "replace" env (eval o env)=eval o env)(hline:(apos.endLine==pos.line)=true):
  SE C n sc (.Call (.Attribute o "replace" apos) [.Constant (.str y) k1 p1,.Constant (.str z) k2 p2] [] pos) (.repl y z f):=.of λρ lx Q h=>
 Ev.replace hyz hz (hf.ok (h.bind.mono λp h=>by refine a7 h.bind.eq λx e h=>?_;exact⟨x,kE e,(Ok.iff' h).1,(Ok.iff' h).2⟩)) hbase hline
noncomputable def DE.index(o a:DE):DE:=λρ lx=>(o ρ lx).bind λp=>(rK p.1).bind λxs=>(a ρ p.2).bind λq=>(ia q.1).bind λx=>if xs.contains x=true then(if decide (xs.length < 1000000)=true then some (.dat (.int (xs.idxOf x:Nat)),q.2)else none)else none
theorem SE.index{o e:Expr}{apos:Pos}{f a:DE}(hf:SE C n sc o f)(ha:SE C n sc e a)(hbase:∀env,f8 o "index" env (eval o env)=eval o env)(hs:bt [e]=true)(hline:(apos.endLine==pos.line)=true):
  SE C n sc (.Call (.Attribute o "index" apos) [e] [] pos) (.index f a):=.of λρ lx Q h=>
 Ev.index (hf.ok (h.bind.mono λp h=>by refine a7 h.bind.eq λxs e h=>?_;exact⟨xs,tV e,ha.ok ((Ok.bind h).mono λq h=>by refine a7 h.bind.eq λx e h=>?_;exact⟨x,kE e,List.contains_iff_mem.mp (Ok.iff h).1,have:=(Ok.iff' (Ok.iff h).2).1;by exact ts (Int.ofNat_lt.mpr this) (by decide),(Ok.iff' (Ok.iff h).2).2⟩)⟩)) hbase hs hline
end
structure qW(C:Cx)(a:Addr)(fd:FuncData)(body:List Stmt):Prop where
 na:a≠C.tab
 obj:∃o,C.h₀.get? a=some o/\o.data=.func fd
 co:fd.scope.isCoroutine=false
 gen:fd.scope.isGenerator=false
 body:fd.body=.stmts body
 kind:fd.scope.kind=.function
 glob:fd.globals=mainGlobals
 bi:fd.builtins=eY
 clo:fd.closure=[]
 code:∃c o vs t,fd.code=.ref c/\c≠C.tab/\C.h₀.get? c=some o/\o.data=.fields vs/\vs[1]? =some (.str fd.qualname t)
 nodup:(fd.scope.names.map (·.1)).Nodup
noncomputable def uE:Va->LV
 |.dat d=>.dat d
 |.bor d=>.dat d
 |.lex=>.lex
noncomputable def t4:List Nat->List Va->List LV->List LV
 |i::is,r::rs,ρ=>t4 is rs (ρ.set i (uE r))
 |_,_,ρ=>ρ
noncomputable def qo:List Nat->List LV->List LV->List LV
 |i::is,r::rs,ρ=>qo is rs (ρ.set i r)
 |_,_,ρ=>ρ
theorem wF:∀(is:List Nat) (rs:List Va) (ρ:List LV),qo is (rs.map uE) ρ=t4 is rs ρ
 |[],rs,_=>by cases rs<;>rfl
 |i::is,rs,ρ=>by cases rs with
  |nil=>rfl
  |cons r rs=>exact wF is rs _
inductive EW(names:List (Str × az)):List Str->List Nat->Prop where
 |nil:EW names [] []
 |cons {x i k xs is}:eP names i x k->jW k->EW names xs is->EW names (x::xs) (i::is)
noncomputable def pT:Va->Bool
 |.bor _=>false
 |_=>true
noncomputable def AV(b:Bool):Va->Va
 |.dat d=>if b=true then uW d else .dat d
 |.bor d=>if b=true then uW d else .dat d
 |.lex=>.lex
noncomputable def K6(b:Bool):Fl × List LV × Lx->Option (Va × Lx):=λp=>match p.1 with
 |.ret r=>some (AV b r,p.2.2)
 |.nxt=>some (.dat .none,p.2.2)
 |_=>none
noncomputable def dZ(b:Bool)(n:Nat)(slots:List Nat)(g:DS):DF:=λrs lx=>if(rs.length==slots.length&&(b||rs.all pT))=true then(g (t4 slots rs (bb n .un)) lx).bind (K6 b)else none
section
variable{C:Cx}{n:Nat}{sc:Scope}{pos:Pos}
theorem Br{A:Around}{env:Env}{okc:Addr->Prop}{lx:Lx}(E:aY sc env){ps:List Str}{is:List Nat}(p:EW sc.names ps is):∀{rs:List LV} {vs:List Value} {ρ:List LV} {μ:Str->Option Value} {s:ab} {f:Str × Value->PUnit->Sem (ForInStep PUnit)} {Q:PUnit->ab->Prop}
  (hf:∀n v u,f (n,v) u=(do jh env n v;pure (.yield ⟨⟩))),rs.length=is.length->(∀l∈rs,∀d,l≠ .bor d)->cW (λr v=>jf okc okc lx s.heap r (some v) []) rs vs->ρ.length=sc.names.length->St C sc env ρ lx okc okc (λ_=>[]) μ s->cZ ρ->
  (∀μ' s',St C sc env (qo is rs ρ) lx okc okc (λ_=>[]) μ' s'->cZ (qo is rs ρ)->aH (i8 env) cx s s'->Q ⟨⟩ s')->ar C.M A (forIn (ps.zip vs) ⟨⟩ f) Q bJ s:=by
 induction p with
 |nil=>
  intro rs vs ρ μ s f Q hf hl hnb a hρ S B h
  obtain rfl:=List.eq_nil_of_length_eq_zero hl
  exact aq (h μ s S B .refl)
 |@cons x i k xs is nm hk r ih=>
  intro rs vs ρ μ s f Q hf hl hnb a hρ S B h
  cases rs with
  |nil=>exact nomatch hl
  |cons r0 rs=>
   refine ml (gP a rfl) λv vs hX=>?_;obtain rfl:=hX.1;refine oG hX λ_ a0 a=>?_
   rw[List.zip_cons_cons,cN,hf]
   have hi:i < ρ.length:=hρ▸(List.getElem?_eq_some_iff.mp nm.get).1
   refine aa (aa (gc E S (nm.at (aD hi)) hk a0 (λ_ m=>nomatch m) bx (λ_ _ _ m=>nomatch m) λs₁ S1 g1=>aq ?_))
   rw[vk]at S1
   have g1':aH (i8 env) cx s s₁:=g1.mono (λ_ w=>.inl w.frw) (λ_ w=>w.elim)
   have nl:∀a,okc a->(∃vs,dj s.heap a vs)->¬i8 env a:=by rintro a _ ⟨vs,l⟩ w;exact S.nolist a w vs l
   exact ih hf (s8 hl) (λl m=>hnb l (.tail _ m)) (gQ (λr v q=>jf.move g1' .refl nl nl (λ_ _ o=>o) (λ_ _ o=>o) (λ_ m=>nomatch m) q) a) (by rw[dL];exact hρ) S1 (B.set λd q=>hnb _ (.head _) d q) λμ' s' S' B' g'=>h μ' s' S' B' (g1'.trans1 g')
theorem cZ.rep(n:Nat):cZ (bb n .un):=λi d e=>nomatch mt (aU e)
theorem Wx.apart{ok okb:Addr->Prop}{lx:Lx}{s:ab}(w:Wx C ok okb lx s){b:Addr}(hb:s.heap.objs.size<=b):¬LW lx b/\C.h₀.get? b=bc/\b≠C.tab:=by
 have nl:∀o,¬s.heap.get? b=some o:=λo e=>absurd (aC e) (Nat.not_lt.mpr hb)
 have ht:b≠C.tab:=λq=>by refine cU w.wd.tab λps e=>?_;exact nl _ (q▸e)
 refine⟨λw'=>?_,?_,ht⟩
 ·refine cU (w.lxr.alive w') λo e=>?_;exact nl _ e
 ·cases q:C.h₀.get? b with
  |none=>rfl
  |some o=>exact absurd (w.wd.kept b o ht q) (nl o)
theorem yN{A:Around}{ok okb okc:Addr->Prop}{lx:Lx}{s s₁:ab}{a:Addr}{fd:FuncData}{body:List Stmt}{ps:List Str}{is:List Nat}{len:Nat}{rs:List LV}{vs:List Value}{R:mj->ab->Prop}{Er:Value->ab->Prop}{env:Env}{h₁:Heap}(k:dk C)(F:qW C a fd body)(hp:EW fd.scope.names ps is)(hl:fd.scope.names.length=len)
  (w:Wx C ok okb lx s)(hlen:rs.length=is.length)(hc1:∀a,ok a->okc a)(hc2:∀a,okc a->okb a)(hnb:∀l∈rs,∀d,l≠ .bor d)(hca:cW (λr v=>jf okc okc lx s.heap r (some v) []) rs vs)
  (g01:bG s s₁)(hns:s₁.heap.Ns s.heap.objs.size (λ_=>none))(cf:CF fd.scope.names [] h₁ env.cells s₁.heap)(hz1:h₁.objs.size=s.heap.objs.size+1)(e1:env.scope=fd.scope)(hloc:env.locals=s.heap.objs.size)(e3:env.globals=fd.globals)(e4:env.builtins=fd.builtins)(e5:env.code=fd.code)
  (h:∀env μ s₂,aY fd.scope env->env.code=fd.code->St C fd.scope env (qo is rs (bb len .un)) lx okc okc (λ_=>[]) μ s₂->cZ (qo is rs (bb len .un))->aH (λb=>s.heap.objs.size<=b) cx s s₂->(∀b,i8 env b->s.heap.objs.size<=b)->
   ar C.M (A.deeper env) (kj body env) (λf s'=>R (.ok (.ret (match f with|.ret v=>v|_=>.none))) s') bJ s₂):
  ar C.M A.in1 (do
   for (n,v)in ps.zip vs do jh env n v
   pure env) (λenv s₂=>s₂.heap.NoLimit/\eB C.M A (.func body env) R s₂) Er s₁:=by
 have lk:∀x c,env.cells.lookup x=some c->s.heap.objs.size<=c/\s₁.heap.IsCell c none:=λx c e=>(cf.lk x c e).elim (λq=>nomatch q) λq=>⟨ah (a8 _) (ah (aJ hz1.symm) q.1),q.2⟩
 have hfr:∀b,i8 env b->s.heap.objs.size<=b:=λb w=>w.elim (λe=>aJ (e.trans hloc).symm) λ⟨x,e⟩=>(lk x b e).1
 have E:aY fd.scope env:=⟨e1,F.kind,e3.trans F.glob,e4.trans F.bi,cf.apart .nil (λ_ _ m=>nomatch m),F.nodup⟩
 have w1:=w.grow0 g01
 have S0:St C fd.scope env (bb len .un) lx okc okc (λ_=>[]) (λ_=>none) s₁:={
  wd:=w1.wd
  okf:=λa e=>hc1 a (w1.okf a e)
  sub:=λ_ o=>o
  len:=(jk ..).trans hl.symm
  ns:=⟨λ_=>none,hloc.symm▸hns,λ_ _=>rfl⟩
  cell:=λx e=>let⟨c,f1,_,f3⟩:=cf.hit x (gI e);⟨c,f1,f3⟩
  cellx:=λx c e=>⟨_,(lk x c e).2⟩
  vars:=λi x k lv _ e2=>(mt (aU e2)).symm▸rfl
  owns:=λ_ _ m=>nomatch m
  ownd:=λ_=>bx
  ownx:=λ_ _ _ m=>nomatch m
  lxr:=w1.lxr
  lxok:=λb o=>w1.lxok b (hc2 b o)
  lxf:=⟨(w.apart (hfr _ (.inl rfl))).1,λx c e=>(w.apart (lk x c e).1).1⟩
  lx0:=w1.lx0
  fr0:=⟨(w.apart (hfr _ (.inl rfl))).2,λx c e=>(w.apart (lk x c e).1).2⟩}
 refine al (aa (Q:=λenv s₂=>s₂.heap.NoLimit/\eB C.M A (.func body env) R s₂) (E:=bJ) (Br E hp (λ_ _ _=>rfl) hlen hnb (gQ (λr v q=>jf.move g01 .refl (λ_ _ _ w=>w) (λ_ _ _ w=>w) (λ_ _ o=>o) (λ_ _ o=>o) (λ_ _ w=>w) q) hca) ((jk ..).trans hl.symm) S0 (cZ.rep _) λμ' s₂ S2 B2 g2=>aq ?_)) (λ_ _ x=>x) λ_ _ x=>x.elim
 exact⟨S2.wd.nolimit k,codeAny_func (al (h env μ' s₂ E e5 S2 B2 ((g01.of0.trans1 g2).mono (λb w=>.inl (hfr b w)) (λ_ w=>w.elim)) hfr) (λ_ _ x=>x) λ_ _ x=>x.elim)⟩
theorem su{A:Around}{ok okb okc:Addr->Prop}{lx:Lx}{s:ab}{a:Addr}{fd:FuncData}{body:List Stmt}{ps:List Str}{is:List Nat}{len:Nat}{rs:List LV}{vs0 vs:List Value}{R:mj->ab->Prop}(k:dk C)(F:qW C a fd body)(hp:EW fd.scope.names ps is)(hl:fd.scope.names.length=len)
  (hb:ik s fd ⟨vs0,[]⟩ (ps.zip vs))(Rm:bj (n+1) A)(w:Wx C ok okb lx s)(hlen:rs.length=is.length)(hc1:∀a,ok a->okc a)(hc2:∀a,okc a->okb a)(hnb:∀l∈rs,∀d,l≠ .bor d)(hca:cW (λr v=>jf okc okc lx s.heap r (some v) []) rs vs)
  (h:∀env μ s₂,aY fd.scope env->env.code=fd.code->St C fd.scope env (qo is rs (bb len .un)) lx okc okc (λ_=>[]) μ s₂->cZ (qo is rs (bb len .un))->aH (λb=>s.heap.objs.size<=b) cx s s₂->(∀b,i8 env b->s.heap.objs.size<=b)->
   ar C.M (A.deeper env) (kj body env) (λf s'=>R (.ok (.ret (match f with|.ret v=>v|_=>.none))) s') bJ s₂):eB C.M A (.call (.ref a) ⟨vs0,[]⟩) R s:=by
 refine a7 F.obj λo ho hd=>?_
 refine Kv F.code λc co cvs ct c1 c2 c3 c4 c5=>?_
 refine rB Rm.depth (w.wd.kept _ _ F.na ho) hd F.co F.gen F.body ⟨c,co,cvs,ct,c1,w.wd.kept _ _ c2 c3,c4,c5⟩ (hb _ _ _ _ ?_)
 rw[F.clo]
 simp only[gV,rC,cY,if_false]
 refine aa (BD (aa (sV _ (λname kind cells=>by cases hkc:kind==cG<;>simp[hkc]) _ _ _ _ ?_)))
 have cf:=xz fd.scope.names [] (s.heap.push {cls:=.type "frame",data:=.dict #[]})
 generalize hs1:({s with heap:=mZ (s.heap.push {cls:=.type "frame",data:=.dict #[]}) fd.scope.names}:ab)=s₁
 have hz1:(s.heap.push {cls:=.type "frame",data:=.dict #[]}).objs.size=s.heap.objs.size+1:=aZ ..
 rw[show({s with heap:=s.heap.push {cls:=.type "frame",data:=.dict #[]}}:ab).heap.objs.size=s.heap.objs.size+1 from hz1]
 rw[show mZ (s.heap.push {cls:=.type "frame",data:=.dict #[]}) fd.scope.names=s₁.heap by rw[<-hs1],hz1]at cf
 have hns:s₁.heap.Ns s.heap.objs.size (λ_=>none):=hs1▸Ns.at (h:=s.heap.push {cls:=.type "frame",data:=.dict #[]}) ⟨_,#[],0,aB _ rfl,rfl,λe m=>(by simp at m),λx=>rfl⟩ λo e=>fU _ _ _ _ e
 have g01:bG s s₁:=hs1▸.of_keep (t:=s.toks) (ai _) (by have:=hns.lt;rw[<-hs1]at this;exact bf this) λb o e=>fU _ _ _ _ (aA _ e)
 clear hs1
 exact yN k F hp hl w hlen hc1 hc2 hnb hca g01 hns cf hz1 rfl rfl rfl rfl rfl h
def dE(C:Cx)(n:Nat)(a:Addr)(f:DF):Prop:=∀rs lx r l,f rs lx=some (r,l)->∀A ok okb s vs,bj n A->Wx C ok okb lx s->cW (RV ok okb lx s.heap) rs vs->
 eB C.M A (.call (.ref a) ⟨vs,[]⟩) (λr' s'=>match r' with|.ok (.ret v)=>iV C ok okb lx s (zb r l) v s'|.ok _=>False|.error e=>bJ e s') s
theorem dE.ok{C:Cx}{n:Nat}{a:Addr}{f:DF}(h:dE C n a f):kg C n (.ref a) f:=λrs lx r l e A ok okb s vs R w av=>i9 (h rs lx r l e A ok okb s vs R w av)
noncomputable def sH(b:Bool)(n:Nat)(slots:List Nat)(g:DS)(m:Nat)(dr:List Va):DF:=λrs lx=>if decide (rs.length<=m)=true then dZ b n slots g (rs++dr.drop (rs.length - 2)) lx else none
theorem Bp{ok okb:Addr->Prop}{lx:Lx}{s:ab}{rs:List Va}{vs:List Value}(b:Bool)(sub:∀a,ok a->okb a)(av:cW (RV ok okb lx s.heap) rs vs)(hb:(b||rs.all pT)=true):∃okc:Addr->Prop,(∀a,ok a->okc a)/\(∀a,okc a->okb a)/\
  cW (λr v=>jf okc okc lx s.heap (uE r) (some v) []) rs vs/\∀{okx:Addr->Prop} {lx2:Lx} {h2:Heap} {r:Va} {v:Value},(∀a,okx a->okc a)->RV okx okx lx2 h2 r v->RV ok okb lx2 h2 (AV b r) v:=by
 cases b with
 |true=>
  refine⟨okb,sub,λ_ o=>o,gQ (λr v q=>?_) av,λ{okx lx2 h2 r v} hx rv=>?_⟩
  ·cases r with
   |dat d=>exact⟨rfl,v,rfl,Rd.mono q λa _ o=>sub a o⟩
   |bor d=>exact⟨rfl,v,rfl,q⟩
   |lex=>exact by refine nG λkG=>?_;obtain⟨a,t,hX⟩:=q;refine kG ?_;refine(λe1 e2=>?_) hX.1 hX.2;exact⟨rfl,a,t,e1,congrArg some e2⟩
  ·cases r with
   |lex=>exact rv
   |_=>exact wE (Rd.mono rv λa _ o=>hx a o)
 |false=>
  refine⟨ok,λ_ o=>o,sub,eH av λr v m q=>?_,λ{okx lx2 h2 r v} hx rv=>?_⟩
  ·cases r with
   |dat d=>exact⟨rfl,v,rfl,q⟩
   |bor d=>exact nomatch List.all_eq_true.mp hb _ m
   |lex=>exact by refine xQ q λa t e1 e2=>?_;exact⟨rfl,a,t,e1,congrArg some e2⟩
  ·cases r with
   |lex=>exact rv
   |_=>exact Rd.mono rv λa _ o=>hx a o
theorem Eu{rs:List Va}:∀l∈rs.map uE,∀d,l≠ .bor d:=λl m d q=>let⟨r,_,e⟩:=List.mem_map.mp m;by
 rw[<-e]at q
 cases r<;>exact by cases q
theorem RV.same{ok okb:Addr->Prop}{lx:Lx}{h:Heap}{r:Va}{v:Value}(k:∀a,ok a->okb a)(x:RV ok okb lx h r v):RV okb okb lx h r v:=by cases r with
 |dat d=>exact Rd.mono x λa _ o=>k a o
 |_=>exact x
theorem xm{a:Addr}{fd:FuncData}{body:List Stmt}{ps:List Str}{is:List Nat}{g:DS}{len m:Nat}{dr:List Va}{dv:List Value}(b:Bool)(k:dk C)(F:qW C a fd body)(hp:EW fd.scope.names ps is)(hl:fd.scope.names.length=len)
  (hdr:∀(ok:Addr->Prop) lx h,cW (RV ok ok lx h) dr dv)(hb:∀s vals,Wd C s->vals.length<=m->vals.length+(dv.drop (vals.length - 2)).length=is.length->ik s fd ⟨vals,[]⟩ (ps.zip (vals++dv.drop (vals.length - 2))))(hg:SS C n fd.scope body g):dE C (n+1) a (sH b len is g m dr):=λrs0 lx r l h A ok okb s vs0 R w av0=>by
 refine en (cb h) λgm h=>?_
 refine en (cb h) λg1 h=>?_
 refine en (Bool.and_eq_true_iff.mp g1) λg1 hbor=>?_
 have hlen:=eq_of_beq g1
 have hl0:=fk av0
 obtain⟨⟨fl,ρ',l'⟩,e1,h⟩:=eg h
 have av:cW (RV ok okb lx s.heap) (rs0++dr.drop (rs0.length - 2)) (vs0++dv.drop (vs0.length - 2)):=hl0▸sL av0 (uF (gQ (λr v q=>by cases r with
  |bor d=>exact Rd.mono q (λa _ o=>w.sub a o)
  |_=>exact q) (hdr ok lx s.heap)) _)
 have hbb:=hb s vs0 w.wd (hl0.symm▸of_decide_eq_true gm) (by rw[<-au,fk av];exact hlen)
 generalize rs0++dr.drop (rs0.length - 2)=rs at av e1 hlen hbor
 generalize vs0++dv.drop (vs0.length - 2)=vs at av hbb
 refine KA (Bp b w.sub av hbor) λokc hc1 hc2 hca hout=>?_
 refine su (rs:=rs.map uE) k F hp hl hbb R w ((af ..).trans hlen) hc1 hc2 Eu (by have:=xF (R:=λr v=>jf okc okc lx s.heap r (some v) []) uE (λv:Value=>v) hca;rwa [List.map_id']at this) λenv μ' s₂ E _ S2 B2 gA hfr=>?_
 rw[wF]at S2 B2
 refine al (hg.run _ _ _ _ _ e1 (A.deeper env) env okc okc (λ_=>[]) μ' s₂ R.deeper E S2 B2) (λflow s₃ h3=>?_) λ_ _ x=>x
 obtain⟨f,ρ3,lx3,ok3,okb3,og3,μ3,⟨rfl,rfl,rfl⟩,fr,S3,B3,c3⟩:=h3
 have gOut:aH (W lx) cx s s₃:=(gA.mono (W':=W lx) (λb w=>.inr w) (λ_ w=>w.elim)).trans c3.g (λb w=>by
  rcases w with w|w|⟨_,w⟩
  ·exact .inl w
  ·exact .inr (hfr b w)
  ·exact by cases w) (λ_ w=>w.elim)
 cases f with
 |ret r0=>
  cases h
  obtain⟨v,rfl,rv⟩:=fr.ret
  exact⟨_,_,⟨rfl,rfl⟩,hout c3.okb1 (rv.same S3.sub),c3.sa,S3.lxr,gOut⟩
 |nxt=>
  cases h
  obtain rfl:=fr.nxt
  exact⟨_,_,⟨rfl,rfl⟩,Rd.none,c3.sa,S3.lxr,gOut⟩
 |_=>exact by cases h
theorem dE.le'{a:Addr}{f g:DF}(h:dE C n a g)(k:∀rs lx r,f rs lx=some r->g rs lx=some r):dE C n a f:=λrs lx r l e A ok okb s vs R w av=>h rs lx r l (k rs lx (r,l) e) A ok okb s vs R w av
theorem Gc{a:Addr}{fd:FuncData}{body:List Stmt}{ps:List Str}{is:List Nat}{g:DS}{len:Nat}(b:Bool)(k:dk C)(F:qW C a fd body)(hp:EW fd.scope.names ps is)(hl:fd.scope.names.length=len)
  (hb:∀s vals,Wd C s->vals.length=is.length->ik s fd ⟨vals,[]⟩ (ps.zip vals))(hg:SS C n fd.scope body g):dE C (n+1) a (dZ b len is g):=
 (xm (m:=is.length) (dr:=[]) (dv:=[]) b k F hp hl (λ_ _ _=>.nil) (λs vals w _ h=>by rw[mu]at h ⊢;rw[aO];exact hb s vals w h) hg).le' λrs lx r e=>by
  have q:=eq_of_beq (Bool.and_eq_true_iff.mp (cb (show(if(rs.length==is.length&&(b||rs.all pT))=true then _ else none)=some r from e)).1).1
  unfold sH
  rw[if_pos (decide_eq_true (aJ q)),mu,aO]
  exact e
end
section
variable{C:Cx}{n:Nat}{sc:Scope}{pos:Pos}
noncomputable def DE.no:DE:=λ_ _=>none
theorem SE.no{e:Expr}:SE C n sc e .no:=.mk λ_ _ _ _ h=>by cases h
noncomputable def DS.no:DS:=λ_ _=>none
theorem S1.no{st:Stmt}:S1 C n sc st .no:=.mk λ_ _ _ _ _ h=>by cases h
theorem S1.raise{e c:Option Expr}:S1 C n sc (.Raise e c pos) .no:=S1.no
theorem SE.key{p:Pos}{es:List Expr}:SE C n sc (.Call (.Name "key" p) es [] pos) .no:=SE.no
noncomputable def DE.tupX(a:DL):DE:=λρ lx=>(DE.tup a ρ lx).or (DE.tupB a ρ lx)
theorem SE.tupX{es:List Expr}{k:Nat}{a:DL}(ha:SL C n sc es a)(hs:bt es=true):SE C n sc (.Tuple es k pos) (.tupX a):=.of λρ lx Q h=>h.or.elim (SE.tup ha hs).ok (SE.tupB ha hs).ok
structure i6(C:Cx)(n:Nat)(x:Str)(f:DF):Prop where
 ex:∃v,Gb C x v/\cV C v/\kg C n v f
theorem SE.callU{x:Str}{p:Pos}{e:Expr}{es:List Expr}{f:DF}{a:DL}(k:dk C)(hx:nF sc.names x .globalImplicit)(u:i6 C n x f)(ha:SL C n sc (e::es) a)(hs:bt (e::es)=true)(hd:(x==("__debug__":Str))=false):
  SE C n sc (.Call (.Name x p) (e::es) [] pos) (.call f a):=by refine jH u.ex λ_ h1 h2 h3=>?_;exact SE.call k hx h1 h2 h3 ha hs hd
end
noncomputable def bump(c:Str)(l:Int):Int:=if(c==("\n":Str))=true then l+1 else l
noncomputable def nE(c:Str):Bool:=c==("\n":Str)||c==("\t":Str)||c==("\u000d":Str)||c==(" ":Str)
noncomputable def LexSt.rd(t:LexSt):Str × LexSt:=(t.rest.headD "",⟨t.push,t.rest.tail,t.line⟩)
noncomputable def LexSt.rdb(t:LexSt):LexSt:=⟨t.push,t.rest.tail,bump (t.rest.headD "") t.line⟩
noncomputable def fu(c:Str)(t:LexSt):Str × LexSt:=if(c==("\\":Str))=true then(t.rd.1,t.rdb)else(c,t)
def fuel:Nat:=4200
theorem m8:4096 < fuel:=by decide
noncomputable def eK(stop:Str->Bool):Nat->LexSt->Str->Str × LexSt
 |0=>λt acc=>(acc,t)
 |k+1=>λt acc=>if t.rest.isEmpty=true then(acc,t)else if stop t.rd.1=true then(acc,t.rdb)else eK stop k (fu t.rd.1 t.rdb).2 (acc++(fu t.rd.1 t.rdb).1)
noncomputable def jV(c:Str):Bool:=c==("\"":Str)
noncomputable def d7:Nat->LexSt->Str × LexSt
 |0=>λt=>("",t)
 |k+1=>λt=>if t.rest.isEmpty=true then("",t)else if nE t.rd.1=true then d7 k t.rdb else if jV t.rd.1=true then eK jV fuel t.rdb "" else eK nE fuel (fu t.rd.1 t.rdb).2 (""++(fu t.rd.1 t.rdb).1)
noncomputable def LexSt.tok(t:LexSt):Str × LexSt:=if t.push.isEmpty=true then d7 fuel t else(t.push.headD "",⟨t.push.tail,t.rest,t.line⟩)
noncomputable def alpha:List Str:=["(",")","\\","\""," ","\t","\n","\u000d","\u000c","d","e","z"]
noncomputable def LexSt.okR(t:LexSt):Bool:=t.rest.all (λc=>alpha.contains c)&&decide (t.rest.length<=4096)
theorem CS{t:LexSt}(h1:t.rest.length<=4096)(h2:∀c∈t.rest,c∈alpha):t.okR=true:=by
 unfold LexSt.okR
 rw[decide_eq_true h1,dU,jo]
 exact λc m=>List.contains_iff_mem.mpr (h2 c m)
theorem lE{t:LexSt}(h:t.okR=true):t.rest.length<=4096/\∀c∈t.rest,c∈alpha:=by
 unfold LexSt.okR at h
 rw[aI,jo]at h
 exact⟨of_decide_eq_true h.2,λc m=>List.contains_iff_mem.mp (h.1 c m)⟩
noncomputable def LexSt.fits(t:LexSt):Bool:=t.okR&&decide (t.push.length<=4096)
noncomputable def eM(ρ:List LV)(i:Nat)(lx:Lx):Option (cH × LexSt):=ρ[i]?.bind λlv=>match lv with
 |.lex=>lx
 |_=>none
noncomputable def DE.tok(i:Nat):DE:=λρ lx=>(eM ρ i lx).bind λa=>if a.2.fits=true then some (.dat (.str a.2.tok.1),some (a.1,a.2.tok.2))else none
noncomputable def DE.line(i:Nat):DE:=λρ lx=>(eM ρ i lx).map λa=>(.dat (.int a.2.line),lx)
noncomputable def DE.push(i:Nat)(w:DE):DE:=λρ lx=>(eM ρ i lx).bind λ_=>(w ρ lx).bind λp=>(ia p.1).bind λx=>(eM ρ i p.2).bind λa=>if a.2.fits=true then some (.dat .none,some (a.1,⟨a.2.push++[x],a.2.rest,a.2.line⟩))else none
noncomputable def dX:Nat->Bool->List Nat->List (Nat × Str)
 |k,false,[]=>[]
 |k,true,[]=>[(k - 1,"\\")]
 |k,true,c::r=>(k,"\\"++oI #[c])::dX (k+1) false r
 |k,false,c::r=>if(c==92)=true then dX (k+1) true r else(k,oI #[c])::dX (k+1) false r
noncomputable def D1(x:Str):List D:=(dX 0 false x.cps.toList).map λp=>.tuple [.int (p.1:Nat),.str p.2]
noncomputable def DI.esc(a:DE):DI:=λρ lx=>(a ρ lx).bind λp=>(ia p.1).bind λx=>if(decide (x.length<=4096)&&bk x)=true then some (true,D1 x,p.2)else none
noncomputable def jw:D->Bool
 |.int _=>true
 |.str _=>true
 |_=>false
noncomputable def Ay:List D->List D->List D
 |a::r,b::q=>.tuple [a,b]::Ay r q
 |_,_=>[]
noncomputable def DE.zip(a b:DE):DE:=λρ lx=>(a ρ lx).bind λp=>(lG p.1).bind λds=>(b ρ p.2).bind λq=>(lG q.1).bind λes=>if(decide (ds.length<=4096/\es.length=ds.length/\0 < ds.length)&&(ds.all jw&&es.all jw))=true then some (.dat (.list (Ay ds es)),q.2)else none
noncomputable def G5(d:D):Option (Int × Int):=(uT d).bind λl=>l.head?.bind λa=>l.tail.head?.bind λb=>if l.tail.tail.isEmpty=true then oh (λx y=>some (x,y)) (.dat a) (.dat b)else none
noncomputable def pP:List D->Option (List (Int × Int))
 |[]=>some []
 |d::r=>(G5 d).bind λp=>(pP r).map (p:: ·)
noncomputable def yC{α:Type}(n:Nat)(lt:Nat->Nat->Bool):PySem.W.KasT α->Option α
 |.ret a=>some a
 |.ask i j k=>if(decide (i < n)&&decide (j < n)&&i != j)=true then yC n lt (k (lt i j))else none
noncomputable def rO(ps:List (Int × Int)):Option (List (Int × Int)):=(yC ps.length (λi j=>decide ((ps.getD i (0,0)).1 < (ps.getD j (0,0)).1)) (PySem.W.kas_sort ps.length)).bind λp=>if(p.toList.all (λi=>decide (i < ps.length))&&p.size==ps.length)=true then some (p.toList.map λi=>ps.getD i (0,0))else none
noncomputable def EU:List (Int × Int)->Bool
 |[]=>true
 |x::r=>r.all (λy=>decide (y.1≠x.1))&&EU r
noncomputable def DE.sortP(a:DE):DE:=λρ lx=>(a ρ lx).bind λp=>(Bh p.1).bind λds=>(pP ds).bind λps=>if(EU ps&&decide (2<=ps.length/\ps.length<=32))=true then(rO ps).map λqs=>(.dat (.list (qs.map λp=>.tuple [.int p.1,.int p.2])),p.2)else none
noncomputable def DS.insIf(i:Nat)(f:DF)(a:DE)(t:DT)(b:DS):DS:=λρ lx=>(ownAt ρ i).bind λds=>(lX ds).bind λis=>if decide (is.length<=4096)=true then(a ρ lx).bind λp=>(dM p.1).bind λx=>
 (f [.dat (.list ds),.dat (.int x),.dat (.int 0),.dat .none] p.2).bind λq=>(dM q.1).bind λk=>if decide (0<=k/\k<=is.length)=true then DS.ite t b DS.nil (ρ.set i (.own (ds.take k.toNat++ .int x::ds.drop k.toNat))) q.2 else none else none
noncomputable def LV.own2D:LV->Option (List (List D))
 |.own2 ds=>some ds
 |_=>none
noncomputable def own2At(ρ:List LV)(i:Nat):Option (List (List D)):=ρ[i]?.bind LV.own2D
noncomputable def DS.new2(i:Nat):DS:=λρ lx=>if decide (i < ρ.length)=true then some (.nxt,ρ.set i (.own2 []),lx)else none
noncomputable def nJ(st:List D->Lx->Option (Option (List D) × Lx)):List (List D)->Lx->Option (List (List D) × Lx)
 |[]=>λlx=>some ([],lx)
 |ds::r=>λlx=>(st ds lx).bind λp=>(nJ st r p.2).map λq=>(p.1.toList++q.1,q.2)
noncomputable def Fu(ir:Nat)(f:List LV->Lx->Option (List D × Lx))(ρc:List LV)(ds:List D)(lx:Lx):Option (Option (List D) × Lx):=(f (ρc.set ir (.bor (.list ds))) lx).bind λp=>if p.1.all jw=true then some (some p.1,p.2)else none
noncomputable def rowF(ds:List D)(lx:Lx):Option (Option (List D) × Lx):=(gF .NotEq (.bor (.list ds)) (.dat (.list []))).map λc=>(if c=true then some ds else none,lx)
noncomputable def wL(i:Nat)(cs:List (Option Nat))(st:List LV->List D->Lx->Option (Option (List D) × Lx)):DS:=λρ lx=>(own2At ρ i).bind λdss=>if(decide (dss.length<=4096)&&dss.all λds=>ds.all jw)=true then(ox cs ρ).bind λρc=>(nJ (st ρc) dss lx).map λq=>(.nxt,ρ.set i (.own2 q.1),q.2)else none
noncomputable def DS.comp2(i:Nat)(cs:List (Option Nat))(ir:Nat)(f:List LV->Lx->Option (List D × Lx)):DS:=wL i cs (Fu ir f)
noncomputable def DS.fil2(i:Nat)(cs:List (Option Nat)):DS:=wL i cs λ_=>rowF
noncomputable def DS.app2e(i:Nat):DS:=λρ lx=>(own2At ρ i).bind λdss=>if decide (dss.length<=4096)=true then some (.nxt,ρ.set i (.own2 (dss++[[]])),lx)else none
noncomputable def lB(dss:List (List D))(r:Va):Option (Nat × List D):=(dM r).bind λk=>if decide (0<=k/\k < 4096)=true then dss[k.toNat]?.map λds=>(k.toNat,ds)else none
noncomputable def DS.app2(i:Nat)(ak ax:DE):DS:=λρ lx=>(own2At ρ i).bind λdss=>(ak ρ lx).bind λp=>(lB dss p.1).bind λkd=>(ax ρ p.2).bind λq=>(dM q.1).bind λx=>
 if decide (kd.2.length<=4096)=true then some (.nxt,ρ.set i (.own2 (dss.set kd.1 (kd.2++[.int x]))),q.2)else none
noncomputable def DS.set2(i:Nat)(ak aj ax:DE):DS:=λρ lx=>(own2At ρ i).bind λdss=>(ax ρ lx).bind λq=>(dM q.1).bind λx=>(ak ρ q.2).bind λp=>(lB dss p.1).bind λkd=>(aj ρ p.2).bind λr=>(dM r.1).bind λj=>
 if decide (0<=j/\j < 4096/\j.toNat < kd.2.length)=true then some (.nxt,ρ.set i (.own2 (dss.set kd.1 (kd.2.set j.toNat (.int x)))),r.2)else none
structure EC(C:Cx)(n:Nat)(f:DF):Prop where
 ex:∃m,n=m+3/\i6 C (m+2) "bisect_right" f
structure gS(C:Cx)(n:Nat):Prop where
 tok:∀{sc:Scope} {i:Nat} {x:Str} {k:az} {p apos pos:Pos},eP sc.names i x k->jW k->(x==("__debug__":Str))=false->(apos.endLine==pos.line)=true->SE C n sc (.Call (.Attribute (.Name x p) "get_token" apos) [] [] pos) (.tok i)
 line:∀{sc:Scope} {i:Nat} {x:Str} {k:az} {p pos:Pos},eP sc.names i x k->jW k->(x==("__debug__":Str))=false->SE C n sc (.Attribute (.Name x p) "lineno" pos) (.line i)
 push:∀{sc:Scope} {i:Nat} {x:Str} {k:az} {e:Expr} {a:DE} {p apos pos:Pos},eP sc.names i x k->jW k->(x==("__debug__":Str))=false->SE C n sc e a->bt [e]=true->(apos.endLine==pos.line)=true->SE C n sc (.Call (.Attribute (.Name x p) "push_token" apos) [e] [] pos) (.push i a)
 gen:∀{sc:Scope} {e tg:Expr} {a:DE} {p pos:Pos},nF sc.names "_iter_escaped_chars" .globalImplicit->SE C n sc e a->bt [e]=true->SI C n sc (.Call (.Name "_iter_escaped_chars" p) [e] [] pos) tg (.esc a)
 zip:∀{sc:Scope} {e1 e2:Expr} {a b:DE} {p1 p2 q1 pos:Pos},nF sc.names "list" .globalImplicit->nF sc.names "zip" .globalImplicit->SE C n sc e1 a->SE C n sc e2 b->bt [e1,e2]=true->SE C n sc (.Call (.Name "list" p1) [.Call (.Name "zip" p2) [e1,e2] [] q1] [] pos) (.zip a b)
 sortP:∀{sc:Scope} {e:Expr} {a:DE} {p pos:Pos},nF sc.names "sorted" .globalImplicit->SE C n sc e a->bt [e]=true->SE C n sc (.Call (.Name "sorted" p) [e] [] pos) (.sortP a)
 insIf:∀{sc:Scope} {i:Nat} {x:Str} {k:az} {e t2:Expr} {body:List Stmt} {a:DE} {t:DT} {b:DS} {f:DF} {p1 p2 p3 p4 p5 p6 pos:Pos} {kn:Nat},eP sc.names i x k->jW k->(x==("__debug__":Str))=false->nF sc.names "insort_right" .globalImplicit->EC C n f->SE C n sc e a->bt [.Name x p1,e]=true->SB C n sc t2 t->SS C n sc body b->
  S1 C n sc (.If (.BoolOp .Or [.Compare (.Call (.Name "insort_right" p2) [.Name x p1,e] [] p3) [.IsNot] [.Constant .none kn p4] p5,t2] p6) body [] pos) (.insIf i f a t b)
 new2:∀{sc:Scope} {i:Nat} {x:Str} {k:az} {p lp pos:Pos},eP sc.names i x k->jW k->S1 C n sc (.Assign [.Name x p] (.List [] lp) pos) (.new2 i)
 comp2:∀{sc scope':Scope} {kd:tN} {ns ns':List (Str × az)} {g c:Bool} {m:List (Str × Const)} {cs:List (Option Nat)} {i ir:Nat} {x r:Str} {elt:Expr} {gens:List bF} {rp xp cpos cpos' p pos:Pos} {f:List LV->Lx->Option (List D × Lx)},eP sc.names i x .local->(x==("__debug__":Str))=false->jg sc.names ns cs ns'->eP ns' ir r .local->
  ED C n ⟨kd,ns',g,c,m⟩ scope' elt gens f->(scope'.names.map (·.1)).Nodup->scope'.kind=.function->(∀x∈jA gens,(x,aL) ∉ scope'.names)->(∀env x,ba (iC gens) env x=pure x)->eX gens=false->
  (p.line==cpos.line)=true->(ns.any λ(n,k)=>n==x&&(k== .local||k== .cell))=false->(ns.map (·.1)).Nodup->kd=.function->(ns.any λq=>q==(r,aL))=false->S1 C n sc (.Assign [.Name x p] (.ListComp (.ListComp elt gens scope' cpos') [⟨.Name r rp,.Name x xp,[],0⟩] ⟨kd,ns,g,c,m⟩ cpos) pos) (.comp2 i cs ir f)
 fil2:∀{sc:Scope} {kd:tN} {ns ns':List (Str × az)} {g c:Bool} {m:List (Str × Const)} {cs:List (Option Nat)} {i ir:Nat} {x r:Str} {lp rp rp2 rp3 xp cpos cpos' p pos:Pos},eP sc.names i x .local->(x==("__debug__":Str))=false->jg sc.names ns cs ns'->eP ns' ir r .local->(r==("__debug__":Str))=false->
  (p.line==cpos.line)=true->(ns.any λ(n,k)=>n==x&&(k== .local||k== .cell))=false->(ns.map (·.1)).Nodup->kd=.function->(ns.any λq=>q==(r,aL))=false->
  S1 C n sc (.Assign [.Name x p] (.ListComp (.Name r rp) [⟨.Name r rp2,.Name x xp,[.Compare (.Name r rp3) [.NotEq] [.List [] lp] cpos'],0⟩] ⟨kd,ns,g,c,m⟩ cpos) pos) (.fil2 i cs)
 app2e:∀{sc:Scope} {i:Nat} {x:Str} {k:az} {p lp apos p1 pos:Pos},eP sc.names i x k->jW k->(x==("__debug__":Str))=false->(apos.endLine==p1.line)=true->S1 C n sc (.Expr (.Call (.Attribute (.Name x p) "append" apos) [.List [] lp] [] p1) pos) (.app2e i)
 app2:∀{sc:Scope} {i:Nat} {x:Str} {k:az} {ek ex:Expr} {ak ax:DE} {p sp apos p1 pos:Pos},eP sc.names i x k->jW k->(x==("__debug__":Str))=false->SE C n sc ek ak->SE C n sc ex ax->bt [ex]=true->(apos.endLine==p1.line)=true->
  S1 C n sc (.Expr (.Call (.Attribute (.Subscript (.Name x p) ek sp) "append" apos) [ex] [] p1) pos) (.app2 i ak ax)
 set2:∀{sc:Scope} {i:Nat} {x:Str} {k:az} {ek ej ex:Expr} {ak aj ax:DE} {p sp sp2 pos:Pos},eP sc.names i x k->jW k->(x==("__debug__":Str))=false->SE C n sc ek ak->SE C n sc ej aj->SE C n sc ex ax->
  S1 C n sc (.Assign [.Subscript (.Subscript (.Name x p) ek sp) ej sp2] ex pos) (.set2 i ak aj ax)
noncomputable def Ip(i:Nat):Stmt:=(PySem.Challenge.pw_sc0051_01.main.body[i]?).getD (.Pass ⟨0,0,0,0⟩)
noncomputable def bh(i:Nat):List Stmt:=match Ip i with
 |.FunctionDef (body:=b) .. =>b
 |_=>[]
noncomputable def aE(i:Nat):Scope:=match Ip i with
 |.FunctionDef (scope:=b) .. =>b
 |_=>default
noncomputable def G7(i:Nat):Stmt:=match Ip 1 with
 |.ClassDef (body:=b) .. =>(b[i]?).getD (.Pass ⟨0,0,0,0⟩)
 |_=>.Pass ⟨0,0,0,0⟩
noncomputable def dD(i:Nat):List Stmt:=match G7 i with
 |.FunctionDef (body:=b) .. =>b
 |_=>[]
noncomputable def cv(i:Nat):Scope:=match G7 i with
 |.FunctionDef (scope:=b) .. =>b
 |_=>default
noncomputable def eW:Arguments × Expr × Scope × Pos:=match((bh 11)[2]? :Option Stmt)with
 |some (.Assign _ (.Lambda p b s q) _)=>(p,b,s,q)
 |_=>(⟨[],[],none,[],[],none,[]⟩,.Constant .none 0 ⟨0,0,0,0⟩,default,⟨0,0,0,0⟩)
structure fE(C:Cx):Prop where
 k:dk C
 len:Gb C "len" (.builtin "len")
 sum:Gb C "sum" (.builtin "sum")
 max:Gb C "max" (.builtin "max")
 min:Gb C "min" (.builtin "min")
 sorted:Gb C "sorted" (.builtin "sorted")
 range:Gb C "range" (.type "range")
 enumerate:Gb C "enumerate" (.type "enumerate")
noncomputable def m7:Int->Int->Bool
 |.ofNat a,.ofNat b=>dl a b
 |.ofNat _,.negSucc _=>false
 |.negSucc _,.ofNat _=>true
 |.negSucc a,.negSucc b=>dl b a
noncomputable def wa:Int->Int->Bool
 |.ofNat a,.ofNat b=>BL a b
 |.ofNat _,.negSucc _=>false
 |.negSucc _,.ofNat _=>false
 |.negSucc a,.negSucc b=>BL a b
theorem nh(a b:Nat):dl a b=decide (a < b):=by
 by_cases h:a < b
 ·rw[decide_eq_true h];exact bE h
 ·rw[decide_eq_false h];exact Bool.eq_false_iff.mpr λe=>h (ag e)
theorem ft(a b:Int):m7 a b=decide (a < b):=by
 cases a with
 |ofNat a=>cases b with
  |ofNat b=>exact(nh a b).trans (decide_eq_decide.mpr (show a < b↔(a:Int) < (b:Int)by exact Int.ofNat_lt.symm))
  |negSucc b=>exact(decide_eq_false (show ¬(a:Int) < jO b by exact nofun)).symm
 |negSucc a=>cases b with
  |ofNat b=>exact(decide_eq_true (show jO a < (b:Int)by exact ij (Int.negSucc_lt_zero a) (bN b))).symm
  |negSucc b=>exact(nh b a).trans (decide_eq_decide.mpr (by omega))
theorem zQ(a b:Int):wa a b=(a==b):=by
 have nb:∀x y:Nat,BL x y=decide (x=y):=λx y=>by
  by_cases h:x=y
  ·rw[decide_eq_true h,h];exact Nat.beq_refl y
  ·rw[decide_eq_false h];exact Bool.eq_false_iff.mpr λe=>h (Nat.eq_of_beq_eq_true e)
 rw[show(a==b)=decide (a=b)from rfl]
 cases a with
 |ofNat a=>cases b with
  |ofNat b=>exact(nb a b).trans (decide_eq_decide.mpr (show a=b↔(a:Int)=(b:Int)by exact Int.ofNat_inj.symm))
  |negSucc b=>exact(decide_eq_false (show ¬(a:Int)=jO b by exact nofun)).symm
 |negSucc a=>cases b with
  |ofNat b=>exact(decide_eq_false (show ¬jO a=(b:Int)by exact nofun)).symm
  |negSucc b=>exact(nb a b).trans (decide_eq_decide.mpr (by exact⟨congrArg _,Int.negSucc.inj⟩))
theorem jB{i:Nat}{a:DE}{d:D}{ρ:List LV}{lx l1:Lx}(h:a ρ lx=some (.dat d,l1))(hi:i < ρ.length):DS.asg i a ρ lx=some (.nxt,ρ.set i (.dat d),l1):=by
 unfold DS.asg
 rw[h]
 show(if decide (i < ρ.length)=true then _ else _)=_
 rw[if_pos (decide_eq_true hi)]
theorem mG{a:DE}{r:Va}{ρ:List LV}{lx l1:Lx}(h:a ρ lx=some (r,l1)):DS.ret a ρ lx=some (.ret r,ρ,l1):=by
 unfold DS.ret
 rw[h];rfl
theorem bp{a b:DS}{ρ ρ1:List LV}{lx l1:Lx}(h:a ρ lx=some (.nxt,ρ1,l1)):DS.cons a b ρ lx=b ρ1 l1:=by
 unfold DS.cons
 rw[h];rfl
theorem ef{a b:DS}{ρ ρ1:List LV}{lx l1:Lx}{r:Va}(h:a ρ lx=some (.ret r,ρ1,l1)):DS.cons a b ρ lx=some (.ret r,ρ1,l1):=by
 unfold DS.cons
 rw[h];rfl
theorem E2{a b:DE}{d1 d2:D}{ρ:List LV}{lx l1 l2:Lx}(h1:a ρ lx=some (.dat d1,l1))(h2:b ρ l1=some (.dat d2,l2)):DE.tupX (DL.cons a (DL.cons b DL.nil)) ρ lx=some (.dat (.tuple [d1,d2]),l2):=by
 have e:DL.cons a (DL.cons b DL.nil) ρ lx=some ([.dat d1,.dat d2],l2):=by
  unfold DL.cons
  rw[h1]
  show((((b ρ l1).bind λp=>(DL.nil ρ p.2).map λq=>(p.1::q.1,q.2)):Option (List Va × Lx)).map λq=>(Va.dat d1::q.1,q.2))=_
  rw[h2]
  rfl
 unfold DE.tupX DE.tup
 rw[e]
 rfl
theorem d9{t:DT}{a b:DS}{ρ:List LV}{lx l1:Lx}(h:t ρ lx=some (true,l1)):DS.ite t a b ρ lx=a ρ l1:=by
 unfold DS.ite
 rw[h];rfl
theorem dW{t:DT}{a b:DS}{ρ:List LV}{lx l1:Lx}(h:t ρ lx=some (false,l1)):DS.ite t a b ρ lx=b ρ l1:=by
 unfold DS.ite
 rw[h];rfl
theorem iv{b:Bool}{n:Nat}{slots:List Nat}{g:DS}{rs:List Va}{lx l':Lx}{r:Va}{ρ':List LV}(hg:(rs.length==slots.length&&(b||rs.all pT))=true)(h:g (t4 slots rs (bb n .un)) lx=some (.ret r,ρ',l')):dZ b n slots g rs lx=some (AV b r,l'):=by
 unfold dZ
 rw[if_pos hg,h]
 rfl
theorem Bq{b:Bool}{n:Nat}{slots:List Nat}{g:DS}{rs:List Va}{lx l':Lx}{ρ':List LV}(hg:(rs.length==slots.length&&(b||rs.all pT))=true)(h:g (t4 slots rs (bb n .un)) lx=some (.nxt,ρ',l')):dZ b n slots g rs lx=some (.dat .none,l'):=by
 unfold dZ
 rw[if_pos hg,h]
 rfl
theorem zU{a b:DS}{ρ:List LV}{lx:Lx}{p:Fl × List LV × Lx}(h:a ρ lx=some p)(hn:p.1≠ .nxt):DS.cons a b ρ lx=some p:=by
 unfold DS.cons
 rw[h]
 obtain⟨f,q⟩:=p
 cases f<;>first|rfl|exact absurd rfl hn
theorem ke{op:iy}{a b:DE}{r1 r2:Va}{z:Bool}{ρ:List LV}{lx l1 l2:Lx}(h1:a ρ lx=some (r1,l1))(h2:b ρ l1=some (r2,l2))(h:gF op r1 r2=some z):DT.cmp op a b ρ lx=some (z,l2):=by
 unfold DT.cmp
 rw[h1,ac,h2,ac,h];rfl
theorem aG{i:Nat}{d:D}{ρ:List LV}{lx:Lx}(h:ρ[i]? =some (.dat d)):DE.nm i ρ lx=some (.dat d,lx):=by
 unfold DE.nm
 rw[h]
 rfl
theorem mC(x y:Str):(x++y).length=x.length+y.length:=by
 show(x.cps++y.cps).size=_
 rw[Array.size_append]
 rfl
theorem rM{c:Str}(h:bk c=true):b0 (.str c)=true:=by
 simp[b0,gZ,jL,h]
theorem lM{c y:Str}(h1:bk c=true)(h2:bk y=true):gF .Eq (.dat (.str c)) (.dat (.str y))=some (c==y):=by
 show(if(b0 (.str c)&&b0 (.str y))=true then some (gY (.str c) (.str y))else none)=_
 rw[rM h1,rM h2]
 rfl
theorem yX{c y:Str}:gF .In (.dat (.str c)) (.dat (.str y))=some (fK y c):=rfl
section
variable{C:Cx}{n:Nat}{sc:Scope}
theorem uw{A:Around}(hh:A.handled=none)(it:Addr)(y:Str)(t:Tok):Draws C.prog C.w A it [it] y.cps.size (SignAt y) (λi h=>h.IsStrIter it (dy y) y t i):=by
 unfold dy
 cases ha:y.cps.all (· < 128)
 ·exact Draws.strWide hh it y t
 ·exact Draws.strAscii hh it y t
theorem rZ{h:Heap}{it:Addr}{y:Str}{t:Tok}{i:Nat}(hi:h.IsStrIter it (dy y) y t i):za h it:=by refine jH hi λo e hc _=>?_;exact⟨o,e,by rw[hc];unfold dy;split<;>decide,by rw[hc];unfold dy;split<;>decide⟩
theorem Bd{A:Around}{e it:Addr}{y:Str}{t:Tok}{old:Value}{s:ab}(R:bj (n+1) A)(he:oK s.heap e it y.cps.size old)(hi:s.heap.IsStrIter it (dy y) y t y.cps.size):
  ar C.M A (ew (.ref e)) (λr s₂=>r=none/\aH (λb=>b=e\/b=it) cx s s₂) bJ s:=
 by refine jH (rZ hi) λoi ho1 _ hc=>?_;exact bR (wpAny_pyNext_enum_endD (uw (A:=A.in1) R.hh it y t) he hi λh' hx' hle hz=>⟨rfl,aH.ext (t:=s.toks) hx' hz ho1 (λq=>hc q.1) (.inr rfl) (ai _)⟩)
inductive Jf(okI:Addr->Prop)(e it:Addr)(y:Str)(t:Tok)(i c:Nat)(v:Value)(s₁ s₃:ab):Prop where
 |mk (old:Value) (rv:Rd okI s₃.heap v (.tuple [.int i,.str ⟨#[c]⟩])) (g:aH (λb=>b=e\/b=it) cx s₁ s₃) (he:oK s₃.heap e it ((i+1:Nat):Int) old) (hi:s₃.heap.IsStrIter it (dy y) y t (i+1))
theorem yT{A:Around}{elts:List Expr}{x1:Nat}{tp:Pos}{okI:Addr->Prop}{e it:Addr}{y:Str}{t:Tok}{i c:Nat}{old:Value}{s₁:ab}(R:bj (n+1) A)(hei:e≠it)(he':oK s₁.heap e it i old)(hi':s₁.heap.IsStrIter it (dy y) y t i)(hx:y.cps[i]? =some c):
  ar C.M A (ew (.ref e)) (λr s₂=>∃v,r=some v/\ar C.M A (cD (.Tuple elts x1 tp) (.ref e) v) (λ_ s₃=>Jf okI e it y t i c v s₁ s₃) bJ s₂) bJ s₁:=by
 refine bR (wpAny_pyNext_enum_itemD (uw (A:=A.in1) R.hh it y t) he' hi' (Array.getElem?_eq_some_iff.mp hx).1 hei (by simpa using hei) λx h' tk px ho' hit' hT hz hk hle hsz=>⟨_,rfl,?_⟩)
 refine nG λkG=>?_;obtain⟨c',u,hX⟩:=px;obtain rfl:=hX.2;refine kG ?_;refine(λe1=>?_) hX.1
 cases hx.symm.trans e1
 refine wpAny_letOwnedTupleGo_enum ho' λh'' he'' hs''=>?_
 refine en (ut (l:=it) he' (rZ hi') (by rw[hs''.1,hz];exact a8 _) hle λb o q1 q2 x=>(hs''.2 b q1).trans (hk b o q1 q2 x)) λ_ g=>?_
 exact⟨_,Rd.tuple ⟨_,(hs''.2 _ (cq (aC he'))).trans hT,rfl,_,rfl⟩ (.cons Rd.int (.cons Rd.str .nil)),g,he'',by refine a7 hit' λo x q=>?_;exact⟨o,(hs''.2 _ hei.symm).trans x,q⟩⟩
end
section
variable{M:Model}{A:Around}{R:GenEnd}{Y:Protocol}{n:Nat}{s₀:ab}{c:Code}{fs:List Frame}{s:ab}{env:Env}
 {K:Flow->Sem Fin}{H:Value->Sem Fin}{gd:Bool->Bool}{lv:List Value->List Value}
theorem gM{α β:Type}{m:Sem α}{f:α->Sem β}{K:β->Sem Fin}{H:Value->Sem Fin}(h:ar M (A.over c fs) m (λa s'=>Seg M A R Y n s₀ c ((f a).wrap K H gd lv) fs s') bJ s):Seg M A R Y n s₀ c ((m >>= f).wrap K H gd lv) fs s:=
 seg_bind_wrap (al h (λ_ _ x=>x) λ_ _ x=>x.elim)
noncomputable def Kq(env:Env)(K:Flow->Sem Fin)(H:Value->Sem Fin)(gd:Bool->Bool)(lv:List Value->List Value):mj->Sem Fin:=
 λr=>((match r with|.ok f=>(.pure f:Sem Flow)|.error e=>.raise e).onRaise λ(x:Value)=>do
    if(<-vZ x 1)==ez then unsupported "frame.own-activation:exception-without-traceback"
    setFlight x env.frame).wrap K H gd lv
theorem Fn{target iter:Expr}{body:List Stmt}{pos:Pos}(hs:∀x,ba iter env x=pure x)
  (h:ar M (A.over c fs) (eval iter env) (λx s₁=>ar M (A.over c fs) (sX x) (λit s₂=>∀p,Seg M A R Y n s₀ (.forLoop target it body [] env) (M.den (.forLoop target it body [] env)) (.ret (Kq env K H gd lv) none (gd false) (lv []) c p []::fs) s₂) bJ s₁) bJ s):
  Seg M A R Y n s₀ c ((exec (.For target iter body [] pos) env).wrap K H gd lv) fs s:=by
 rw[exec_For]
 refine gM (cu ?_)
 refine gM (al h (λx s₁ h₁=>?_) λ_ _ x=>x)
 refine gM (fF (hs x) ?_)
 refine gM (cu ?_)
 refine gM (bg (al h₁ (λit s₂ h₂=>?_) λ_ _ x=>x))
 exact seg_call h₂
theorem ym{test:Expr}{body orelse:List Stmt}{pos:Pos}
  (h:ar M (A.over c fs) (mh test env (eval test env)) (λb s'=>Seg M A R Y n s₀ c ((kj (if b=true then body else orelse) env).wrap K H gd lv) fs s') bJ s):Seg M A R Y n s₀ c ((exec (.If test body orelse pos) env).wrap K H gd lv) fs s:=by
 rw[exec_If]
 refine gM (cu ?_)
 refine gM (al h (λb s' h'=>?_) λ_ _ x=>x)
 cases b<;>exact h'
theorem oP{st:Stmt}(h:ar M (A.over c fs) (exec st env) (λf s'=>Seg M A R Y n s₀ c (K f) fs s') bJ s):Seg M A R Y n s₀ c ((exec st env).wrap K H gd lv) fs s:=
 seg_wrap (al h (λ_ _ x=>x) λ_ _ x=>x.elim)
end
section
variable{prog:Program}{w:BE}{A:Around}{R:GenEnd}{Y:Protocol}{n:Nat}{s₀:ab}{fs:List Frame}{s:ab}{env:Env}
noncomputable def GU(target:Expr)(it:Value)(body:List Stmt)(env:Env):Flow->Sem Fin:=λf=>match f with
 |.next|.cont=>.pure (.again (.forLoop target it body [] env))
 |.brk=>.pure (.done .next)
 |.ret v=>.pure (.done (.ret v))
theorem qp{target:Expr}{it:Value}{body:List Stmt}
  (h:ar (kY prog w) (A.over (.forLoop target it body [] env) fs) (ew it) (λr s₁=>match r with
   |none=>Seg (kY prog w) A R Y n s₀ (.block [] env) (leafOf (.ok .next)) fs s₁
   |some v=>ar (kY prog w) (A.over (.forLoop target it body [] env) fs) (cD target it v) (λ_ s₂=>ar (kY prog w) (A.over (.forLoop target it body [] env) fs) (s7 target env v) (λ_ s₃=>
     ∀H,Seg (kY prog w) A R Y n s₀ (.forLoop target it body [] env) ((kj body env).wrap (GU target it body env) H id id) fs s₃) bJ s₂) bJ s₁) bJ s):
  Seg (kY prog w) A R Y n s₀ (.forLoop target it body [] env) ((kY prog w).den (.forLoop target it body [] env)) fs s:=by
 show Seg _ A R Y n s₀ _ ((forTurn target it body [] env).onRaise (λx=>do noteFrame x env;theTreesLotGoes x)) fs s
 unfold forTurn
 rw[Sem.onRaise_eq_wrap]
 refine gM (cu ?_)
 refine gM (wpAny_onRaise (al h (λr s₁ h₁=>?_) λ_ _ x=>x.elim))
 cases r with
 |none=>
  show Seg _ A R Y n s₀ _ (.pure (.again (.block [] env))) fs s₁
  exact seg_again rfl h₁
 |some v=>
  refine gM (al h₁ (λ_ s₂ h₂=>?_) λ_ _ x=>x)
  refine gM (al h₂ (λ_ s₃ h₃=>?_) λ_ _ x=>x)
  rw[Sem.bind_eq_wrap',Sem.wrap_wrap]
  rw[Sem.wrap_congr (kj body env) _ _ (K':=GU target it body env) (λf=>by cases f<;>rfl) (λe=>rfl)]
  exact h₃ _
theorem CY{E:Value->ab->Prop}{a:Addr}{g:Nat}{gs:hK}{P:Nat->ab->ab->Prop}{Q:Option Value->ab->Prop}(hh:A.handled=none)(hl:s.heap.NoLimit)(hroom:A.depth < recursionLimit)
  (hg:s.heap.IsGen a g)(hgs:s.gens[g]? =some gs)
  (hgo:gs.Goes (kY prog w) A.in1 (λn s₀ r s₁=>r=.ok (.ret .none)/\P n s₀ s₁) Y n (.send .none) (s.setGen g .running))
  (hY:∀v s₁ gs',gs'.bare=true->Y (n - 1) (s.setGen g .running) v s₁ (λr' s''=>match n with
    |0=>False
    |m+1=>gs'.Goes (kY prog w) A.in1 (λn s₀ r s₁=>r=.ok (.ret .none)/\P n s₀ s₁) Y m r' s'')->Q (some v) (s₁.setGen g gs'))
  (hP:∀s₁,P n (s.setGen g .running) s₁->∀h',(∀b o,s₁.heap.get? b=some o->h'.get? b=some o)->Q none {s₁.setGen g .finished with heap:=h'}):
  ar (kY prog w) A (ew (.ref a)) Q E s:=by
 unfold ew
 refine aa (kW (c9 (name:=ad "__next__") hg.typeIs slot_gen_next
  (dF slot_gen_next hg.typeIs entry_gen_next ?_ (args_gen_next _))))
 show ar _ A.in1 (Builtin.Generator.genWake (.ref a) (.send .none)) _ _ s
 unfold Builtin.Generator.genWake
 refine aa (bg (wpAny_genNumber hg (aa (wpAny_genState hgs ?_))))
 cases gs with
 |running=>exact hgo.elim
 |finished=>exact hgo.elim
 |_=>
  refine aa (wpAny_roomToWake hl hroom ?_)
  show ar _ A.in1 (.resume g (.send .none) [] _) _ _ s
  refine wpAny_resumeQ hgs hgo (λx s₁ hx=>?_) (λv s₁ gs' hb hv=>?_)
  ·obtain rfl:=hx.1;refine(λhp=>?_) hx.2
   show ar _ A.in1 (newExc (.type "StopIteration") [] >>= _) _ _ _
   refine aa ?_
   simp only[newExc,newTuple]
   refine aa (cI ?_ (by size_fits))
   refine aa (m:=sZ _ _) (fF (a:=ez) (by first|rfl|(simp only[sZ];rfl)) ?_)
   refine cI ?_ (by size_fits)
   simp only[raiseNew]
   refine aa (aa (wpAny_handled ?_))
   first|rw[show A.in1.handled=none from hh]|rw[hh]
   refine wpAny_throw ?_
   refine aa (pq (T:="StopIteration") (b:=true) ⟨_,aB _ rfl,rfl⟩ sY ?_)
   exact aq (hP s₁ hp _ λb o hb=>aA _ (aA _ hb))
  ·exact aq ⟨v,rfl,aq (hY v s₁ gs' hb hv)⟩
end
def AM(n:Nat):Around:=⟨none,500 - n,none,none,5000 - 20 * n⟩
theorem bj.am{n:Nat}(h:n<=200):bj n (AM n):=⟨rfl,by show 500 - n+n<=500;exact aJ (k7 (ah h (ag rfl))),by show 5000 - 20 * n+20 * n<=5000;exact aJ (k7 (J1 [Ql Q0 (Qn 200)] (Qm 20 Q0) (Qn 5000) 1 [20] Qt h))⟩
theorem BR{α:Type}{M:Model}{A:Around}{n:Nat}{t:Sem α}{Q:α->ab->Prop}{E:Value->ab->Prop}{s:ab}(R:bj n A)(h:ar M (AM n) t Q E s):ar M A t Q E s:=λΓ p hΓ=>
 h Γ p ⟨hΓ.1.trans R.hh,by show _<=500 - n;exact pA (ah (jM hΓ.2.1 n) R.2.1),λ_ e=>(by cases e),λ_ e=>(by cases e),by show _<=5000 - 20 * n;exact pA (ah (jM hΓ.2.2.2.2 (20 * n)) R.2.2)⟩
theorem bj.func{n:Nat}{A:Around}{b:List Stmt}{env:Env}(R:bj (n+1) A):bj n (A.over (.func b env) []):=by
 refine oG R λa b c=>?_
 refine⟨a,?_,?_⟩
 ·show A.depth+0+1+n<=500;exact J2 [Ql (Qa Q0 (Qs Q1 1)) (Qn 500)] (Qa (Qs (Qs Q0 0) 1) Q1) (Qn 500) 1 [1] Qt b
 ·show A.units+0+3+20 * n<=5000;exact J2 [Ql (Qa Q0 (Qm 20 (Qs Q1 1))) (Qn 5000)] (Qa (Qs (Qs Q0 0) 3) (Qm 20 Q1)) (Qn 5000) 1 [1] Qt c
theorem bj.loop{n:Nat}{A:Around}{b b':List Stmt}{env env':Env}{tg:Expr}{it:Value}{k:mj->Sem Fin}{l:List Value}{p:Pos}(R:bj (n+1) A):bj n (A.over (.forLoop tg it b' [] env') [.ret k none false l (.func b env) p []]):=by
 refine oG R λa b c=>?_
 refine⟨a,?_,?_⟩
 ·show A.depth+1+0+n<=500;exact J2 [Ql (Qa Q0 (Qs Q1 1)) (Qn 500)] (Qa (Qs (Qs Q0 1) 0) Q1) (Qn 500) 1 [1] Qt b
 ·show A.units+3+0+20 * n<=5000;exact J2 [Ql (Qa Q0 (Qm 20 (Qs Q1 1))) (Qn 5000)] (Qa (Qs (Qs Q0 3) 0) (Qm 20 Q1)) (Qn 5000) 1 [1] Qt c
section
variable{C:Cx}{n:Nat}{sc:Scope}{env:Env}
noncomputable def LV.flat:LV->Bool
 |.un=>true
 |.dat d=>match d with
  |.none=>true
  |.bool _=>true
  |.int _=>true
  |.str _=>true
  |_=>false
 |_=>false
theorem jf.flat{ok okb ok' okb':Addr->Prop}{lx lx':Lx}{h h':Heap}{lv:LV}{u:Option Value}{as:List Addr}(e:lv.flat=true)(x:jf ok okb lx h lv u as):jf ok' okb' lx' h' lv u as/\as=[]:=by
 cases lv with
 |un=>exact⟨x,x⟩
 |dat d=>
  obtain⟨a,v,b,r⟩:=x
  refine⟨⟨a,v,b,?_⟩,a⟩
  cases d with
  |none=>exact r.none_inv▸Rd.none
  |bool _=>exact r.bool_inv▸Rd.bool
  |int _=>exact by refine cU r.int_inv λ_ e=>?_;exact e▸Rd.int
  |str _=>exact by refine cU r.str_inv λ_ e=>?_;exact e▸Rd.str
  |_=>exact by cases e
 |_=>exact by cases e
def qV(C:Cx)(sc:Scope)(env:Env)(ρ:List LV)(s:ab):Prop:=∃ok μ,St C sc env ρ none ok ok (λ_=>[]) μ s
theorem qV.of{ρ:List LV}{lx:Lx}{ok okb:Addr->Prop}{og:Nat->List Addr}{μ:Str->Option Value}{s s':ab}(nc:∀x,env.cells.lookup x=none)(hf:∀lv∈ρ,lv.flat=true)(S:St C sc env ρ lx ok okb og μ s)(wd:Wd C s')(hk:∀o,s.heap.get? env.locals=some o->s'.heap.get? env.locals=some o):qV C sc env ρ s':=by
 exact⟨λa=>s'.heap.objs.size<=a,μ,{
  wd:=wd
  okf:=λa h=>h
  sub:=λ_ h=>h
  len:=S.len
  ns:=by refine a7 S.ns λm n r=>?_;exact⟨m,Ns.at n hk,r⟩
  cell:=λx e=>by refine a7 (S.cell x e) λc e1 _=>?_;exact nomatch(nc x).symm.trans e1
  cellx:=λx c e=>nomatch(nc x).symm.trans e
  vars:=λi x k lv e1 e2=>let q:=jf.flat (ok':=λa=>s'.heap.objs.size<=a) (okb':=λa=>s'.heap.objs.size<=a) (lx':=none) (h':=s'.heap) (hf lv (aU e2)) (S.vars i x k lv e1 e2);q.2▸q.1
  owns:=λ_ _ m=>nomatch m
  ownd:=λ_=>bx
  ownx:=λ_ _ _ m=>nomatch m
  lxr:=trivial
  lxok:=λ_ _ w=>w.elim
  lxf:=⟨λw=>w.elim,λ_ _ _ w=>w.elim⟩
  lx0:=λ_ w=>w.elim
  fr0:=S.fr0}⟩
theorem qV.again{ρ:List LV}{s s':ab}(nc:∀x,env.cells.lookup x=none)(hf:∀lv∈ρ,lv.flat=true)(S:qV C sc env ρ s)(wd:Wd C s')(hk:∀o,s.heap.get? env.locals=some o->s'.heap.get? env.locals=some o):qV C sc env ρ s':=by
 refine ml S λok μ S=>?_
 exact .of nc hf S wd hk
theorem qV.nob{ρ:List LV}(hf:∀lv∈ρ,lv.flat=true):cZ ρ:=λi d e=>nomatch hf _ (aU e)
abbrev EE(env:Env):Addr->Prop:=λb=>b=env.locals
theorem Ik{A:Around}{ρ:List LV}{s:ab}{e:Expr}{f:DE}{d:D}(R:bj n A)(E:aY sc env)(S:qV C sc env ρ s)(h:SE C n sc e f)(hd:f ρ none=some (.dat d,none)):
  ar C.M A (eval e env) (λv s'=>(∃ok,Rd ok s'.heap v d)/\qV C sc env ρ s'/\aH xN cx s s') bJ s:=by
 refine ml S λok μ S=>?_
 refine al (h.run _ _ _ _ hd A env ok ok (λ_=>[]) μ s R E S) (λv s' h'=>?_) λ_ _ x=>x
 refine nG λkG=>?_;obtain⟨r,lx',⟨q1,q2⟩,rv,sa,l,g⟩:=h'
 subst q1 q2
 refine kG ?_
 exact⟨⟨ok,rv⟩,⟨ok,μ,S.grow g sa l⟩,g⟩
theorem yI{A:Around}{ρ:List LV}{s:ab}{e:Expr}{f:DT}{b:Bool}(R:bj n A)(E:aY sc env)(S:qV C sc env ρ s)(h:SB C n sc e f)(hd:f ρ none=some (b,none)):
  ar C.M A (mh e env (eval e env)) (λv s'=>v=b/\qV C sc env ρ s'/\aH xN cx s s') bJ s:=by
 refine ml S λok μ S=>?_
 refine al (h.run _ _ _ _ hd A env ok ok (λ_=>[]) μ s R E S) (λv s' h'=>?_) λ_ _ x=>x
 refine nG λkG=>?_;obtain⟨lx',⟨q1,q2⟩,sa,l,g⟩:=h'
 subst q1 q2
 refine kG ?_
 exact⟨rfl,⟨ok,μ,S.grow g sa l⟩,g⟩
theorem DA{A:Around}{ρ ρ':List LV}{s:ab}{st:Stmt}{f:DS}(R:bj n A)(E:aY sc env)(nc:∀x,env.cells.lookup x=none)(hf:∀lv∈ρ,lv.flat=true)(hf':∀lv∈ρ',lv.flat=true)(S:qV C sc env ρ s)(h:S1 C n sc st f)(hd:f ρ none=some (.nxt,ρ',none)):
  ar C.M A (exec st env) (λfl s'=>fl=.next/\qV C sc env ρ' s'/\aH (EE env) cx s s') bJ s:=by
 refine ml S λok μ S=>?_
 refine al (h.run _ _ _ _ _ hd A env ok ok (λ_=>[]) μ s R E S (qV.nob hf)) (λfl s' h'=>?_) λ_ _ x=>x
 refine nG λkG=>?_;obtain⟨f,ρ1,lx',ok',okb',og',μ',⟨q1,q2,q3⟩,fr,S',nb,c⟩:=h'
 subst q1 q2 q3
 refine kG ?_
 exact⟨fr.nxt,.of nc hf' S' S'.wd λ_ e=>e,c.g.mono (λb w=>by
  rcases w with w|w|⟨i,m⟩
  ·exact w.elim
  ·exact w.elim .inl λ⟨x,w⟩=>nomatch(nc x).symm.trans w
  ·exact nomatch m) λ_ w=>w.elim⟩
end
noncomputable def Dw(x:Str)(p:Int)(b:Bool)(c:LV):List LV:=[.dat (.str x),.dat (.int p),.dat (.bool b),c,.un]
theorem mS{x:Str}{p:Int}{b:Bool}{c:LV}(h:c.flat=true):∀lv∈Dw x p b c,lv.flat=true:=List.forall_mem_cons.mpr ⟨rfl,List.forall_mem_cons.mpr ⟨rfl,List.forall_mem_cons.mpr ⟨rfl,List.forall_mem_cons.mpr ⟨h,List.forall_mem_cons.mpr ⟨rfl,λ_ m=>by cases m⟩⟩⟩⟩⟩
noncomputable def wq(p:Nat × Str):D:=.tuple [.int (p.1:Nat),.str p.2]
noncomputable def B4:Bool->List Nat->Bool
 |b,[]=>b
 |b,c::cs=>B4 (!b&&c==92) cs
def GN(tr:Bool)(L e it:Addr)(m:Nat)(b:Addr):Prop:=b=L\/(¬(m=0/\tr=true)/\(b=e\/b=it))
def Yg(C:Cx)(tr:Bool)(tot:List (Nat × Str))(L e it:Addr):Protocol:=λm s₀ v s kap=>
 (∃d rest,rest.length=m/\(∃pre,tot=pre++d::rest)/\∀ok,Rd ok s.heap v (wq d))/\aH (λb=>b=L\/b=e\/b=it) cx s₀ s/\(∀b,GN tr L e it m b->∃o,s.heap.get? b=some o/\sQ o)/\Wd C s/\
 ∀s'',Wd C s''->(∀b,GN tr L e it m b->∀o,s.heap.get? b=some o->s''.heap.get? b=some o)->kap (.send .none) s''
def Rg(tr:Bool)(L e it:Addr):GenEnd:=λn s₀ r s₁=>r=.ok (.ret .none)/\n=0/\aH (λb=>tr=false/\(b=L\/b=e\/b=it)) cx s₀ s₁
theorem zh{ok ok':Addr->Prop}{h:Heap}{v:Value}{p:Nat × Str}(r:Rd ok h v (wq p)):Rd ok' h v (wq p):=by
 refine nG λkG=>?_;obtain⟨a,vs,rfl,t,rs⟩:=Rd.tuple_inv r
 refine xP rs.uncons λx xs e1 r1 rs=>?_
 obtain⟨y,ys,rfl,r2,rs⟩:=rs.uncons
 obtain rfl:=rs.unnil
 refine kG ?_
 exact Rd.tuple t (e1▸.cons (by refine cU r1.int_inv λ_ e=>?_;exact e▸Rd.int) (.cons (by refine cU r2.str_inv λ_ e=>?_;exact e▸Rd.str) .nil))
structure tL(C:Cx)(N:Nat)(sc:Scope)(tg t1 t2 t3 y1 y2 y3:Expr)(a3 a4:Stmt):Prop where
 tg:wc sc.names tg (.tup [1,3])
 t1:SB C N sc t1 (.val (.nm 2))
 t2:SB C N sc t2 (.cmp .Eq (.nm 3) (.k (.str "\\")))
 t3:SB C N sc t3 (.val (.nm 2))
 y1:SE C N sc y1 (.tupX (.cons (.nm 1) (.cons (.bin .Add (.k (.str "\\")) (.nm 3)) .nil)))
 y2:SE C N sc y2 (.tupX (.cons (.nm 1) (.cons (.nm 3) .nil)))
 y3:SE C N sc y3 (.tupX (.cons (.nm 1) (.cons (.k (.str "\\")) .nil)))
 a3:S1 C N sc a3 (.asg 2 (.k (.bool false)))
 a4:S1 C N sc a4 (.asg 2 (.k (.bool true)))
section
variable{C:Cx}{N:Nat}{sc:Scope}{env:Env}{A:Around}{x:Str}{t:Tok}{tot:List (Nat × Str)}{L e it:Addr}{tr:Bool}{s₀ s:ab}{cd:Code}{fs:List Frame}{K:Flow->Sem Fin}{H:Value->Sem Fin}
structure BB(C:Cx)(sc:Scope)(env:Env)(x:Str)(L e it:Addr):Prop where
 E:aY sc env
 hco:env.scope.isCoroutine=false
 hi:gW env=false
 nc:∀x,env.cells.lookup x=none
 hL:L=env.locals
 hei:e≠it
 heL:L≠e/\L≠it
 h0:∀b,b=e\/b=it->C.h₀.get? b=none/\b≠C.tab
 hok:bk x=true
structure GS(N:Nat)(A:Around)(cd:Code)(fs:List Frame):Prop where
 room:bj N (A.over cd fs)
 sp:splitAtGen fs=none
 fg:fs.any Frame.guarded=false
inductive KH(C:Cx)(sc:Scope)(env:Env)(x:Str)(t:Tok)(tot:List (Nat × Str))(L e it:Addr)(tr:Bool)(i:Nat)(b:Bool)(cs:List Nat)(s₀ s:ab):Prop where
 |mk (pv:Int) (c:LV) (old:Value) (hc:c.flat=true) (hdr:x.cps.toList.drop i=cs) (hp:b=true->pv=((i - 1:Nat):Int)) (ht:∃pre,tot=pre++dX i b cs) (htr:tr=B4 b cs) (S:qV C sc env (Dw x pv b c) s) (he:oK s.heap e it i old) (hi:s.heap.IsStrIter it (dy x) x t i) (g:aH (λb=>b=L\/b=e\/b=it) cx s₀ s)
abbrev tI(C:Cx)(A:Around)(tr:Bool)(tot:List (Nat × Str))(L e it:Addr)(n:Nat)(s₀:ab)(cd:Code)(t:Sem Fin)(fs:List Frame)(s:ab):Prop:=Seg C.M A (Rg tr L e it) (Yg C tr tot L e it) n s₀ cd t fs s
theorem qd{y:Expr}{fy:DE}{ρ:List LV}{d:Nat × Str}{rest:List (Nat × Str)}{p1 p2:Pos}(G:BB C sc env x L e it)(RA:GS N A cd fs)
  (hf:∀lv∈ρ,lv.flat=true)(hy:SE C N sc y fy)(hd:fy ρ none=some (.dat (wq d),none))(ht:∃pre,tot=pre++d::rest)(S:qV C sc env ρ s)(hn:¬(rest.length=0/\tr=true)->∀b,b=e\/b=it->∃o,s.heap.get? b=some o/\sQ o)(g:aH (λb=>b=L\/b=e\/b=it) cx s₀ s)
  (next:∀s'',qV C sc env ρ s''->(¬(rest.length=0/\tr=true)->∀b,b=e\/b=it->∀o,s.heap.get? b=some o->s''.heap.get? b=some o)->tI C A tr tot L e it rest.length s'' cd (K .next) fs s''):
  tI C A tr tot L e it (rest.length+1) s₀ cd ((exec (.Expr (.Yield (some y) p1) p2) env).wrap K H id id) fs s:=by
 refine seg_Expr_Yield RA.sp rfl RA.fg (al (Ik RA.room G.E S hy hd) (λv s' p=>λkap hk=>?_) (λ_ _ x=>x.elim)) G.hco G.hi
 refine nG λkG=>?_;obtain⟨⟨ok,rv⟩,S',g'⟩:=p
 refine kG ?_
 have k':∀b o,s.heap.get? b=some o->s'.heap.get? b=some o:=λb o e=>g'.heap b o (λw=>w) e
 exact⟨⟨d,rest,rfl,ht,λok'=>zh rv⟩,g.trans g' (λ_ w=>w.elim) (λ_ w=>w.elim),λb hb=>hb.elim (λq=>by refine ml S' λ_ _ q'=>?_;exact by refine nG λkG=>?_;obtain⟨_,⟨o,_,_,e1,e2,_⟩,_⟩:=q'.ns;refine kG ?_;exact⟨o,q▸G.hL▸e1,λ_ vs n e=>by cases e2.symm.trans e⟩) λhb=>by refine nG λkG=>?_;obtain⟨o,e1,e2⟩:=hn hb.1 b hb.2;refine kG ?_;exact⟨o,k' _ _ e1,e2⟩,
  by refine nG λkG=>?_;obtain⟨_,_,q⟩:=S';refine kG ?_;exact q.wd,λs'' wd'' hk''=>hk .none s'' (next s'' (S'.again G.nc hf wd'' (hk'' _ (.inl G.hL.symm))) λhq b hb o ho=>hk'' b (.inr ⟨hq,hb⟩) o (k' _ _ ho))⟩
theorem DX{tg t1 t2 t3 y1 y2 y3:Expr}{a3 a4:Stmt}{p1 p2 p3:Pos}{i:Nat}{p:Int}{b:Bool}{c:LV}
  (F:tL C N sc tg t1 t2 t3 y1 y2 y3 a3 a4)(G:BB C sc env x L e it)(RA:GS N A cd [])(hc:c.flat=true)
  (hp:b=true->p=((i - 1:Nat):Int))(ht:∃pre,tot=pre++dX i b [])(S:qV C sc env (Dw x p b c) s)(htr:tr=b)(g:aH (λb=>b=L\/b=e\/b=it) cx s₀ s):
  tI C A tr tot L e it (dX i b []).length s₀ cd ((kj [.If t3 [.Expr (.Yield (some y3) p1) p2] [] p3] env).wrap (λf=>.pure (.done (.ret (match f with|.ret v=>v|_=>.none)))) H id id) [] s:=by
 refine dm (ym (al (yI RA.room G.E S F.t3 (show DT.val (.nm 2) (Dw x p b c) none=some (b,none)by cases b<;>rfl)) (λb' s₁ q=>?_) λ_ _ x=>x))
 obtain rfl:=q.1;refine(λS1 g1=>?_) q.2.1 q.2.2
 have g01:=g.trans g1 (λ_ w=>w.elim) (λ_ w=>w.elim)
 cases b' with
 |false=>exact seg_end (.ok (.ret .none)) ⟨rfl,rfl,g01.mono (λ_ w=>.inl ⟨htr,w⟩) λ_ w=>.inl w⟩
 |true=>exact dm (qd (d:=(i - 1,"\\")) (rest:=[]) G RA (mS hc) F.y3 (by rw[hp rfl];rfl) ht S1 (λq=>absurd ⟨rfl,htr⟩ q) g01 λs'' S'' _=>seg_end (.ok (.ret .none)) ⟨rfl,rfl,aH.refl⟩)
theorem wt{cs:List Nat}:∀{b:Bool} {i:Nat},B4 b cs=true->¬(dX i b cs).length=0:=by
 induction cs with
 |nil=>exact λ{b i} e=>by cases b with
  |true=>exact λh=>by cases h
  |false=>exact by cases e
 |cons c cs ih=>exact λ{b i} e=>by cases b with
  |true=>exact λh=>by cases h
  |false=>
   have e:B4 (c==92) cs=true:=e
   unfold dX
   cases h:c==92 with
   |true=>rw[h]at e;exact ih e
   |false=>exact λh=>by cases h
theorem K5(c:Nat):gY (.str ⟨#[c]⟩) (.str "\\")=(c==92):=by
 show((⟨#[c]⟩:Str)==("\\":Str))=_
 rw[show("\\":Str)=⟨#[92]⟩by decide+kernel,wk,beq_iff_eq,beq_iff_eq]
 exact⟨λh=>(c7 (Array.mk.inj (Str.mk.inj h))).1,λh=>h▸rfl⟩
theorem Fg{i c:Nat}(hok:bk x=true)(hx:x.cps[i]? =some c):bk (⟨#[c]⟩:Str)=true:=by
 obtain⟨hlt,rfl⟩:=Array.getElem?_eq_some_iff.mp hx
 have h1:=Array.all_eq_true.mp hok i hlt
 show(#[x.cps[i]].all _)=true
 simpa using h1
theorem Ki{c:Nat}{ρ:List LV}{lx:Lx}(h:ρ[3]? =some (.dat (.str ⟨#[c]⟩)))(h1:bk (⟨#[c]⟩:Str)=true):DT.cmp .Eq (.nm 3) (.k (.str "\\")) ρ lx=some (c==92,lx):=by
 have e:DE.nm 3 ρ lx=some (.dat (.str ⟨#[c]⟩),lx):=by unfold DE.nm;rw[h];rfl
 have g:(b0 (.str ⟨#[c]⟩)&&b0 (.str "\\"))=true:=by simp[b0,gZ,jL,h1];decide+kernel
 unfold DT.cmp
 rw[e,ac,show DE.k (.str "\\") ρ lx=some (.dat (.str "\\"),lx)from rfl,ac]
 show(if(b0 (.str ⟨#[c]⟩)&&b0 (.str "\\"))=true then some (gY (.str ⟨#[c]⟩) (.str "\\"))else none).map _=_
 rw[if_pos g,K5];rfl
theorem DR{tg t1 t2 t3 y1 y2 y3:Expr}{a3 a4:Stmt}{q1 q2 q3 q4 q5 q6:Pos}{i c:Nat}{b:Bool}{cs:List Nat}{old:Value}(F:tL C N sc tg t1 t2 t3 y1 y2 y3 a3 a4)(G:BB C sc env x L e it)(RA:GS N A cd fs)(ok1:bk (⟨#[c]⟩:Str)=true)(hdr:x.cps.toList.drop (i+1)=cs)
  (ht:∃pre,tot=pre++dX i b (c::cs))(htr:tr=B4 b (c::cs))(S:qV C sc env (Dw x i b (.dat (.str ⟨#[c]⟩))) s)(he:oK s.heap e it ((i+1:Nat):Int) old)(hi:s.heap.IsStrIter it (dy x) x t (i+1))(g:aH (λb=>b=L\/b=e\/b=it) cx s₀ s)
  (next:∀b' s₀ s,KH C sc env x t tot L e it tr (i+1) b' cs s₀ s->tI C A tr tot L e it (dX (i+1) b' cs).length s₀ cd (K .next) fs s):
  tI C A tr tot L e it (dX i b (c::cs)).length s₀ cd ((kj [.If t1 [.Expr (.Yield (some y1) q1) q2,a3] [.If t2 [a4] [.Expr (.Yield (some y2) q3) q4] q5] q6] env).wrap K H id id) fs s:=by
 have fl:=λb=>mS (x:=x) (p:=i) (b:=b) (show(LV.dat (.str ⟨#[c]⟩)).flat=true from rfl)
 have ens:∀{s:ab},oK s.heap e it ((i+1:Nat):Int) old->s.heap.IsStrIter it (dy x) x t (i+1)->∀b,b=e\/b=it->∃o,s.heap.get? b=some o/\sQ o:=λhe hi b hb=>hb.elim (λq=>q▸⟨_,he,.of (by dsimp only;decide)⟩) λq=>q▸by refine jH (rZ hi) λo e h _=>?_;exact⟨o,e,.of h⟩
 have mvs:∀{s s':ab},(∀b,b=e\/b=it->∀o,s.heap.get? b=some o->s'.heap.get? b=some o)->oK s.heap e it ((i+1:Nat):Int) old->s.heap.IsStrIter it (dy x) x t (i+1)->oK s'.heap e it ((i+1:Nat):Int) old/\s'.heap.IsStrIter it (dy x) x t (i+1):=λk he hi=>⟨k e (.inl rfl) _ he,by obtain⟨o,hX⟩:=hi;refine(λe1 e2=>?_) hX.1 hX.2;exact⟨o,k it (.inr rfl) _ e1,e2⟩⟩
 have kL:∀{s s':ab},aH (EE env) cx s s'->∀b,b=e\/b=it->∀o,s.heap.get? b=some o->s'.heap.get? b=some o:=λg b hb o q=>g.heap b o (λw=>have w:b=L:=w.trans G.hL.symm;hb.elim (w▸G.heL.1) (w▸G.heL.2)) q
 have gL:∀{s s':ab},aH (EE env) cx s s'->aH (λb=>b=L\/b=e\/b=it) cx s s':=λg=>g.mono (λb w=>.inl (.inl (w.trans G.hL.symm))) λ_ w=>.inl w
 refine dm (ym (al (yI RA.room G.E S F.t1 (show DT.val (.nm 2) (Dw x i b (.dat (.str ⟨#[c]⟩))) none=some (b,none)by cases b<;>rfl)) (λb' s₄ q=>?_) λ_ _ x=>x))
 obtain rfl:=q.1;refine(λS4 g4=>?_) q.2.1 q.2.2
 refine(λhe4 hi4=>?_) (mvs (λb _ o q=>g4.heap b o (λw=>w) q) he hi).1 (mvs (λb _ o q=>g4.heap b o (λw=>w) q) he hi).2
 have g04:=g.trans g4 (λ_ w=>w.elim) (λ_ w=>w.elim)
 cases b' with
 |true=>
  refine dm (qd (d:=(i,"\\"++oI #[c])) (rest:=dX (i+1) false cs) G RA (fl _) F.y1 rfl ht S4 (λ_=>ens he4 hi4) g04 λs₅ S5 k5=>?_)
  have k5':=k5 λq=>wt (i:=i+1) (b:=false) (htr▸q.2) q.1
  refine dm (oP (al (DA RA.room G.E G.nc (fl _) (fl false) S5 F.a3 rfl) (λfl' s₆ q=>?_) λ_ _ x=>x))
  obtain rfl:=q.1;refine(λS6 g6=>?_) q.2.1 q.2.2
  obtain⟨he6,hi6⟩:=mvs (λb hb o q=>kL g6 b hb o (k5' b hb o q)) he4 hi4
  exact next false s₅ s₆ ⟨i,_,old,rfl,hdr,(λq=>nomatch q),by obtain⟨pre,ht⟩:=ht;exact⟨pre++[(i,"\\"++oI #[c])],by rw[ht,aR];rfl⟩,htr,S6,he6,hi6,gL g6⟩
 |false=>
  have htr:tr=B4 (c==92) cs:=htr
  refine dm (ym (al (yI RA.room G.E S4 F.t2 (Ki rfl ok1)) (λb' s₅ q=>?_) λ_ _ x=>x))
  obtain rfl:=q.1;refine(λS5 g5=>?_) q.2.1 q.2.2
  refine(λhe5 hi5=>?_) (mvs (λb _ o q=>g5.heap b o (λw=>w) q) he4 hi4).1 (mvs (λb _ o q=>g5.heap b o (λw=>w) q) he4 hi4).2
  have g05:=g04.trans g5 (λ_ w=>w.elim) (λ_ w=>w.elim)
  have hesc:dX i false (c::cs)=if(c==92)=true then dX (i+1) true cs else(i,oI #[c])::dX (i+1) false cs:=rfl
  rw[hesc]at ht ⊢
  cases h92:c==92 with
  |true=>
   rw[h92]at htr ht
   rw[if_pos rfl]at ht
   refine dm (oP (al (DA RA.room G.E G.nc (fl _) (fl true) S5 F.a4 rfl) (λfl' s₆ q=>?_) λ_ _ x=>x))
   obtain rfl:=q.1;refine(λS6 g6=>?_) q.2.1 q.2.2
   refine(λhe6 hi6=>?_) (mvs (kL g6) he5 hi5).1 (mvs (kL g6) he5 hi5).2
   exact next true s₀ s₆ ⟨i,_,old,rfl,hdr,λ_=>rfl,ht,htr,S6,he6,hi6,g05.trans1 (gL g6)⟩
  |false=>
   rw[h92]at htr ht
   rw[if_neg bY]at ht
   refine dm (qd (d:=(i,oI #[c])) (rest:=dX (i+1) false cs) G RA (fl _) F.y2 rfl ht S5 (λ_=>ens he5 hi5) g05 λs₆ S6 k6=>?_)
   obtain⟨he6,hi6⟩:=mvs (k6 λq=>wt (i:=i+1) (htr▸q.2) q.1) he5 hi5
   exact next false s₆ s₆ ⟨i,_,old,rfl,hdr,(λq=>nomatch q),by obtain⟨pre,ht⟩:=ht;exact⟨pre++[(i,oI #[c])],by rw[ht,aR];rfl⟩,htr,S6,he6,hi6,.refl⟩
theorem DW{elts:List Expr}{x1:Nat}{tp:Pos}{t1 t2 t3 y1 y2 y3:Expr}{a3 a4:Stmt}{q1 q2 q3 q4 q5 q6:Pos}{bd:List Stmt}(F:tL C (N+2) sc (.Tuple elts x1 tp) t1 t2 t3 y1 y2 y3 a3 a4)(G:BB C sc env x L e it)(hbd:bd=[.If t1 [.Expr (.Yield (some y1) q1) q2,a3] [.If t2 [a4] [.Expr (.Yield (some y2) q3) q4] q5] q6])
  (RA2:GS (N+2) A (.forLoop (.Tuple elts x1 tp) (.ref e) bd [] env) fs)
  (last:∀pv b c s₀ s,c.flat=true->(b=true->pv=((x.cps.size - 1:Nat):Int))->(∃pre,tot=pre++dX x.cps.size b [])->qV C sc env (Dw x pv b c) s->tr=b->aH (λb=>b=L\/b=e\/b=it) cx s₀ s->tI C A tr tot L e it (dX x.cps.size b []).length s₀ (.block [] env) (leafOf (.ok .next)) fs s)(cs:List Nat):
  ∀(i:Nat) (b:Bool) (s₀ s:ab),KH C sc env x t tot L e it tr i b cs s₀ s->i<=x.cps.size->tI C A tr tot L e it (dX i b cs).length s₀ (.forLoop (.Tuple elts x1 tp) (.ref e) bd [] env) (C.M.den (.forLoop (.Tuple elts x1 tp) (.ref e) bd [] env)) fs s:=by
 have mv:∀{ρ:List LV} {s s₁:ab},(∀lv∈ρ,lv.flat=true)->qV C sc env ρ s->aH (λb=>b=e\/b=it) cx s s₁->qV C sc env ρ s₁:=λhf S g=>
  S.again G.nc hf (let⟨_,_,q⟩:=S;q.wd.grow g G.h0) λo q=>g.heap _ o (λw=>w.elim (G.hL▸G.heL.1) (G.hL▸G.heL.2)) q
 induction cs with
 |nil=>
  intro i b s₀ s I hz
  obtain⟨pv,c,old,hc,hdr,hp,ht,htr,S,he,hi,g⟩:=I
  obtain rfl:=(eu hz (jj (List.length_drop.symm.trans (congrArg fX hdr))):i=x.cps.size)
  refine qp (al (Bd RA2.room he hi) (λr s₁ q=>?_) λ_ _ x=>x)
  obtain rfl:=q.1;refine(λg1=>?_) q.2
  exact last pv b c s₀ s₁ hc hp ht (mv (mS hc) S g1) htr (g.trans g1 (λ_ w=>.inl (.inr w)) λ_ w=>.inl w)
 |cons c' cs ih=>
  intro i b s₀ s I hz
  obtain⟨pv,c,old,hc,hdr,hp,ht,htr,S,he,hi,g⟩:=I
  have hx:x.cps[i]? =some c':=by rw[<-a9,<-nU i,<-fc,hdr];rfl
  refine qp (al (yT (elts:=elts) (x1:=x1) (tp:=tp) (okI:=λ_=>False) RA2.room G.hei he hi hx) (λr s₁ q=>?_) λ_ _ x=>x)
  refine cU q λv hX=>?_;obtain rfl:=hX.1;refine(λh1=>?_) hX.2
  refine al h1 (λ_ s₂ q=>?_) λ_ _ x=>x
  obtain⟨old',rv,g2,he2,hi2⟩:=q
  refine ml (mv (mS hc) S g2) λokk μ S2=>?_
  refine a7 (Tg.ok (Q:=λρ'=>ρ'=Dw x i b (.dat (.str ⟨#[c']⟩))) F.tg (show Ok (Tg.asg true (.tup [1,3]) (.tuple [.int i,.str ⟨#[c']⟩]) (Dw x pv b c)) _ from rfl)) λρ' has hρ=>?_
  subst hρ
  refine rt (fz:=true) RA2.room.hh G.E S2 has (zh (p:=(i,⟨#[c']⟩)) rv) (λq=>nomatch q) λs₃ q=>?_
  obtain⟨og₃,μ₃,S3,_,_,_,g3⟩:=q
  have hw:∀b,GR env (ES (.Tuple elts x1 tp)) b->b=L:=λb w=>w.elim (λw=>w.trans G.hL.symm) λ⟨y,_,w⟩=>nomatch(G.nc y).symm.trans w
  have k3:∀b,b=e\/b=it->∀o,s₂.heap.get? b=some o->s₃.heap.get? b=some o:=λb hb o q=>g3.heap b o (λw=>have w:=hw b w;hb.elim (w▸G.heL.1) (w▸G.heL.2)) q
  intro H
  subst hbd
  exact DR F G RA2 (Fg G.hok hx) (by rw[<-pC,hdr];rfl) ht htr (.of G.nc (mS rfl) S3 S3.wd λ_ e=>e) (k3 e (.inl rfl) _ he2) (let⟨o,e1,e2⟩:=hi2;⟨o,k3 it (.inr rfl) _ e1,e2⟩) ((g.trans g2 (λ_ w=>.inl (.inr w)) λ_ w=>.inl w).trans g3 (λb w=>.inl (.inl (hw b w))) (λ_ w=>w.elim))
   λb' s₀ s I=>seg_again rfl (ih (i+1) b' s₀ s I (Array.getElem?_eq_some_iff.mp hx).1)
end
section
variable{C:Cx}{N:Nat}{sc:Scope}{env:Env}
abbrev j0:List (Str × az):=[("addr",.local),("pos",.local),("escape",.local),("ch",.local),("enumerate",.globalImplicit)]
theorem yx{α:Type}{x:Str}{k:α}{l:List (Str × α)}(h:l.lookup x=some k):(x,k)∈l:=by refine xQ (List.lookup_eq_some_iff.mp h) λ_ _ e _=>?_;exact e▸cT _ lj
theorem xi{x:Str}(h:j0.lookup x=some .cell):False:=by
 have h:=yx h
 simp only[j0,Ap,Prod.mk.injEq,reduceCtorEq,and_false,dw,or_self]at h
theorem qV.mk{x:Str}{tk t1:Tok}{s:ab}{m:Str->Option Value}(hs:sc.names=j0)(nc:∀x,env.cells.lookup x=none)(wd:Wd C s)(hm:s.heap.Ns env.locals m)(h1:m "addr"=some (.str x tk))(h2:m "pos"=some (.int 0 t1))(h3:m "escape"=some (.bool false))
  (h0:C.h₀.get? env.locals=none/\env.locals≠C.tab):qV C sc env (Dw x 0 false .un) s:=
 ⟨λa=>s.heap.objs.size<=a,m,{
  wd:=wd
  okf:=λa h=>h
  sub:=λ_ h=>h
  len:=(congrArg fX hs).symm
  ns:=⟨m,hm,λ_ _=>rfl⟩
  cell:=λx e=>(xi (hs▸e)).elim
  cellx:=λx c e=>nomatch(nc x).symm.trans e
  vars:=λi y k lv e1 e2=>by
   rw[hs]at e1
   rcases i with _|_|_|_|_|i
   ·cases e1;cases e2;exact⟨rfl,_,h1,Rd.str⟩
   ·cases e1;cases e2;exact⟨rfl,_,h2,Rd.int⟩
   ·cases e1;cases e2;exact⟨rfl,_,h3,Rd.bool⟩
   ·cases e1;cases e2;exact rfl
   ·cases e1;cases e2;exact rfl
   ·exact nomatch e1
  owns:=λ_ _ m=>nomatch m
  ownd:=λ_=>bx
  ownx:=λ_ _ _ m=>nomatch m
  lxr:=trivial
  lxok:=λ_ _ w=>w.elim
  lxf:=⟨λw=>w.elim,λ_ _ _ w=>w.elim⟩
  lx0:=λ_ w=>w.elim
  fr0:=⟨h0,λx c e=>nomatch(nc x).symm.trans e⟩}⟩
inductive nq(elts:List Expr)(x1:Nat)(tp:Pos)(t1 t2 t3 y1 y2 y3:Expr)(a3 a4:Stmt):List Stmt->Prop where
 |mk {q1 q2 q3 q4 q5 q6 p1 p2 p3 u1 u2 u3 v1 v2 v3 w1 w2 w3 w4:Pos} {k1 k2:Nat}:nq elts x1 tp t1 t2 t3 y1 y2 y3 a3 a4
  [.Assign [.Name "pos" u1] (.Constant (.int 0) k1 u2) u3,.Assign [.Name "escape" v1] (.Constant (.bool false) k2 v2) v3,.For (.Tuple elts x1 tp) (.Call (.Name "enumerate" w1) [.Name "addr" w2] [] w3) [.If t1 [.Expr (.Yield (some y1) q1) q2,a3] [.If t2 [a4] [.Expr (.Yield (some y2) q3) q4] q5] q6] [] w4,.If t3 [.Expr (.Yield (some y3) p1) p2] [] p3]
theorem uq{s:ab}(wd:Wd C s)(b:Addr)(hb:s.heap.objs.size<=b):C.h₀.get? b=none/\b≠C.tab:=by
 have nl:∀o,¬s.heap.get? b=some o:=λo e=>absurd (aC e) (Nat.not_lt.mpr hb)
 have ht:b≠C.tab:=λq=>by refine cU wd.tab λps e=>?_;exact nl _ (q▸e)
 refine⟨?_,ht⟩
 cases q:C.h₀.get? b with
 |none=>rfl
 |some o=>exact absurd (wd.kept b o ht q) (nl o)
theorem DY{A:Around}{cd:Code}{x:Str}{tk:Tok}{s:ab}{m:Str->Option Value}{w1 w2 w3:Pos}{Q:Value->ab->Prop}(k:dk C)(hs:sc.names=j0)(E:aY sc env)(hv:Gb C "enumerate" (.type "enumerate"))(wd:Wd C s)(hm:s.heap.Ns env.locals m)(h1:m "addr"=some (.str x tk))
  (h:∀h',oK h' (s.heap.objs.size+1) s.heap.objs.size 0 .none->h'.IsStrIter s.heap.objs.size (dy x) x tk 0->bG s {s with heap:=h'}->Q (.ref (s.heap.objs.size+1)) {s with heap:=h'}):
  ar C.M (A.over cd []) (eval (.Call (.Name "enumerate" w1) [.Name "addr" w2] [] w3) env) Q bJ s:=by
 have kl:env.kindOf "addr"=some .local:=E.at (i:=0) (by rw[hs];rfl)
 have ka:nF sc.names "enumerate" .globalImplicit:=by rw[hs];exact .there (.there (.there (.there .here)))
 refine ca (eN k E wd ka hv ?_ (by decide+kernel))
 have hsp:ar C.M (A.over cd []) (spliced (ku w3 (dO [.Name "addr" w2] env))) (λvs s'=>vs=[.str x tk]/\s'=s) bJ s:=
  wpAny_items_cons (dG (eQ (by rw[E.scope];exact E.kind) kl hm (v:=.str x tk) h1 (iW ⟨rfl,rfl⟩)) (by decide+kernel))
 show ar _ _ (dY w3 _ [] ((false,eval (.Name "addr" w2) env)::[]) []) _ _ _
 refine pi .type rfl (al hsp (λvs s' q=>?_) λ_ _ x=>x)
 obtain⟨rfl,rfl⟩:=q
 exact⟨wd,call_enumerate_str λh' he hi' hz hk=>h h' he hi' (.of_keep (t:=s'.toks) (ai _) (by rw[hz];exact aF _ _) hk)⟩
theorem xo{elts:List Expr}{x1:Nat}{tp:Pos}{t1 t2 t3 y1 y2 y3:Expr}{a3 a4:Stmt}{A:Around}{cd:Code}{x:Str}{tk:Tok}{s₀ s:ab}{p1 p2 p3 w1 w2 w3 w4 q1 q2 q3 q4 q5 q6:Pos}{t1':Tok}{m:Str->Option Value}{H0:Value->Sem Fin}(k:dk C)
  (F:tL C (N+2) sc (.Tuple elts x1 tp) t1 t2 t3 y1 y2 y3 a3 a4)(R1:bj (N+2) (A.over cd []))(R2:∀tg it b' kk l p,bj (N+2) (A.over (.forLoop tg it b' [] env) [.ret kk none false l cd p []]))(hs:sc.names=j0)(hv:Gb C "enumerate" (.type "enumerate"))
  (wd:Wd C s)(hm:s.heap.Ns env.locals m)(h1:m "addr"=some (.str x tk))(h2:m "pos"=some (.int 0 t1'))(h3:m "escape"=some (.bool false))(g0:aH (λb=>b=env.locals) cx s₀ s)(h0:C.h₀.get? env.locals=none/\env.locals≠C.tab)(G:BB C sc env x env.locals (s.heap.objs.size+1) s.heap.objs.size):
  tI C A (B4 false x.cps.toList) (dX 0 false x.cps.toList) env.locals (s.heap.objs.size+1) s.heap.objs.size (dX 0 false x.cps.toList).length s₀ cd ((kj [.For (.Tuple elts x1 tp) (.Call (.Name "enumerate" w1) [.Name "addr" w2] [] w3) [.If t1 [.Expr (.Yield (some y1) q1) q2,a3] [.If t2 [a4] [.Expr (.Yield (some y2) q3) q4] q5] q6] [] w4,.If t3 [.Expr (.Yield (some y3) p1) p2] [] p3] env).wrap (λf=>.pure (.done (.ret (match f with|.ret v=>v|_=>.none)))) H0 id id) [] s:=by
 refine dm (Fn (λ_=>rfl) (DY k hs G.E hv wd hm h1 λh' he hi' g3=>?_))
 refine xU he λp=>?_
 have S3:qV C sc env (Dw x 0 false .un) {s with heap:=h'}:=qV.mk (t1:=t1') (tk:=tk) hs G.nc (wd.grow (W:=λ_=>False) (Wg:=cx) g3.of0 λ_ w=>w.elim) (Ns.at hm λo e=>g3.heap _ _ (λw=>w) e) h1 h2 h3 h0
 exact DW F G rfl ⟨R2 _ _ _ _ _ _,rfl,rfl⟩ (λpv b c s₀ s hc hp ht S htr g=>seg_leaf (.ok .next) (DX F G ⟨R1,rfl,rfl⟩ hc hp ht S htr g)) x.cps.toList 0 false s₀ {s with heap:=h'} ⟨0,.un,.none,rfl,rfl,(λq=>by cases q),⟨[],rfl⟩,rfl,S3,he,hi',(g0.trans g3.of0 (W':=λ_=>False) (Wg':=cx) (λ_ w=>w.elim) (λ_ w=>w.elim)).mono (λb w=>.inl (.inl w)) λ_ w=>.inl w⟩ (bH _)
theorem DV{elts:List Expr}{x1:Nat}{tp:Pos}{t1 t2 t3 y1 y2 y3:Expr}{a3 a4:Stmt}{A:Around}{cd:Code}{x:Str}{tk:Tok}{body:List Stmt}{s:ab}{m:Str->Option Value}{H0:Value->Sem Fin}(k:dk C)
  (hbody:nq elts x1 tp t1 t2 t3 y1 y2 y3 a3 a4 body)
  (F:tL C (N+2) sc (.Tuple elts x1 tp) t1 t2 t3 y1 y2 y3 a3 a4)(R1:bj (N+2) (A.over cd []))(R2:∀tg it b' kk l p,bj (N+2) (A.over (.forLoop tg it b' [] env) [.ret kk none false l cd p []]))(hs:sc.names=j0)(hv:Gb C "enumerate" (.type "enumerate"))
  (wd:Wd C s)(hm:s.heap.Ns env.locals m)(h1:m "addr"=some (.str x tk))(h0:C.h₀.get? env.locals=none/\env.locals≠C.tab)(G:BB C sc env x env.locals (s.heap.objs.size+1) s.heap.objs.size):
  tI C A (B4 false x.cps.toList) (dX 0 false x.cps.toList) env.locals (s.heap.objs.size+1) s.heap.objs.size (dX 0 false x.cps.toList).length s cd ((kj body env).wrap (λf=>.pure (.done (.ret (match f with|.ret v=>v|_=>.none)))) H0 id id) [] s:=by
 have hp:(env.scope.kind== .class||(env.scope.kind== .module&&env.locals != env.globals))=false:=by rw[G.E.scope,G.E.kind];rfl
 have kl1:env.kindOf "pos"=some .local:=G.E.at (i:=1) (by rw[hs];rfl)
 have kl2:env.kindOf "escape"=some .local:=G.E.at (i:=2) (by rw[hs];rfl)
 obtain⟨⟩:=hbody
 refine dm (oP (cJ (dH (gj kl1 hm (λh₁ hm1 hs1=>?_) hp)) (by rfl)))
 refine dm (oP (cJ (uN (gj kl2 hm1 (λh₂ hm2 hs2=>?_) hp)) (by rfl)))
 have g1:aH (λb=>b=env.locals) cx s {s with heap:=h₁,toks:=s.toks+2}:=fQ hm hs1 rfl (aF _ 2)
 have g12:=g1.trans1 (fQ (W:=λb=>b=env.locals) (t:=s.toks+3) hm1 hs2 rfl (a8 _))
 have wd2:=wd.grow g12 (λb w=>w▸h0)
 have z2:s.heap.objs.size=h₂.objs.size:=(hs2.1.trans hs1.1).symm
 rw[z2]at G ⊢
 exact xo (s:={s with heap:=h₂,toks:=s.toks+3}) k F R1 R2 hs hv wd2 hm2 (by rw[if_neg (by decide+kernel),if_neg (by decide+kernel)];exact h1) (by rw[if_neg (by decide+kernel),if_pos rfl]) (if_pos rfl) g12 h0 G
theorem Bc{elts:List Expr}{x1:Nat}{tp:Pos}{t1 t2 t3 y1 y2 y3:Expr}{a3 a4:Stmt}{A:Around}{x:Str}{tk:Tok}{body:List Stmt}{s:ab}{m:Str->Option Value}(k:dk C)
  (hbody:nq elts x1 tp t1 t2 t3 y1 y2 y3 a3 a4 body)
  (F:tL C (N+2) sc (.Tuple elts x1 tp) t1 t2 t3 y1 y2 y3 a3 a4)(RA:bj (N+4) A)(hs:sc.names=j0)(E:aY sc env)(hco:env.scope.isCoroutine=false)(hi:gW env=false)(nc:∀x,env.cells.lookup x=none)(hv:Gb C "enumerate" (.type "enumerate"))
  (wd:Wd C s)(hm:s.heap.Ns env.locals m)(h1:m "addr"=some (.str x tk))(h0:C.h₀.get? env.locals=none/\env.locals≠C.tab)(hok:bk x=true):
  tI C A (B4 false x.cps.toList) (dX 0 false x.cps.toList) env.locals (s.heap.objs.size+1) s.heap.objs.size (dX 0 false x.cps.toList).length s (.func body env) (C.M.den (.func body env)) [] s:=
 have hlt:env.locals < s.heap.objs.size:=hm.lt
 seg_func (DV k hbody F ((bj.func (n:=N+3) RA).less (a8 _)) (λ_ _ _ _ _ _=>(bj.loop (n:=N+3) RA).less (a8 _)) hs hv wd hm h1 h0
  ⟨E,hco,hi,nc,rfl,eR _,⟨aK (iN hlt),aK hlt⟩,λb hb=>uq wd b (hb.elim (λq=>q▸a8 _) λq=>q▸ai _),hok⟩)
end
theorem pL{s:ab}{g j:Nat}{x:hK}(h:j≠g):(s.setGen g x).gens[j]? =s.gens[j]? :=(tu s g x).2 j h
theorem mO{h h':Heap}{a:Addr}{g:Nat}(i:h.IsGen a g)(k:∀o,h.get? a=some o->h'.get? a=some o):h'.IsGen a g:=by refine I8 i λo nm qn e1 r=>?_;exact Y3 o nm qn ⟨k o e1,r⟩
theorem si{h:Heap}{a:Addr}{g:Nat}(i:h.IsGen a g):∃o,h.get? a=some o/\sQ o:=by refine Ky i λo _ _ e1 ec _=>?_;exact⟨o,e1,.of (by rw[ec];decide)⟩
theorem mE{s:ab}{g:Nat}{x:hK}(hx:x.bare=true)(h:AllBare s.gens):AllBare (s.setGen g x).gens:=by
 intro y hy
 obtain⟨i,hi,rfl⟩:=Array.mem_iff_getElem.mp hy
 by_cases e:i=g
 ·subst e
  rw[ao ((bn hi).symm.trans (setGen_self (s:=s) (g:=i) (x:=x) (bn (cX hi (tu s i x).1))))];exact hx
 ·refine cU (Array.getElem?_eq_some_iff.mp ((pL (s:=s) (x:=x) e).symm.trans (bn hi))) λhi' e'=>?_
  exact e'▸h _ (Array.getElem_mem hi')
theorem Wd.setGen{C:Cx}{s:ab}{g:Nat}{x:hK}(w:Wd C s)(hx:x.bare=true):Wd C (s.setGen g x):=
 ⟨w.kept,w.tab,w.os,w.toks,mE hx w.bare⟩
theorem aH.turn{W pr:Addr->Prop}{s₁ s₂:ab}{g:Nat}{x y:hK}{h':Heap}(hx:x.bare=true)(hy:y.bare=true)(hw:∀b,W b->pr b\/s₁.heap.objs.size<=b)(gr:aH W cx (s₁.setGen g x) s₂)(hk:∀b o,s₂.heap.get? b=some o->h'.get? b=some o)(hsz:s₁.heap.objs.size<=h'.objs.size)(ht:s₁.toks<=s₂.toks):
  aH pr (λj=>j=g) s₁ {s₂.setGen g y with heap:=h'}:=
 ⟨λb o hb e=>hk b o (gr.heap b o (λw=>(hw b w).elim hb λq=>absurd (aC e) (Nat.not_lt.mpr q)) e),λb o hc hd e=>hk b o (gr.tup b o hc hd e),hsz,
  λi z hi e=>(pL (s:=s₂) hi).trans (gr.gens i z (λw=>w) ((pL (s:=s₁) hi).trans e)),
  ah (aJ (tu s₁ g x).1.symm) (ah gr.gsize (aJ (tu s₂ g y).1.symm)),
  λhb=>mE (s:=s₂) hy (gr.bare (mE hx hb)),gr.os,ht⟩
section
variable{C:Cx}{n:Nat}{tr:Bool}{rest tot:List (Nat × Str)}{L e it a:Addr}{g:Nat}{pr:Addr->Prop}{s₁ s₂:ab}
structure Lo(C:Cx)(n:Nat)(tr:Bool)(tot rest:List (Nat × Str))(L e it:Addr)(g:Nat)(s:ab)(gs:hK):Prop where
 at_:s.gens[g]? =some gs
 hist:∃pre,tot=pre++rest
 goes:∀s'',Wd C s''->(∀b,GN tr L e it rest.length b->∀o,s.heap.get? b=some o->s''.heap.get? b=some o)->gs.Goes C.M (AM n).in1 (Rg tr L e it) (Yg C tr tot L e it) rest.length (.send .none) s''
inductive EL(C:Cx)(n:Nat)(tr:Bool)(tot rest:List (Nat × Str))(L e it a:Addr)(g:Nat)(pr:Addr->Prop)(s₁:ab)(d:Nat × Str)(s₂:ab)(v:Value):Prop where
 |mk (gs:hK) (rd:∀ok,Rd ok s₂.heap v (wq d)) (gr:aH pr (λj=>j=g) s₁ s₂) (hg:s₂.heap.IsGen a g) (nl:qU (GN tr L e it rest.length) s₂.heap) (ga:Lo C n tr tot rest L e it g s₂ gs)
def EM(C:Cx)(n:Nat)(tr:Bool)(tot:List (Nat × Str))(L e it a:Addr)(g:Nat)(pr:Addr->Prop)(s₁:ab)(l:List (Nat × Str))(r:Option Value)(s₂:ab):Prop:=
 l.casesOn (r=none/\aH pr (λj=>j=g) s₁ s₂) λd rest=>∃v,r=some v/\EL C n tr tot rest L e it a g pr s₁ d s₂ v
theorem yH{v:Value}{gs':hK}{kap:Resume->ab->Prop}(hg:s₁.heap.IsGen a g){gs:hK}(hgs:s₁.gens[g]? =some gs)(hal:a≠L/\a≠e/\a≠it)(hpr:∀b,b=L\/b=e\/b=it->pr b\/s₁.heap.objs.size<=b)(ht:∃pre,tot=pre++rest)(hb:gs'.bare=true)
  (hv:Yg C tr tot L e it (rest.length - 1) (s₁.setGen g .running) v s₂ kap)(hn:rest=[]->∀s,kap (.send .none) s->False)(hk:∀d r',rest=d::r'->∀s,kap (.send .none) s->gs'.Goes C.M (AM n).in1 (Rg tr L e it) (Yg C tr tot L e it) r'.length (.send .none) s)(htk:s₁.toks<=s₂.toks)(hsz:s₁.heap.objs.size<=s₂.heap.objs.size):
  EM C n tr tot L e it a g pr s₁ rest (some v) (s₂.setGen g gs'):=by
 refine Jp hv λhY0 gr hnl wd₂ hk'=>?_;obtain⟨d,rest₂,hl,⟨pre,ht₂⟩,rd⟩:=hY0
 cases rest with
 |nil=>exact(hn rfl _ (hk' s₂ wd₂ λ_ _ _ e=>e)).elim
 |cons d' rest'=>
  obtain⟨pre',ht'⟩:=ht
  have e1:pre'++d'::rest'=pre++d::rest₂:=ht'.symm.trans ht₂
  cases List.append_inj_right' e1 (congrArg nz (show rest₂.length=rest'.length from hl).symm)
  exact⟨v,rfl,⟨gs',rd,gr.turn rfl hb hpr (λ_ _ e=>e) hsz htk,mO hg λo e=>gr.heap a o (λw=>w.elim hal.1 λw=>w.elim hal.2.1 hal.2.2) e,hnl,
   setGen_self (gr.gens g _ (λw=>w) (setGen_self hgs)),⟨pre++[d],by rw[ht₂,aR];rfl⟩,λs'' wd'' hk''=>hk d _ rfl _ (hk' s'' wd'' hk'')⟩⟩
theorem sm{A:Around}{gs:hK}(k:dk C)(R:bj n A)(hn:n<=200)(wd:Wd C s₁)(hg:s₁.heap.IsGen a g)(hgs:s₁.gens[g]? =some gs)
  (hgo:gs.Goes C.M (AM n).in1 (Rg tr L e it) (Yg C tr tot L e it) rest.length (.send .none) (s₁.setGen g .running))(ht:∃pre,tot=pre++rest)(hal:a≠L/\a≠e/\a≠it)
  (hpr:(rest≠[]\/tr=false)->∀b,b=L\/b=e\/b=it->pr b\/s₁.heap.objs.size<=b):
  ar C.M A (ew (.ref a)) (EM C n tr tot L e it a g pr s₁ rest) bJ s₁:=by
 have RM:=bj.am hn
 refine BR R (bR (CY RM.hh (wd.nolimit k) RM.depth hg hgs hgo (λv s₂ gs' hb hv htk hsz=>?_) (λs₂ hp h' hk htk hsz=>?_)))
 ·cases rest with
  |nil=>let⟨_,_,_,wd₂,hk⟩:=hv;exact(hk s₂ wd₂ λ_ _ _ e=>e).elim
  |cons d' rest'=>exact yH hg hgs hal (hpr (.inl (List.cons_ne_nil _ _))) ht hb hv (λq=>nomatch q) (λd r' q s h=>(c7 q).2▸h) htk hsz
 ·obtain⟨hr,gr⟩:=hp
  cases rest with
  |cons _ _=>exact nomatch hr
  |nil=>exact⟨rfl,aH.turn rfl rfl (λb w=>hpr (.inr w.1) b w.2) gr hk hsz htk⟩
theorem iw.gen{pr:Addr->Prop}{pg:Nat->Prop}{okI:Addr->Prop}{s s₁:ab}{i:Nat}{x:hK}(k:iw pr pg okI s s₁)(hp:pg i)(e:s.gens[i]? =some x):s₁.gens[i]? =some x:=
 by obtain⟨W,g,h⟩:=k;exact g.gens i x (λw=>w hp) e
theorem qv{tg:Expr}{okI:Addr->Prop}{d:Nat × Str}{v:Value}{A:Around}{F:(Addr->Prop)->ab->Prop}(y:EL C n tr tot rest L e it a g pr s₁ d s₂ v)(hp:∀b,b=a\/GN tr L e it rest.length b->pr b\/s₁.heap.objs.size<=b)
  (h:∀gs,s₂.heap.IsGen a g->Lo C n tr tot rest L e it g s₂ gs->F (λb=>b=a\/GN tr L e it rest.length b) s₂):
  ar C.M A (cD tg (.ref a) v) (λ_ s₃=>Rd okI s₃.heap v (wq d)/\aH pr (λj=>j=g) s₁ s₃/\∃pr',(∀b,pr' b->pr b\/s₁.heap.objs.size<=b)/\qU pr' s₃.heap/\F pr' s₃) bJ s₂:=by
 refine nG λkG=>?_;obtain⟨gs,rd,gr,hg,nl,ga⟩:=y
 refine Ky (id hg) λo _ _ e1 ec _=>?_
 refine kG ?_
 exact mU e1 ec (by decide) ⟨rd okI,gr,_,hp,λb hb=>hb.elim (λq=>q▸si hg) (nl b),h gs hg ga⟩
theorem Dl{tg:Expr}{okI:Addr->Prop}(k:dk C)(hn:n<=200)(hal:a≠L/\a≠e/\a≠it):∀(gs:hK) (s:ab),s.heap.IsGen a g->Lo C n tr tot rest L e it g s gs->
  nH C n tg okI (λj=>j=g) (.ref a) (λb=>b=a\/GN tr L e it rest.length b) (rest.map wq) s:=by
 have kp':∀{r:List (Nat × Str)},(r≠[]\/tr=false)->∀b,b=L\/b=e\/b=it->(b=a\/GN tr L e it r.length b):=λq b hb=>.inr (hb.imp id λhb=>⟨λz=>q.elim (λq=>q (List.length_eq_zero_iff.mp z.1)) (λq=>nomatch q.symm.trans z.2),hb⟩)
 induction rest with
 |nil=>
  exact λgs s hg ga A s₁ R wd kp=>sm (rest:=[]) k R hn wd (mO hg λo e=>kp.obj (.inl rfl) e) (kp.gen rfl ga.at_) (ga.goes _ (wd.setGen rfl) λb hb o e=>kp.obj (.inr hb) e) ga.hist hal λq b hb=>.inl (kp' q b hb)
 |cons d rest ih=>
  exact λgs s hg ga A s₁ R wd kp=>al (sm (rest:=d::rest) (pr:=λb=>b=a\/GN tr L e it (d::rest).length b) k R hn wd (mO hg λo e=>kp.obj (.inl rfl) e) (kp.gen rfl ga.at_) (ga.goes _ (wd.setGen rfl) λb hb o e=>kp.obj (.inr hb) e) ga.hist hal λq b hb=>.inl (kp' q b hb))
    (by rintro r s₂ ⟨v,hr,y⟩;exact⟨v,hr,qv y (λb hb=>.inl (hb.imp id λhb=>hb.imp id λhb=>⟨λz=>(nomatch z.1),hb.2⟩)) λgs hg ga=>ih gs s₂ hg ga⟩) λ_ _ x=>x
end
structure Ag(C:Cx)(a:Addr)(fd:FuncData)(body:List Stmt):Prop where
 na:a≠C.tab
 obj:∃o,C.h₀.get? a=some o/\o.data=.func fd
 co:fd.scope.isCoroutine=false
 gen:fd.scope.isGenerator=true
 body:fd.body=.stmts body
 kind:fd.scope.kind=.function
 glob:fd.globals=mainGlobals
 bi:fd.builtins=eY
 clo:fd.closure=[]
 code:∃c o vs t,fd.code=.ref c/\c≠C.tab/\C.h₀.get? c=some o/\o.data=.fields vs/\vs[1]? =some (.str fd.qualname t)
 names:fd.scope.names=j0
inductive GQ(C:Cx)(fd:FuncData)(body:List Stmt)(y:Str)(t:Tok)(s₁:ab)(b:Addr)(s₃:ab):Prop where
 |mk (env:Env) (m:Str->Option Value) (E:aY fd.scope env) (nc:∀x,env.cells.lookup x=none) (hl:env.locals=s₁.heap.objs.size) (hb:s₁.heap.objs.size < b) (hn:s₃.heap.Ns env.locals m) (hm:m "addr"=some (.str y t)) (hg:s₃.heap.IsGen b s₁.gens.size) (hgs:s₃.gens[s₁.gens.size]? =some (.fresh (.func body env))) (g:bG s₁ s₃)
section
variable{C:Cx}{N:Nat}{sc:Scope}
theorem yt{s:ab}{h₁:Heap}{o:Obj}{x:hK}{n:Nat}(hx:x.bare=true)(hz:s.heap.objs.size<=h₁.objs.size)(hk:∀b o,s.heap.get? b=some o->h₁.get? b=some o):
  bG s {s with heap:=h₁.push o,gens:=s.gens.push x,toks:=s.toks+n}:=
 ⟨λb o _ e=>aA _ (hk b o e),λb o _ _ e=>aA _ (hk b o e),ah hz (ah (a8 _) (aJ (aZ ..).symm)),λi z _ e=>(Array.getElem?_push_lt (Array.getElem?_eq_some_iff.mp e).1).trans ((bn _).symm.trans e),
  ah (a8 _) (aJ (oE ..).symm),λhb z hz=>(Array.mem_push.mp hz).elim (hb z) λq=>q▸hx,rfl,aF _ _⟩
theorem Dz{A:Around}{a:Addr}{fd:FuncData}{body:List Stmt}{y:Str}{t:Tok}{s₁:ab}{Q:Value->ab->Prop}(k:dk C)(hroom:A.depth < recursionLimit)(G:Ag C a fd body)(hb:∀s v,Wd C s->ik s fd ⟨[v],[]⟩ [("addr",v)])(wd:Wd C s₁)
  (h:∀b s₃,GQ C fd body y t s₁ b s₃->Q (.ref b) s₃):ar C.M A (call (.ref a) [.str y t]) Q bJ s₁:=by
 refine a7 G.obj λo ho hdd=>?_
 refine Kv G.code λc co cvs ct c1 c2 c3 c4 c5=>?_
 refine i9 (codeAny_call_generator hroom (wd.kept _ _ G.na ho) hdd G.co G.gen G.body ⟨c,co,cvs,ct,c1,wd.kept _ _ c2 c3,c4,c5⟩ (hb s₁ _ wd _ _ _ _ ?_))
 rw[G.clo]
 simp only[gV,rC,cY,if_false]
 refine aa (BD (aa (sV _ (λname kind cells=>by cases hkc:kind==cG<;>simp[hkc]) _ _ _ _ ?_)))
 rw[G.names,show ∀h:Heap,mZ h j0=h from λ_=>rfl,show ∀i:Nat,cellsFrom i j0 []=[]from λ_=>rfl]
 refine xh (({scope:=fd.scope,locals:=s₁.heap.objs.size,globals:=fd.globals,cells:=[],qual:=fd.qualname++".<locals>.",func:=some a,code:=fd.code,frame:=some s₁.heap.objs.size,builtins:=fd.builtins}:Env)) ?_;intro env henv
 have hE:aY fd.scope env:=henv▸⟨rfl,G.kind,G.glob,G.bi,.nil,by rw[G.names];decide+kernel⟩
 have hloc:env.locals=s₁.heap.objs.size:=henv▸rfl
 have nc:∀x,env.cells.lookup x=none:=λx=>henv▸rfl
 have hns:(s₁.heap.push {cls:=.type "frame",data:=.dict #[]}).Ns env.locals (λ_=>none):=hloc▸⟨_,#[],0,aB _ rfl,rfl,λe m=>(by simp at m),λx=>rfl⟩
 have hp:(env.scope.kind== .class||(env.scope.kind== .module&&env.locals != env.globals))=false:=by rw[hE.scope,G.kind];rfl
 clear henv
 refine aa ?_
 rw[cN]
 refine aa (aa (gj (hE.at (i:=0) (by rw[G.names];rfl)) hns (λh₁ hn1 hs1=>aq ?_) hp))
 refine aq (aq ?_)
 have hz2:h₁.objs.size=s₁.heap.objs.size+1:=hs1.1.trans (aZ ..)
 have hk:∀b o,s₁.heap.get? b=some o->h₁.get? b=some o:=λb o e=>(hs1.2 b λq=>absurd (aC (q▸e)) (hloc▸fw _)).trans (aA _ e)
 have hz:s₁.heap.objs.size<=h₁.objs.size:=hz2▸a8 _
 refine⟨(wd.grow (W:=λ_=>False) (Wg:=cx) (s':={s₁ with heap:=h₁,toks:=s₁.toks+1}) (aH.of0 (.of_keep (t:=s₁.toks+1) (a8 _) hz hk)) λ_ w=>w.elim).nolimit k,?_⟩
 exact h _ _ ⟨env,_,hE,nc,hloc,hz2▸bC _,Ns.at hn1 λo e=>aA _ e,if_pos rfl,Y3 _ _ _ ⟨aB h₁ rfl,rfl,rfl,rfl⟩,by simp,yt (n:=3) rfl hz hk⟩
theorem Bb{elts:List Expr}{x1:Nat}{tp:Pos}{t1 t2 t3 y1 y2 y3:Expr}{a3 a4:Stmt}{a:Addr}{fd:FuncData}{body:List Stmt}{tg:Expr}{y:Str}{t:Tok}{s₁ s₃:ab}{b:Addr}{okI:Addr->Prop}(k:dk C)(hN:N+5<=200)(G:Ag C a fd body)
  (hbody:nq elts x1 tp t1 t2 t3 y1 y2 y3 a3 a4 body)(F:tL C (N+2) fd.scope (.Tuple elts x1 tp) t1 t2 t3 y1 y2 y3 a3 a4)(hv:Gb C "enumerate" (.type "enumerate"))(hok:bk y=true){env:Env}{m:Str->Option Value}(E:aY fd.scope env)(nc:∀x,env.cells.lookup x=none)(hbl:b≠env.locals)(h0:C.h₀.get? env.locals=none/\env.locals≠C.tab)
  (hn:s₃.heap.Ns env.locals m)(hm:m "addr"=some (.str y t))(hg:s₃.heap.IsGen b s₁.gens.size)(hgs:s₃.gens[s₁.gens.size]? =some (.fresh (.func body env))):
  nH C (N+5) tg okI (λj=>j=s₁.gens.size) (.ref b) (λx=>x=b\/x=env.locals) ((dX 0 false y.cps.toList).map wq) s₃:=by
 have hal:∀s₄:ab,s₄.heap.IsGen b s₁.gens.size->b≠env.locals/\b≠s₄.heap.objs.size+1/\b≠s₄.heap.objs.size:=by rintro s₄ ⟨o,_,_,e,_⟩;exact⟨hbl,aK (iN (aC e)),aK (aC e)⟩
 have hpr:∀(s₄:ab) (x:Addr),x=env.locals\/x=s₄.heap.objs.size+1\/x=s₄.heap.objs.size->(x=b\/x=env.locals)\/s₄.heap.objs.size<=x:=λs₄ x hx=>hx.elim (λq=>.inl (.inr q)) λq=>.inr (q.elim (λq=>q▸a8 _) λq=>q▸ai _)
 have stp:∀(A':Around) (s₄:ab),bj (N+5) A'->Wd C s₄->iw (λx=>x=b\/x=env.locals) (λj=>j=s₁.gens.size) okI s₃ s₄->s₄.heap.IsGen b s₁.gens.size/\ar C.M A' (ew (.ref b)) (EM C (N+5) (B4 false y.cps.toList) (dX 0 false y.cps.toList) env.locals (s₄.heap.objs.size+1) s₄.heap.objs.size b s₁.gens.size (λx=>x=b\/x=env.locals) s₄ (dX 0 false y.cps.toList)) bJ s₄:=
  λA' s₄ R' wd' kp=>by
   have hg4:=mO hg λo e=>kp.obj (.inl rfl) e
   refine⟨hg4,sm k R' hN wd' hg4 (kp.gen rfl hgs) ⟨rfl,?_⟩ ⟨[],rfl⟩ (hal s₄ hg4) λ_=>hpr s₄⟩
   exact Bc (A:=(AM (N+5)).in1) (s:=s₄.setGen s₁.gens.size .running) (tk:=t) k hbody F (bj.am hN).in1 G.names E (by rw[E.scope];exact G.co) (by unfold gW;rw[E.scope,G.kind];rfl) nc hv (wd'.setGen rfl) (Ns.at hn λo e=>kp.obj (.inr rfl) e) hm h0 hok
 generalize htr:B4 false y.cps.toList=tr at stp
 generalize htot:dX 0 false y.cps.toList=tot at stp ⊢
 cases tot with
 |nil=>exact λA' s₄ R' wd' kp=>(stp A' s₄ R' wd' kp).2
 |cons d rest=>
  exact λA' s₄ R' wd' kp=>by refine(λhg4 st=>?_) (stp A' s₄ R' wd' kp).1 (stp A' s₄ R' wd' kp).2;exact al st (by rintro r s₅ ⟨v,hr,q⟩;exact⟨v,hr,qv q (λx hx=>hx.elim (λq=>.inl (.inl q)) λq=>hpr s₄ x (q.imp id (·.2))) λgs hg ga=>Dl k hN (hal s₄ hg4) gs s₅ hg ga⟩) λ_ _ x=>x
theorem SI.genOf{elts:List Expr}{x1:Nat}{tp:Pos}{t1 t2 t3 y1 y2 y3:Expr}{a3 a4:Stmt}{a:Addr}{fd:FuncData}{body:List Stmt}{e tg:Expr}{ae:DE}{p pos:Pos}{x:Str}(k:dk C)(hN:N+5<=200)(G:Ag C a fd body)
  (hbody:nq elts x1 tp t1 t2 t3 y1 y2 y3 a3 a4 body)(F:tL C (N+2) fd.scope (.Tuple elts x1 tp) t1 t2 t3 y1 y2 y3 a3 a4)(hv:Gb C "enumerate" (.type "enumerate"))(hg:Gb C x (.ref a))(hb:∀s v,Wd C s->ik s fd ⟨[v],[]⟩ [("addr",v)])
  (hx:nF sc.names x .globalImplicit)(ha:SE C (N+5) sc e ae)(hs:bt [e]=true)(hd:(x==("__debug__":Str))=false):SI C (N+5) sc (.Call (.Name x p) [e] [] pos) tg (.esc ae):=.of λρ lx fz Q h=>by
 obtain⟨o,hX⟩:=G.obj;refine(λho hdd=>?_) hX.1 hX.2
 have hE:qX C (N+5) sc [e] ρ lx λrs l=>∃y,rs=[.dat (.str y)]/\bk y=true/\fz=true/\Q (D1 y) l:=ha.ok (Q:=λr l=>∃y,[r]=[.dat (.str y)]/\bk y=true/\fz=true/\Q (D1 y) l) (h.bind.mono λp q=>
  iz (P:=λr=>∃y,[r]=[.dat (.str y)]/\bk y=true/\fz=true/\Q (D1 y) p.2) q.bind λy q=>by refine(λg q=>?_) q.iff.1 q.iff.2;exact⟨y,rfl,(Bool.and_eq_true_iff.mp g).2,q.1,q.2⟩)
 refine λA env₀ ok okb og μ s R E S=>rq k hx hg (cV.func G.na ho hdd) hE hs hd R E S λvs s₁ rs lx₁ q rv S1 sa g=>?_
 obtain⟨y,hX⟩:=q;obtain rfl:=hX.1;obtain rfl:=hX.2.2.1;refine(λhok q=>?_) hX.2.1 hX.2.2.2
 obtain⟨v,hX⟩:=jq rv;obtain rfl:=hX.1;refine(λrv1=>?_) hX.2
 obtain⟨t,rfl⟩:=Rd.str_inv rv1
 refine Dz (body:=body) k R.depth G hb S1.wd λb s₃ M=>?_
 refine nG λkG=>?_;obtain⟨env,m,hE,nc,hl,hb',hn,hm,hgen,hgs,g3⟩:=M
 refine kG ?_
 have ap:=S1.wx.apart (b:=s₁.heap.objs.size) (ai _)
 refine wpAny_pyIter_gen hgen ⟨D1 y,lx₁,_,λj=>j=s₁.gens.size,q,sa,S1.lxr.grow0 g3,g.trans0 g3,λx hx=>hx.elim (λq=>q▸ah g.size (bf hb')) λq=>q▸hl▸g.size,λx hx=>hx.elim (λq=>q▸si hgen) λq=>q▸by refine nG λkG=>?_;obtain⟨o,_,_,f1,f2,_⟩:=hn;refine kG ?_;exact⟨o,f1,λ_ _ _ e=>by cases f2.symm.trans e⟩,λi hi=>hi▸iP g.gsize,λA' s' Q' R' kp h=>wpAny_pyIter_gen (mO hgen λo e=>kp.obj (.inl rfl) e) h,
  Bb k hN G hbody F hv hok hE nc (hl▸cq hb') (hl▸ap.2) hn hm hgen hgs⟩
end
set_option maxRecDepth 100000 in
theorem oN:Slot "callable_iterator" "__iter__" "callable_iterator.__iter__":=
 .of (owner:="callable_iterator") (n:="__iter__") (by rw[mf,gq];kernel_rfl) (by decide+kernel) (by decide+kernel) (by decide+kernel)
  (by first|exact .inl (by decide+kernel)|exact .inr (by decide+kernel)) (by rw[isSubtype_type];kernel_rfl)
set_option maxRecDepth 100000 in
theorem gK:Slot "callable_iterator" "__next__" "callable_iterator.__next__":=
 .of (owner:="callable_iterator") (n:="__next__") (by rw[mf,gq];kernel_rfl) (by decide+kernel) (by decide+kernel) (by decide+kernel)
  (by first|exact .inl (by decide+kernel)|exact .inr (by decide+kernel)) (by rw[isSubtype_type];kernel_rfl)
theorem nM:entryFor table "callable_iterator.__next__"=some Builtin.«callable_iterator.__next__»:=entryFor_of_fast (by kernel_rfl)
theorem tE:entryFor table "callable_iterator.__iter__"=some Builtin.«dict_keyiterator.__iter__»:=
 entryFor_alias (id':="dict_keyiterator.__iter__") (by kernel_rfl) rfl (by decide+kernel) (by kernel_rfl)
theorem vS(a:Value):argsOk "callable_iterator.__iter__" ⟨[a],[]⟩:=by unfold argsOk;kernel_rfl
theorem pn(a:Value):argsOk "callable_iterator.__next__" ⟨[a],[]⟩:=by unfold argsOk;kernel_rfl
section
variable{C:Cx}{A:Around}{s:ab}
theorem wB{α:Type}{Q:α->ab->Prop}{E:Value->ab->Prop}(hh:A.handled=none)(h:∀e h',(∀b o,s.heap.get? b=some o->h'.get? b=some o)->s.heap.objs.size<=h'.objs.size->(∃o,h'.get? e=some o/\o.cls=.type "StopIteration")->E (.ref e) {s with heap:=h'}):
  ar C.M A (jR:Sem α) Q E s:=by
 unfold jR
 refine aa ?_
 simp only[newExc,newTuple]
 refine aa (cI ?_ (by size_fits))
 refine aa (m:=sZ _ _) (fF (a:=ez) (by first|rfl|(simp only[sZ];rfl)) ?_)
 refine cI ?_ (by size_fits)
 simp only[raiseNew]
 refine aa (wpAny_handled ?_)
 rw[hh]
 refine aa (aq (wpAny_throw ?_))
 exact h _ _ (λb o e=>aA _ (aA _ e)) (by simp only[aZ];exact J1 [] Q0 (Qs (Qs Q0 1) 1) 1 [] Qt) ⟨_,aB _ rfl,rfl⟩
theorem qB{bm f:Addr}{self:Value}{of:Obj}{fd:FuncData}{Q:Bool->ab->Prop}{E:Value->ab->Prop}(hbm:s.heap.get? bm=some (jE (.ref f) self))(hf:s.heap.get? f=some of)(hd:of.data=.func fd)(h:Q true s):
  ar C.M A (borrowsExactly (.ref bm)) Q E s:=by
 unfold borrowsExactly
 refine aa (wg hbm ?_)
 show ar _ _ (load f >>= _) _ _ _
 refine aa (wg hf ?_)
 rw[hd]
 exact aq h
theorem Eg{it:Addr}{x y:Value}{Q:Option Value->ab->Prop}(hh:A.handled=none)(hit:s.heap.get? it=some (iZ x y (.bool true)))(h:∀h',(∀b o,s.heap.get? b=some o->h'.get? b=some o)->Q none {s with heap:=h'}):
  ar C.M A (ew (.ref it)) Q bJ s:=by
 have hT:s.TypeIs (.ref it) "callable_iterator":=⟨_,hit,rfl⟩
 unfold ew
 refine aa (kW (c9 (name:=ad "__next__") hT gK (dF gK hT nM ?_ (pn _))))
 show ar _ _ (vZ (.ref it) 2 >>= _) _ _ s
 refine aa (c8 hit rfl (x:=.bool true) rfl ?_)
 show ar _ _ (rule _ >>= λ_=>(jR >>= _)) _ _ _
 refine aa (wf (aa (wB (A:=A.in1) hh λe h' hk _ he=>?_)))
 obtain⟨o,hX⟩:=he;refine(λe1 e2=>?_) hX.1 hX.2
 refine aa (pq (T:="StopIteration") (b:=true) ⟨o,e1,e2⟩ sY ?_)
 exact aq (h _ hk)
theorem Go{it bm f:Addr}{self:Value}{t0:Tok}{of:Obj}{fd:FuncData}{Q:Option Value->ab->Prop}(hh:A.handled=none)(hit:s.heap.get? it=some (iZ (.ref bm) (.str "" t0) (.bool false)))(hbm:s.heap.get? bm=some (jE (.ref f) self))
  (hf:s.heap.get? f=some of)(hd:of.data=.func fd)
  (hc:ar C.M A.in1 (callBorrowed (.ref bm)) (λr s'=>∃z tz,r=.str z tz/\s'.heap.get? it=some (iZ (.ref bm) (.str "" t0) (.bool false))/\s'.heap.get? bm=some (jE (.ref f) self)/\s'.heap.get? f=some of/\
   (z≠""->Q (some (.str z tz)) s')/\(z=""->∀h',(∀b o,b≠it->s'.heap.get? b=some o->h'.get? b=some o)->h'.get? it=some (iZ .none .none (.bool true))->s'.heap.objs.size<=h'.objs.size->Q none {s' with heap:=h'})) bJ s):
  ar C.M A (ew (.ref it)) Q bJ s:=by
 have hT:s.TypeIs (.ref it) "callable_iterator":=⟨_,hit,rfl⟩
 unfold ew
 refine aa (kW (c9 (name:=ad "__next__") hT gK (dF gK hT nM ?_ (pn _))))
 show ar _ _ (vZ (.ref it) 2 >>= _) _ _ s
 refine aa (c8 hit rfl (x:=.bool false) rfl ?_)
 show ar _ _ (vZ (.ref it) 0 >>= _) _ _ s
 refine aa (c8 hit rfl (x:=.ref bm) rfl ?_)
 refine aa (kW ?_)
 unfold callOutOfASlot
 refine aa (qB hbm hf hd ?_)
 rw[if_pos rfl]
 refine al hc (λr s' h'=>?_) λ_ _ x=>x.elim
 obtain⟨z,tz,hX⟩:=h';obtain rfl:=hX.1;refine(λhit' hbm' hf' h1 h2=>?_) hX.2.1 hX.2.2.1 hX.2.2.2.1 hX.2.2.2.2.1 hX.2.2.2.2.2
 show ar _ _ (vZ (.ref it) 2 >>= _) _ _ s'
 refine aa (c8 hit' rfl (x:=.bool false) rfl ?_)
 show ar _ _ (vZ (.ref it) 1 >>= _) _ _ s'
 refine aa (c8 hit' rfl (x:=.str "" t0) rfl ?_)
 refine aa (bg (wpAny_eqBool_str ?_))
 by_cases hz:z=""
 ·subst hz
  have e1:decide (("":Str)="")=true:=decide_eq_true rfl
  rw[e1]
  show ar _ _ (if(!true)=true then _ else _) _ _ _
  rw[if_neg (by decide)]
  refine aa (wf (aa ?_))
  show ar _ _ (vZ (.ref it) 0 >>= _) _ _ _
  refine aa (c8 hit' rfl (x:=.ref bm) rfl ?_)
  have hl:∀{Q':Unit->ab->Prop} {E':Value->ab->Prop} {who:String} {busy:Code->Bool},Q' () s'->ar C.M A.in1 (slotLetsGo who (.ref bm) busy) Q' E' s':=λ{Q' E' who busy} h=>by
   unfold slotLetsGo
   refine aa (qB hbm' hf' hd ?_)
   rw[if_pos rfl]
   exact aq h
  refine aa (hl ?_)
  refine aa (nu hit' (by simp) λh₁ k1 s1=>?_)
  refine aa (nu k1 (by simp) λh₂ k2 s2=>?_)
  refine nu k2 (by simp) λh₃ k3 s3=>?_
  refine wB (A:=A.in1) hh λe h' hk hz he=>?_
  obtain⟨o,hX⟩:=he;refine(λf1 f2=>?_) hX.1 hX.2
  refine aa (pq (T:="StopIteration") (b:=true) ⟨o,f1,f2⟩ sY ?_)
  refine aq (h2 rfl h' (λb ob hb e=>hk _ _ ((s3.2 b hb).trans ((s2.2 b hb).trans ((s1.2 b hb).trans e)))) (hk _ _ (by simpa using k3)) (ah (aJ (s1.1.symm.trans (s2.1.symm.trans s3.1.symm))) hz))
 ·have hz':decide (("":Str)=z)=false:=decide_eq_false λq=>hz q.symm
  rw[hz']
  exact aq ⟨_,rfl,aq (h1 hz)⟩
end
theorem F3{es:Array DictEntry}{name:Str}{m:Str->Option Value}(hs:StrKeys es)(h:Aj es name=m name):getL name es.toList=some (m name):=by
 obtain⟨l⟩:=es
 unfold Aj findBy at h
 rw[List.find?_toArray]at h
 unfold getL
 show(match l.find? (·.key.isStr name)with|some e=>some (some e.val)|none=>if l.any (·.refKey)then none else some none)=_
 cases q:l.find? (·.key.isStr name)with
 |some e=>
  rw[show l.find? (λe=>e.key.isStr name)=some e from q]at h
  exact congrArg some h
 |none=>
  rw[show l.find? (λe=>e.key.isStr name)=none from q]at h
  have hr:l.any (·.refKey)=false:=List.any_eq_false.mpr λe he=>by refine ml (hs e (Array.mem_toArray.mpr he)) λn t e1=>?_;exact by unfold DictEntry.refKey;rw[e1];exact bY
  rw[hr]
  exact congrArg some h
abbrev lexNames:List Str:=["lineno","instream","whitespace","pushback","read"]
structure fv(C:Cx)(K:Frag):Prop where
 inn:K.In C.h₀
 tab:∀p∈K,p.1≠C.tab
 ga:findIn K (.ref C.lexC) "__getattribute__"=some (some (.builtin "object.__getattribute__"))
 gn:findIn K (.ref C.lexC) "__getattr__"=some none
 dict:hasDictIn K C.lexC=true
 sa:findIn K (.ref C.lexC) "__setattr__"=some (some (.builtin "object.__setattr__"))
 po:plainOver K C.lexC=true
 own:∀x∈lexNames,findIn K (.ref C.lexC) x=some none
section
variable{C:Cx}{K:Frag}{A:Around}{s:ab}{n:Nat}{sc:Scope}{ρ:List LV}{i:Nat}{lx:Lx}{a:cH}{t:LexSt}{x name:Str}{kk:az}{p pos:Pos}
theorem fv.at(k:fv C K)(wd:Wd C s):K.In s.heap:=λa o e=>wd.kept a o (k.tab (a,o) (fB e)) (k.inn a o e)
inductive EI(C:Cx)(h:Heap)(x dx:Addr)(name:Str)(v:Option Value):Prop where
 |mk (es:Array DictEntry) (n:Nat) (I:PySem.W.InstAt h x (eI C.lexC dx) C.lexC (some (dictOf es.toList n))) (lk:lookIn name (dictOf es.toList n)=some v)
theorem eU.look{x dx:Addr}{P:(Str->Option Value)->Array DictEntry->Prop}{v:Option Value}(hx:s.heap.get? x=some (eI C.lexC dx))(D:eU s.heap dx P)(hv:∀m es,P m es->m name=v):EI C s.heap x dx name v:=by
 refine nG λkG=>?_;obtain⟨m,es,n,hd,hm,p⟩:=D
 refine Kx hm λo es' ep e1 e2 e3 e4=>?_
 cases(congrArg fW (ao (hd.symm.trans e1))).trans e2
 refine kG ?_
 exact⟨es,n,⟨hx,rfl,rfl,hd⟩,by rw[lookIn_dict,F3 e3 (e4 name),hv m es p]⟩
theorem vh{E:Value->ab->Prop}{Q:Value->ab->Prop}{expr:Bool}{x dx:Addr}{P:(Str->Option Value)->Array DictEntry->Prop}(k:fv C K)(wd:Wd C s)(hx:s.heap.get? x=some (eI C.lexC dx))(D:eU s.heap dx P)
  (hn:name∈lexNames)(h:∀m es,P m es->∃v,m name=some v/\handedIn v=true/\Q v {s with toks:=s.toks+1}):ar C.M A (getAttr (.ref x) name expr) Q E s:=by
 refine nG λkG=>?_;obtain⟨m,es,n,hd,hm,p⟩:=D
 refine jH (h m es p) λv hv hh h=>?_
 obtain⟨_,_,I,lk⟩:=eU.look (P:=λm _=>m name=some v) hx ⟨m,es,n,hd,hm,hv⟩ λ_ _ e=>e
 refine kG ?_
 exact get_value (k.at wd) I k.ga (findObj_own k.dict (k.own name hn) rfl lk) hh h
inductive KF(ρ:List LV)(i:Nat)(lx:Lx)(Q:cH × LexSt->Prop):Prop where
 |mk (a:cH) (t:LexSt) (e0:ρ[i]? =some .lex) (e1:lx=some (a,t)) (q:Q (a,t))
theorem fS{Q:cH × LexSt->Prop}(h:Ok (eM ρ i lx) Q):KF ρ i lx Q:=by
 refine a7 ((Ok.bind h).eq) λlv e h=>?_
 cases lv with
 |lex=>obtain⟨⟨a,t⟩,e1,q⟩:=h.eq;exact⟨a,t,e,e1,q⟩
 |_=>exact h.elim
theorem oY{env:Env}{ok okb:Addr->Prop}{og:Nat->List Addr}{μ:Str->Option Value}{Q:Value->ab->Prop}(b:eP sc.names i x kk)(hk:jW kk)(hd:(x==("__debug__":Str))=false)(e0:ρ[i]? =some .lex)
  (R:bj n A)(E:aY sc env)(S:St C sc env ρ (some (a,t)) ok okb og μ s)(h:∀s',St C sc env ρ (some (a,t)) ok okb og μ s'->cn C a t s'.heap->bG s s'->Q (.ref a.lex) s'):ar C.M A (eval (.Name x p) env) Q bJ s:=
 dG (js E S (b.at e0) hk rfl λv rv _=>by obtain⟨a',t',e2,rfl⟩:=rv;cases e2;exact h s S S.lxr .refl) hd
theorem oZ{env:Env}{ok okb:Addr->Prop}{og:Nat->List Addr}{μ:Str->Option Value}{Q:Value->ab->Prop}(k:fv C K)(b:eP sc.names i x kk)(hk:jW kk)(hd:(x==("__debug__":Str))=false)(hn:name∈lexNames)(e0:ρ[i]? =some .lex)
  (R:bj n A)(E:aY sc env)(S:St C sc env ρ (some (a,t)) ok okb og μ s)(h:∀s' m es,St C sc env ρ (some (a,t)) ok okb og μ s'->cn C a t s'.heap->bG s s'->xJ a t m es->∃v,m name=some v/\handedIn v=true/\Q v s'):ar C.M A (eval (.Attribute (.Name x p) name pos) env) Q bJ s:=
 Attribute_name (oY (p:=p) b hk hd e0 R E S λs' S' l g=>vh k S'.wd l.lex l.lexd hn λm es M=>h _ m es (S'.grow0 .tk1) (l.part λ_ _ _ e=>e) (g.trans .tk1 (λ_ w=>w) λ_ w=>w) M)
theorem w7{d:D}{Q:Va->Lx->Prop}(k:fv C K)(b:eP sc.names i x kk)(hk:jW kk)(hd:(x==("__debug__":Str))=false)(hn:name∈lexNames)(e0:ρ[i]? =some .lex)
  (hv:∀m es,xJ a t m es->∃v,m name=some v/\handedIn v=true/\∀ok h,Rd ok h v d)(q:Q (.dat d) (some (a,t))):Ev C n sc (.Attribute (.Name x p) name pos) ρ (some (a,t)) Q:=λA env ok okb og μ s R E S=>
 oZ k b hk hd hn e0 R E S λs' m es S' l g M=>by refine jH (hv m es M) λv g1 g2 g3=>?_;exact⟨v,g1,g2,.of0 q (g3 _ _) S.lxr g⟩
theorem SE.line(k:fv C K)(b:eP sc.names i x kk)(hk:jW kk)(hd:(x==("__debug__":Str))=false):SE C n sc (.Attribute (.Name x p) "lineno" pos) (.line i):=.of λρ lx Q h=>by
 obtain⟨a,t,e0,rfl,q⟩:=fS (Ok.map h)
 exact w7 k b hk hd (.head _) e0 (λm es M=>by obtain⟨kt,h1⟩:=M.line;exact⟨_,h1,rfl,λ_ _=>Rd.int⟩) q
noncomputable def DE.ws(i:Nat):DE:=λρ lx=>(eM ρ i lx).map λa=>(.dat (.str "\n\t\u000d "),lx)
theorem SE.ws(k:fv C K)(b:eP sc.names i x kk)(hk:jW kk)(hd:(x==("__debug__":Str))=false):SE C n sc (.Attribute (.Name x p) "whitespace" pos) (.ws i):=.of λρ lx Q h=>by
 obtain⟨a,t,e0,rfl,q⟩:=fS (Ok.map h)
 exact w7 k b hk hd (.tail _ (.tail _ (.head _))) e0 (λm es M=>by refine cU M.ws λkt h1=>?_;exact⟨_,h1,rfl,λ_ _=>Rd.str⟩) q
end
section
variable{C:Cx}{K:Frag}{A:Around}{s:ab}{n:Nat}{sc:Scope}{ρ:List LV}{i:Nat}{lx:Lx}{a:cH}{t t':LexSt}{x:Str}{kk:az}{p pos:Pos}{h h':Heap}{b:Addr}
structure cH.Off(a:cH)(b:Addr):Prop where
 lex:b≠a.lex
 st:b≠a.st
 std:b≠a.std
 fn:b≠a.fn
 cell:b≠a.cell
 co:b≠a.co
theorem cn.upd(x:cn C a t h)(hs:∀c,c≠b->h'.get? c=h.get? c)(nl:a.Off b)(hpb:oy h' a.pb t'.push)(hsg:oy h' a.sg t'.rest)(hld:eU h' a.lexd (xJ a t')):cn C a t' h':=
 have k:∀c,b≠c->∀o,h.get? c=some o->h'.get? c=some o:=λc n o e=>(hs c n.symm).trans e
 ⟨k _ nl.lex _ x.lex,hld,hpb,k _ nl.st _ x.st,x.std.at (k _ nl.std),x.fn.at (k _ nl.fn) (k _ nl.co),IsCell.at x.cell (k _ nl.cell),hsg,x.apart⟩
theorem cn.off{o:Obj}(x:cn C a t h)(hb:h.get? b=some o)(hn:b≠a.std)(h1:∀d,o≠eI C.lexC d)(h2:∀fd,o.data≠ .func fd)(h3:∀v,o.data≠ .cell v)(h4:∀vs,o.data≠ .fields vs):a.Off b:=
 have e:∀{c o'},h.get? c=some o'->b=c->o=o':=λe q=>ao (hb.symm.trans (q▸e))
 ⟨λq=>h1 _ (e x.lex q),λq=>h1 _ (e x.st q),hn,λq=>by obtain⟨_,_,_,_,_,e1,e3,_,_,_,_⟩:=x.fn;exact h2 _ ((congrArg fW (e e1 q)).trans e3),λq=>by obtain⟨_,e1,e2⟩:=x.cell;exact h3 _ ((congrArg fW (e e1 q)).trans e2),λq=>by obtain⟨_,_,_,_,_,_,_,_,e1,e3,_⟩:=x.fn;exact h4 _ ((congrArg fW (e e1 q)).trans e3)⟩
theorem eU.ne_lst{P:(Str->Option Value)->Array DictEntry->Prop}{c:Addr}{vs:Array Value}(x:eU h c P)(l:dj h b vs):b≠c:=by
 obtain⟨_,es,n,e1,_,_⟩:=x
 obtain⟨k,hb⟩:=l
 rintro rfl
 exact nomatch(show Data.seq vs k=Data.dict es n from congrArg fW (ao (hb.symm.trans e1)))
theorem wA{r:Va}{Q:Str->Prop}(h:Ok (ia r) Q):∃w,r=.dat (.str w)/\Q w:=iz (P:=λr=>∃w,r=.dat (.str w)/\Q w) h λw q=>⟨w,rfl,q⟩
theorem cn.list_ne{vs:Array Value}(x:cn C a t h)(l:dj h b vs):a.Off b/\b≠a.lexd:=
 by refine cU (id l) λ_ hb=>?_;exact⟨x.off hb (x.std.ne_lst l) (λ_ e=>by cases congrArg fW e) (λ_ e=>by cases e) (λ_ e=>by cases e) λ_ e=>(by cases e),x.lexd.ne_lst l⟩
theorem cn.push_upd{vs:Array Value}{nn:Nat}{ws:List Str}(x:cn C a t s.heap)(hb:IsL s.heap a.pb vs nn)(f:Array Value->Array Value)(r:nj (f vs).toList ws):
  cn C a ⟨ws,t.rest,t.line⟩ (s.heap.update a.pb (aS f))/\aH (W (some (a,t))) cx s {s with heap:=s.heap.update a.pb (aS f)}:=
 have ne:=cn.list_ne x ⟨nn,hb⟩
 have hs:∀c,c≠a.pb->(s.heap.update a.pb (aS f)).get? c=s.heap.get? c:=λc hc=>cy _ _ (Ne.symm hc)
 ⟨x.upd hs ne.1 ⟨_,jT hb f,r⟩ (x.sg.at λo e=>(hs _ (Ne.symm x.apart.1)).trans e) (by obtain⟨m,es,n,g,ns,M⟩:=x.lexd;exact have k:=λo (e:s.heap.get? a.lexd=some o)=>(hs _ (Ne.symm ne.2)).trans e;⟨m,es,n,k _ g,Ns.at ns k,⟨M.line,M.inst,M.ws,M.push,M.rest,M.small⟩⟩),
  (ju hb (aS f)).mono (λc hc=>.inl (.inr (.inl hc))) λ_ w=>w.elim⟩
theorem ve:("pushback":Str)∈lexNames:=.tail _ (.tail _ (.tail _ (.head _)))
theorem rP{m k:Nat}(h:k<=4096)(e:m=k):m<=sizeLine:=e▸ah h (by decide)
noncomputable def DT.pb(i:Nat):DT:=λρ lx=>(eM ρ i lx).bind λa=>if decide (a.2.push.length<=4096)=true then some (!a.2.push.isEmpty,lx)else none
theorem SB.pb(k:fv C K)(b:eP sc.names i x kk)(hk:jW kk)(hd:(x==("__debug__":Str))=false):SB C n sc (.Attribute (.Name x p) "pushback" pos) (.pb i):=.of λρ lx Q h=>by
 obtain⟨a,t,e0,rfl,h2⟩:=fS (Ok.bind h)
 refine(λhz q=>?_) (Ok.iff' h2).1 (Ok.iff' h2).2
 intro A env ok okb og μ s R E S
 show ar _ _ (do let v <-eval (.Attribute (.Name x p) "pushback" pos) env;tM _;kX [v] (truthy v)) _ _ _
 refine aa (oZ k b hk hd ve e0 R E S λs' m es S' l g M=>⟨_,M.push,rfl,aa (cu (bg ?_))⟩)
 obtain⟨vs,lv,r⟩:=l.pb
 have hl:vs.size=t.push.length:=(fk r).symm
 refine xT lv.isList (by have:=ah (aJ hl) hz;exact(E9 this rfl).2) (.of0 ?_ S.lxr (g.trans0 (.tk (t:=s'.toks+1+1) (aF _ 2))))
 have hb:(!t.push.isEmpty)=!vs.isEmpty:=by
  rw[Array.isEmpty,hl]
  cases t.push<;>rfl
 exact(show Q (!t.push.isEmpty) (some (a,t))from q)|> λq=>by rw[hb]at q;exact q
noncomputable def DE.pbPop(i:Nat):DE:=λρ lx=>(eM ρ i lx).bind λa=>if decide (a.2.push.length<=4096)=true then a.2.push.head?.map λw=>(.dat (.str w),some (a.1,⟨a.2.push.tail,a.2.rest,a.2.line⟩))else none
theorem SE.pbPop{p2 p3 apos:Pos}{k0:Nat}(k:fv C K)(b:eP sc.names i x kk)(hk:jW kk)(hd:(x==("__debug__":Str))=false)(hline:(apos.endLine==pos.line)=true):
  SE C n sc (.Call (.Attribute (.Attribute (.Name x p) "pushback" p2) "pop" apos) [.Constant (.int 0) k0 p3] [] pos) (.pbPop i):=.of λρ lx Q h=>by
 refine nG λkG=>?_;obtain⟨a,t,e0,rfl,h2⟩:=fS (Ok.bind h)
 refine kG ?_
 refine en (Ok.iff' h2) λhz h=>?_
 refine a7 ((Ok.map h).eq) λw hw q=>?_
 refine cU (List.head?_eq_some_iff.mp hw) λws hp=>?_
 intro A env ok okb og μ s R E S
 refine dt rfl rfl hline (oZ k b hk hd ve e0 R E S λs' m es S' l g M=>⟨_,M.push,rfl,?_⟩)
 refine nG λkG=>?_;obtain⟨vs,⟨nn,hb⟩,rs⟩:=l.pb
 have hl:vs.size=t.push.length:=(fk rs).symm
 rw[hp]at rs
 obtain⟨v0,vl,ev,⟨tk,rfl⟩,rs2⟩:=mY rs rfl
 obtain⟨vs⟩:=vs
 obtain rfl:=(ev:vs=_)
 refine kG ?_
 have hz2:=rP hz hl
 refine Y2 ("list") ("list.pop") ⟨F.plainAttrs_list,F.slot_list_pop,F.type_list_pop,⟨_,hb,rfl⟩,λc q=>by cases q;exact⟨_,hb,rfl⟩,qI (dH ⟨_,nn,0,_,0,.str w tk,hz2,rfl,hb,rfl,by simp[cP],rfl,?_⟩)⟩
 have hr:nj ((Array.mk (Al w tk::vl)).eraseIdxIfInBounds 0).toList ws:=by rw[show((Array.mk (Al w tk::vl)).eraseIdxIfInBounds 0).toList=vl by simp[mz]];exact rs2
 refine en (cn.push_upd (s:={s' with toks:=s'.toks+1}) (ws:=ws) l hb (λxs=>xs.eraseIdxIfInBounds 0) hr) λlo g2=>?_
 refine⟨.dat (.str w),some (a,⟨ws,t.rest,t.line⟩),?_,Rd.str,rfl,lo,((g.trans0 .tk1).of0).trans1 g2⟩
 have q:Q (.dat (.str w)) (some (a,⟨t.push.tail,t.rest,t.line⟩)):=q
 rw[hp]at q
 exact q
noncomputable def DS.pbApp(i:Nat)(f:DE):DS:=λρ lx=>(eM ρ i lx).bind λa0=>(f ρ lx).bind λp=>(ia p.1).bind λw=>(eM ρ i p.2).bind λa=>if decide (a.2.push.length<=4096)=true then some (.nxt,ρ,some (a.1,⟨a.2.push++[w],a.2.rest,a.2.line⟩))else none
theorem S1.pbApp{e:Expr}{f:DE}{p2 apos pos':Pos}(k:fv C K)(b:eP sc.names i x kk)(hk:jW kk)(hd:(x==("__debug__":Str))=false)(ha:SE C n sc e f)(hs:bt [e]=true)(hline:(apos.endLine==pos.line)=true):
  S1 C n sc (.Expr (.Call (.Attribute (.Attribute (.Name x p) "pushback" p2) "append" apos) [e] [] pos) pos') (.pbApp i f):=.of λρ lx P h=>by
 refine nG λkG=>?_;obtain⟨a0,t0,e0,rfl,h2⟩:=fS (Ok.bind h)
 refine kG ?_
 intro A env ok okb og μ s R E S B
 refine jK (dt rfl (by rw[(bq hs).1];rfl) hline (oZ k b hk hd ve e0 R E S λs' m es S' l g M=>⟨_,M.push,rfl,?_⟩)) (by unfold gW;rw[E.scope,E.kind];rfl) rfl
 refine nG λkG=>?_;obtain⟨vs0,⟨n0,hb0⟩,_⟩:=l.pb
 refine kG ?_
 refine Y2 ("list") ("list.append") ⟨F.plainAttrs_list,F.slot_list_append,F.type_list_append,⟨_,hb0,rfl⟩,λc q=>by cases q;exact⟨_,hb0,rfl⟩,km (Ev.go (SE.ok ha (Q:=λr l=>Ok (ia r) λw=>Ok (eM ρ i l) λa=>a.2.push.length<=4096/\P .nxt ρ (some (a.1,⟨a.2.push++[w],a.2.rest,a.2.line⟩))) ((Ok.bind h2).mono λp h=>(Ok.bind h).mono λw h=>(Ok.bind h).mono λa h=>Ok.iff' h)) R E S' λv s₂ r l1 q rv S2 sa g2=>?_)⟩
 refine nG λkG=>?_;obtain⟨w,rfl,q⟩:=wA q
 obtain⟨a,t,_,rfl,hz,q⟩:=fS q
 obtain rfl:=(sa:a0=a)
 obtain⟨tk,rfl⟩:=Rd.str_inv rv
 obtain⟨vs,⟨nn,hb⟩,rs⟩:=S2.lxr.pb
 refine en (cn.push_upd (ws:=t.push++[w]) S2.lxr hb (λxs=>xs.push (.str w tk)) (by rw[fH];exact qi rs ⟨tk,rfl⟩)) λlo g3=>?_
 refine kG ?_
 exact⟨vs,nn,rP hz (fk rs).symm,hb,.at q trivial (S2.grow (lx':=some (a0,⟨t.push++[w],t.rest,t.line⟩)) g3 rfl lo) B (.of_grow ((g.of0.trans1 g2).trans1 g3) rfl)⟩
end
section
variable{M:Model}{A:Around}{E:Value->ab->Prop}{s:ab}
theorem yu{a:Addr}{es:Array DictEntry}{n:Nat}{m:Str->Option Value}{name:Str}{v:Value}{Q:Unit->ab->Prop}(hd:s.heap.get? a=some {cls:=.type "dict",data:=.dict es n})(hm:s.heap.Ns a m)
  (h:∀h' es' n',h'.get? a=some {cls:=.type "dict",data:=.dict es' n'}->h'.Ns a (λx=>if x=name then some v else m x)->jQ a s.heap h'->es'.size<=es.size+1->(m name≠none->es'.size=es.size)->Q () {s with heap:=h',toks:=s.toks+1}):ar M A (nsSet a name v) Q E s:=λΓ p _=>by
 refine Kx (id hm) λo es' ep ho hdd hk hmm=>?_
 rw[hd]at ho;cases ho;cases hdd
 simp only[nsSet,strHash,Sem.wp_bind',Sem.wp_cmd_ask,Sem.wp_pure',Sem.wp_cmd_mkText]
 rw[Sem.wp_loadPart_of M Γ _ p {s with toks:=s.toks+1} (o:={cls:=.type "dict",data:=.dict es n}) _ hd]
 have hany:es.any (·.refKey)=false:=by
  rw[Array.any_eq_false'];intro e he;refine nG λkG=>?_;obtain⟨n,t,h⟩:=hk e he;refine kG ?_;simp[DictEntry.refKey,h]
 simp only[aRefKeyMayBeTheName_eq,aRefKeyMayBeTheNameByArray,hany,x5,cY,if_false,Sem.wp_cmd_updatePart]
 refine⟨by rw[hd];rfl,?_⟩
 cases hi:es.findIdx? (·.key.isStr name)with
 |some i=>
  have hq:∀hh kk,oC name hh kk v {cls:=.type "dict",data:=.dict es n}={cls:=.type "dict",data:=.dict (es.modify i λe=>⟨e.hash,e.key,v⟩) n}:=λhh kk=>by simp only[Obj.putName_eq,Obj.putNameByArray,hi]
  have hg:∀hh kk,(s.heap.update a (oC name hh kk v)).get? a=some {cls:=.type "dict",data:=.dict (es.modify i λe=>⟨e.hash,e.key,v⟩) n}:=λhh kk=>by
   have:=gE (oC name hh kk v) hd (by rw[hq];rfl)
   rw[hq]at this;exact this
  refine h _ _ _ (hg _ _) ⟨_,_,n,hg _ _,rfl,hk.modify _ _,λx=>?_⟩ (uS ..) (by rw[Array.size_modify];exact a8 _) λ_=>Array.size_modify
  show _=if x=name then some v else m x
  rw[<-hmm];exact findBy_modify (λn v=>v.isStr n) Value.isStr_inj es name x v i hi
 |none=>
  have hq:∀hh kk,oC name hh kk v {cls:=.type "dict",data:=.dict es n}={cls:=.type "dict",data:=.dict (es.push ⟨hh,kk,v⟩) (n+1)}:=λhh kk=>by simp only[Obj.putName_eq,Obj.putNameByArray,hi]
  have hg:∀hh kk,(s.heap.update a (oC name hh kk v)).get? a=some {cls:=.type "dict",data:=.dict (es.push ⟨hh,kk,v⟩) (n+1)}:=λhh kk=>by
   have:=gE (oC name hh kk v) hd (by rw[hq];rfl)
   rw[hq]at this;exact this
  have hnone:m name=none:=by
   rw[<-hmm];unfold Aj;rw[findBy_of_findIdx?,hi]
  refine h _ _ _ (hg _ _) ⟨_,_,n+1,hg _ _,rfl,hk.push _ _ _ _,λx=>?_⟩ (uS ..) (by rw[oE];exact ai _) λq=>absurd hnone q
  show _=if x=name then some v else m x
  rw[<-hmm]
  exact findBy_push (λn v=>v.isStr n) es name x _ _ v (λy=>by
   show(name==y)=decide (y=name)
   by_cases h:y=name
   ·subst h;simp
   ·have:¬name=y:=λe=>h e.symm
    simp[h,this]) hi
end
section
variable{C:Cx}{K:Frag}{A:Around}{s:ab}{n:Nat}{sc:Scope}{ρ:List LV}{i:Nat}{lx:Lx}{a:cH}{t:LexSt}{x name:Str}{kk:az}{p pos:Pos}
structure Hn(dx:Addr)(m:Str->Option Value)(es:Array DictEntry)(name:Str)(v:Value)(h h':Heap)(es':Array DictEntry)(n':Nat):Prop where
 get:h'.get? dx=some (pe es' n')
 ns:h'.Ns dx (λx=>if x=name then some v else m x)
 same:jQ dx h h'
 size:es'.size<=es.size+1
 old:m name≠none->es'.size=es.size
theorem AF{E:Value->ab->Prop}{Q:Fin->ab->Prop}{x dx:Addr}{tk:Tok}{m:Str->Option Value}{es:Array DictEntry}{n:Nat}{v:Value}{b:Bool}(k:fv C K)(wd:Wd C s)(hx:s.heap.get? x=some (eI C.lexC dx))(hd:s.heap.get? dx=some (pe es n))(hm:s.heap.Ns dx m)(hz:es.size<=64)
  (h:∀h' es' n',Hn dx m es name v s.heap h' es' n'->Q (.done (.ret .none)) {s with heap:=h',toks:=s.toks+1}):
  ar C.M A (Builtin.ObjectAttr.storeInOwnDict (.ref x) (.ref C.lexC) (.str name tk) name v b) Q E s:=by
 refine a7 (any_some k.dict) λcd hc hd'=>?_
 refine aa (aq (aa (aa (wpAny_loadPart hx (aa ((looks_clsIn (k.at wd) hc).here ?_))))))
 rw[hd']
 refine aq (a:=some dx) (aa (aq (aa (yu hd hm λh' es' n' k1 k2 k3 k4 k5=>?_))))
 exact aa (wpAny_lookBehind k1 (pastItsLine_dict (by rw[sW];exact J2 [Ql Q1 (Qn 64),Ql Q0 (Qs Q1 1)] Q0 (Qs (Qn 16777216) 1) 1 [1,1] Qt hz k4)) (aq (h h' es' n' ⟨k1,k2,k3,k4,k5⟩)))
theorem vo{E:Value->ab->Prop}{Q:Unit->ab->Prop}{x dx:Addr}{m:Str->Option Value}{es:Array DictEntry}{n:Nat}{v:Value}(k:fv C K)(wd:Wd C s)(hx:s.heap.get? x=some (eI C.lexC dx))(hd:s.heap.get? dx=some (pe es n))(hm:s.heap.Ns dx m)
  (hn:name∈lexNames)(hz:es.size<=64)(h:∀h' es' n',Hn dx m es name v s.heap h' es' n'->Q () {s with heap:=h',toks:=s.toks+2}):ar C.M A (setAttr (.ref x) name v) Q E s:=by
 have X:=k.at wd
 have I:PySem.W.InstAt s.heap x (eI C.lexC dx) C.lexC (some (dictOf es.toList n)):=⟨hx,rfl,rfl,hd⟩
 have ht:takerIn K C.lexC name=some none:=by unfold takerIn;rw[k.own name hn];rfl
 exact set_plain X I k.sa (osa_open (s:={s with toks:=s.toks+1}) X I k.po ht λb=>
  AF (s:={s with toks:=s.toks+1}) k (wd.grow (W:=λ_=>False) (Wg:=cx) (aH.of0 .tk1) λ_ w=>w.elim) hx hd hm hz h)
theorem xJ.bump{m:Str->Option Value}{es es':Array DictEntry}{tk:Tok}(M:xJ a t m es)(h:es'.size=es.size):xJ a ⟨t.push,t.rest,t.line+1⟩ (λx=>if x="lineno" then some (.int (t.line+1) tk)else m x) es':=
 ⟨⟨_,if_pos rfl⟩,(if_neg (by decide+kernel)).trans M.inst,by obtain⟨k,e⟩:=M.ws;exact⟨k,(if_neg (by decide+kernel)).trans e⟩,(if_neg (by decide+kernel)).trans M.push,λx n1 n2 n3 n4=>(if_neg n1).trans (M.rest x n1 n2 n3 n4),h▸M.small⟩
theorem cn.dict_ne(x:cn C a t s.heap):a.Off a.lexd/\a.lexd≠a.pb/\a.lexd≠a.sg:=
 by refine nG λkG=>?_;obtain⟨_,_,_,f1,_,_⟩:=id x.lexd;refine kG ?_;exact⟨x.off f1 x.apart.2 (λ_ e=>by cases congrArg fW e) (λ_ e=>by cases e) (λ_ e=>by cases e) λ_ e=>(by cases e),by obtain⟨_,l,_⟩:=x.pb;exact(x.lexd.ne_lst l).symm,by obtain⟨_,l,_⟩:=x.sg;exact(x.lexd.ne_lst l).symm⟩
noncomputable def DS.bump(i:Nat):DS:=λρ lx=>(eM ρ i lx).map λa=>(.nxt,ρ,some (a.1,⟨a.2.push,a.2.rest,a.2.line+1⟩))
theorem S1.bump{p2 p3:Pos}{k0:Nat}(k:fv C K)(b:eP sc.names i x kk)(hk:jW kk)(hd:(x==("__debug__":Str))=false):
  S1 C (n+2) sc (.AugAssign (.Attribute (.Name x p) "lineno" p2) .Add (.Constant (.int 1) k0 p3) pos) (.bump i):=.of λρ lx P h=>by
 obtain⟨a,t,e0,rfl,q⟩:=fS (Ok.map h)
 intro A env ok okb og μ s R E S B
 refine wpAny_AugAssign_AttributeAny (oY (p:=p) b hk hd e0 R E S λs₁ S1 l g=>vh k S1.wd l.lex l.lexd (.head _) λm0 es0 M0=>?_)
 obtain⟨tk0,f0⟩:=M0.line
 refine⟨_,f0,rfl,dH (PySem.P.iadd_int ?_)⟩
 have g2:bG s₁ {s₁ with toks:=s₁.toks+1+1+1}:=.tk (aF _ 3)
 refine(λne np ng=>?_) (cn.dict_ne l).1 (cn.dict_ne l).2.1 (cn.dict_ne l).2.2
 obtain⟨m,es,nn,f1,f3,M⟩:=id l.lexd
 refine vo (s:={s₁ with toks:=s₁.toks+1+1+1}) k (S1.grow0 g2).wd l.lex f1 f3 (.head _) M.small λh' es' n' T=>?_
 have hs:∀c,c≠a.lexd->h'.get? c=s₁.heap.get? c:=T.same.2
 have lo:cn C a ⟨t.push,t.rest,t.line+1⟩ h':=l.upd hs ne (l.pb.at λo e=>(hs _ np.symm).trans e) (l.sg.at λo e=>(hs _ ng.symm).trans e) ⟨_,es',n',T.get,T.ns,M.bump (T.old (by obtain⟨k,e⟩:=M.line;exact λq=>by cases e.symm.trans q))⟩
 have g3:aH (W (some (a,t))) cx s₁ {s₁ with heap:=h',toks:=s₁.toks+1+1+1+2}:=fQ f3 T.same (.inl rfl) (aF _ 5)
 exact .at q trivial (S1.grow (lx':=some (a,⟨t.push,t.rest,t.line+1⟩)) g3 rfl lo) B (.of_grow (g.of0.trans1 g3) rfl)
end
section
variable{C:Cx}{K:Frag}{A:Around}{s:ab}
theorem qg{M:Model}{f:Value}{vs:List Value}{Q:Value->ab->Prop}{E:Value->ab->Prop}(hc:eB M A (.call f ⟨vs,[]⟩) (λr s'=>match r with|.ok (.ret v)=>Q v s'|.ok _=>False|.error e=>E e s') s):
  ar M A (callBorrowed f vs) Q E s:=λΓ p hΓ=>by
 have h:=(i9 hc) Γ p hΓ
 unfold call runValue run at h
 unfold callBorrowed
 simp only[Sem.wp_bind']at h
 refine xQ h λr s' hr h=>?_
 refine⟨r,s',hr,?_⟩
 cases r with
 |error e=>exact h
 |ok f=>cases f<;>first|exact h|exact h.elim
theorem uC{env:Env}{o:Expr}{name:Str}{apos pos:Pos}{es:List Expr}{Q:Value->ab->Prop}{E:Value->ab->Prop}(hbase:f8 o name env (eval o env)=eval o env)(hn:(ku pos (dO es env)).any (·.1)=false)(hl:es.length < 20)
  (hline:(apos.endLine==pos.line)=true)(h:ar C.M A (eval o env) (λov s₁=>∀pl,ar C.M A (getMethod ov name pl) (λp s₂=>ar C.M A (dY pos p.1 p.2 (ku pos (dO es env)) []) Q E s₂) E s₁) E s):
  ar C.M A (eval (.Call (.Attribute o name apos) es [] pos) env) Q E s:=by
 rw[arm_eval_Call,hbase]
 refine aa (al h (λov s₁ h₁=>?_) λ_ _ e=>e)
 refine aa (cu ?_)
 have hform:methodCallForm (es.length+([]:List Keyword).length) (ku pos (dO es env)) (backToKw pos (keywordEach [] env))=true:=by
  unfold methodCallForm
  have:(ku pos (dO es env)).all (λx=>!x.1)=true:=by
   rw[jo];intro x hx
   have:=(List.any_eq_false.mp hn) x hx
   simpa using this
  rw[this]
  show(true&&true&&decide (es.length+0+0 < 30))=true
  simp;exact bo
 have hpos:methodCallPos true o env apos pos=pure pos:=by unfold methodCallPos;simp[hline]
 unfold methodCall
 rw[hform]
 refine aa (bg (al (h₁ _) (λp s₂ h₂=>?_) λ_ _ e=>e))
 exact aa (fF hpos h₂)
end
structure fD(C:Cx)(K:Frag)(name:Str)(f:Addr):Prop where
 find:findIn K (.ref C.lexC) name=some (some (.ref f))
 fn:typeIn K (.ref f)=some (.type "function")
 get:specialIn K (.ref f) "__get__"=some (some (.builtin "function.__get__"))
 takes:takesIn K (.ref f)=some false
 cop:copiedNames.contains name=false
 other:name≠"lineno"/\name≠"instream"/\name≠"whitespace"/\name≠"pushback"
 keeps:cV C (.ref f)
theorem fD.none_{C:Cx}{K:Frag}{name:Str}{f:Addr}(m:fD C K name f){a:cH}{t:LexSt}{mm:Str->Option Value}{es:Array DictEntry}(M:xJ a t mm es):mm name=none:=M.rest name m.other.1 m.other.2.1 m.other.2.2.1 m.other.2.2.2
section
variable{C:Cx}{K:Frag}{A:Around}{s:ab}{n:Nat}{sc:Scope}{pos:Pos}{i:Nat}{x name:Str}{kk:az}{p apos:Pos}
theorem pj{env:Env}(l:List Expr):bt l=true->(ku pos (dO l env)).any (·.1)=false:=by
 induction l with
 |nil=>exact λ_=>rfl
 |cons a r ih=>
  intro q
  refine(λq1 q2=>?_) (bq (env:=env) q).1 (bq (env:=env) q).2
  rw[q1]
  exact ih q2
theorem xE{env:Env}{f:Value}{first:List Value}{es:List Expr}{ok okb:Addr->Prop}{og:Nat->List Addr}{μ:Str->Option Value}{ρ:List LV}{lx:Lx}{Q:List Va->Lx->Prop}{P:Value->ab->Prop}(hk:cV C f)(R:bj n A)(E:aY sc env)(S:St C sc env ρ lx ok okb og μ s)(hs:bt es=true)
  (h:qX C n sc es ρ lx Q)(k:∀rs l vs s₁,Q rs l->St C sc env ρ l ok okb og μ s₁->bV lx l->aH (W lx) cx s s₁->cW (RV ok okb l s₁.heap) rs vs->ar C.M A (call f (first++vs)) P bJ s₁):
  ar C.M A (dY pos f first (ku pos (dO es env)) []) P bJ s:=by
 refine di hk (pj es hs) ?_
 cases es with
 |nil=>exact evalArgs_nil3 ⟨S.wd,k [] lx [] s h S .refl .refl .nil⟩
 |cons e es=>
  have run:=qX.go (pos:=pos) (P:=λvs s₁=>Wd C s₁/\ar C.M A (xW f (first++vs)) P bJ s₁) h hs R E S λvs s₁ rs lx₁ q r S1 sa g=>⟨S1.wd,k rs lx₁ vs s₁ q S1 sa g r⟩
  have hb:ku pos (dO (e::es) env)=(false,eval e env)::ku pos (dO es env):=by rw[(bq hs).1];rfl
  rw[hb]at run ⊢
  exact db run
noncomputable def DE.meth(i:Nat)(f:DF)(a:DL):DE:=λρ lx=>(eM ρ i lx).bind λ_=>(a ρ lx).bind λp=>f (.lex::p.1) p.2
theorem SE.meth{es:List Expr}{f:DF}{fa:Addr}{a:DL}(k:fv C K)(m:fD C K name fa)(hf:kg C n (.ref fa) f)(b:eP sc.names i x kk)(hk:jW kk)(hd:(x==("__debug__":Str))=false)
  (ha:SL C n sc es a)(hs:bt es=true)(hl:es.length < 20)(hline:(apos.endLine==pos.line)=true):SE C n sc (.Call (.Attribute (.Name x p) name apos) es [] pos) (.meth i f a):=.of λρ lx Q h=>by
 obtain⟨a0,t0,e0,rfl,h⟩:=fS (Ok.bind h)
 intro A env ok okb og μ s R E S
 refine uC rfl (pj es hs) hl hline (oY (p:=p) b hk hd e0 R E S λs₁ S1 l g pl=>?_)
 obtain⟨es',nn,I,lk⟩:=l.lexd.look l.lex λ_ _=>m.none_
 refine method_fn (k.at S1.wd) I k.ga k.gn m.find m.fn (by show(lookIn name (dictOf es'.toList nn)).map _=_;rw[lk];rfl) ?_
 refine xE m.keeps R E S1 hs (ha.ok (Q:=λrs l=>l7 (f (.lex::rs) l) Q) (Ok.bind h)) λrs' l2 vs s₂ q S2 sa2 g2 av=>?_
 obtain⟨t2,rfl⟩:=sa2.get rfl
 exact al (hf.ok q A ok okb s₂ (.ref a0.lex::vs) R S2.wx (.cons ⟨a0,t2,rfl,rfl⟩ av)) (λ_ _ p=>.then (lx₁:=some (a0,t2)) (g.of0.trans1 g2) rfl p) λ_ _ x=>x
noncomputable def DE.readD(i:Nat):DE:=λρ lx=>(eM ρ i lx).bind λa=>if decide (a.2.rest.length<=4096)=true then some (.dat (.str a.2.rd.1),some (a.1,a.2.rd.2))else none
def ru(C:Cx)(n:Nat):Prop:=∀A ok okb s a t tk (Q:Va->Lx->Prop),bj n A->Wx C ok okb (some (a,t)) s->t.rest.length<=4096->Q (.dat (.str t.rd.1)) (some (a,t.rd.2))->ar C.M A (call (.ref a.fn) [.int 1 tk]) (iV C ok okb (some (a,t)) s Q) bJ s
theorem cV.here{f:Addr}{o:Obj}{fd:FuncData}{Q:Keeper->ab->Prop}{E:Value->ab->Prop}(ho:s.heap.get? f=some o)(hd:o.data=.func fd)(h:∀k,Q k s):ar C.M A (keeperOf (.ref f)) Q E s:=by
 unfold keeperOf
 refine aa (wg ho ?_)
 rw[hd]
 exact aq (h _)
theorem y0{f:Addr}{o:Obj}{fd:FuncData}{e:Sem Value}{Q:Value->ab->Prop}(hd:o.data=.func fd)(h:ar C.M A e (λv s'=>s'.heap.get? f=some o/\ar C.M A (call (.ref f) [v]) Q bJ s') bJ s):ar C.M A (dY pos (.ref f) [] [(false,e)] []) Q bJ s:=by
 unfold dY
 refine aa (bg (db (cR (al h (λv s' q=>gH ?_) λ_ _ x=>x))))
 refine aa (cu (aa (cV.here q.1 hd λkp=>?_)))
 have tail:∀{tm:Sem Value},ar C.M A tm Q bJ s'->ar C.M A (tm >>= λr=>kX [r] point >>= λ_=>pure r) Q bJ s':=
  λht=>aa (al ht (λr s₂ hr=>aa (bg (wpAny_point (aq hr)))) λ_ _ x=>x)
 cases kp
 ·exact tail (by unfold callMarked;exact pF q.2)
 ·exact tail (by unfold callMarked;exact pF q.2)
 ·exact tail q.2
 ·exact tail (wpAny_operate' q.2)
theorem SE.readD{p2 p3:Pos}{k0:Nat}(k:fv C K)(hL:ru C n)(b:eP sc.names i x kk)(hk:jW kk)(hd:(x==("__debug__":Str))=false)(hline:(apos.endLine==pos.line)=true):
  SE C n sc (.Call (.Attribute (.Attribute (.Name x p) "instream" p2) "read" apos) [.Constant (.int 1) k0 p3] [] pos) (.readD i):=.of λρ lx Q h=>by
 obtain⟨a,t,e0,rfl,h2⟩:=fS (Ok.bind h)
 refine(λhz q=>?_) (Ok.iff' h2).1 (Ok.iff' h2).2
 intro A env ok okb og μ s R E S
 refine uC rfl rfl (ji (m:=20) (n:=1) (l:=18) rfl) hline (oZ k b hk hd (.tail _ (.head _)) e0 R E S λs' m es S' l g M=>⟨_,M.inst,rfl,λpl=>?_⟩)
 have X:=k.at S'.wd
 obtain⟨es',nn,I,_⟩:=l.std.look l.st λ_ _ e=>e
 have rd:("read":Str)∈lexNames:=.tail _ (.tail _ (.tail _ (.tail _ (.head _))))
 refine method_usual X I k.ga k.gn (k.own "read" rd) rfl (vh k S'.wd l.st l.std rd λm es e=>⟨_,e,rfl,?_⟩)
 obtain⟨o,fd,oc,vs,tq,r1,r2,_,_,_,_⟩:=l.fn
 refine y0 (e:=eval (.Constant (.int 1) k0 p3) env) r2 (dH ⟨r1,?_⟩)
 have g2:bG s' {s' with toks:=s'.toks+1+1}:=.tk (aF _ 2)
 exact al (hL A ok okb {s' with toks:=s'.toks+1+1} a t _ Q R (S'.grow0 g2).wx hz q) (λ_ _ p=>.then (lx₁:=some (a,t)) (g.of0.trans0 g2) .refl p) λ_ _ x=>x
end
set_option maxRecDepth 100000 in
theorem pX:∃r,typeLookup (.type "method") (ad "__call__")=pure (some r):=
 ⟨.builtin "method.__call__",by rw[mf,gq];kernel_rfl⟩
theorem y6(a b:Value):argsOk "iter" ⟨[a,b],[]⟩:=by unfold argsOk;kernel_rfl
section
variable{C:Cx}{K:Frag}{A:Around}{s:ab}{n:Nat}{sc:Scope}
theorem IE{bm:Addr}{f self x:Value}{Q:Value->ab->Prop}(hbm:s.heap.get? bm=some (jE f self))
  (h:Q (.ref s.heap.objs.size) {s with heap:=s.heap.push (iZ (.ref bm) x (.bool false))}):ar C.M A (call (.builtin "iter") [.ref bm,x]) Q bJ s:=by
 refine call_function_entry (by decide+kernel) (by decide+kernel) kdk_entry_iter (y6 _ _) ?_
 unfold Builtin.«iter»
 refine aa (m:=PySem.someArgs "iter" 1 2 _) (fF (a:=[fm bm,x]) (by first|rfl|kernel_rfl!) ?_)
 refine cU pX λr hr=>?_
 refine aa (q7 (T:="method") ⟨_,hbm,rfl⟩ hr ?_)
 show ar _ _ (rule _ >>= λ_=>(newFields "callable_iterator" _ >>= _)) _ _ _
 refine aa (wf (aa ?_))
 unfold newFields
 refine cI ?_ (by size_fits)
 exact aq ⟨_,rfl,h⟩
theorem AQ{it:Addr}{x y z:Value}{Q:Value->ab->Prop}{E:Value->ab->Prop}(hit:s.heap.get? it=some (iZ x y z))(h:Q (.ref it) s):ar C.M A (sX (.ref it)) Q E s:=by
 have hT:s.TypeIs (.ref it) "callable_iterator":=⟨_,hit,rfl⟩
 refine wpAny_pyIter_slot hT oN (dF oN hT tE ?_ (vS _))
 show ar _ _ (PySem.ret (.ref it)) _ _ s
 exact aq ⟨_,rfl,"callable_iterator",_,hT,gK.lookup,h⟩
theorem A0{E:Value->ab->Prop}{Q:Value->ab->Prop}{expr:Bool}{name:Str}{f:Addr}{a:cH}{t:LexSt}(k:fv C K)(wd:Wd C s)(lo:cn C a t s.heap)(m:fD C K name f)
  (h:Q (.ref s.heap.objs.size) {s with heap:=s.heap.push (jE (.ref f) (.ref a.lex)),toks:=s.toks+1}):ar C.M A (getAttr (.ref a.lex) name expr) Q E s:=by
 have X:=k.at wd
 obtain⟨es',nn,I,lk⟩:=lo.lexd.look lo.lex λ_ _=>m.none_
 exact get_bind X I k.ga (findObj_fn k.dict m.find m.get m.takes m.cop lk) k.gn (i9 (fn_get (s:={s with toks:=s.toks+1}) X m.fn (handed_on rfl h)))
section
variable{ρ:List LV}{lx:Lx}{env:Env}{ok okb:Addr->Prop}{og:Nat->List Addr}{μ:Str->Option Value}{i j:Nat}{a:cH}{t:LexSt}
theorem m9{x:Str}{k:az}{lv₀ lv:LV}{lx':Lx}{as:List Addr}{v:Value}{s₁:ab}{Q:Unit->ab->Prop}(E:aY sc env)(S:St C sc env ρ lx ok okb og μ s)(b:d5 sc.names ρ i x k lv₀)(hk:k=.local\/k=.cell)
  (hnew:∀c∈as,c∈og i\/s.heap.objs.size<=c/\c < s₁.heap.objs.size)(hn:as.Nodup)(sa:bV lx lx')(l:nN C lx' s₁.heap)(g:aH (W lx) cx s s₁)(hv:jf (λc=>ok c/\c ∉ as) okb lx' s₁.heap lv (some v) as)
  (h:∀s',St C sc env (ρ.set i lv) lx' (λc=>ok c/\c ∉ as) okb (λj=>if j=i then as else og j) (λy=>if y=x then some v else μ y) s'->kh env lx lx' ok okb (λc=>ok c/\c ∉ as) okb og (λj=>if j=i then as else og j) s s'->aH (Af env x) cx s₁ s'->Q () s'):ar C.M A (jh env x v) Q bJ s₁:=by
 have lt:∀c∈og i,c < s.heap.objs.size:=λc m=>gu λq=>(S.owns i c m).2.1 (S.okf c q)
 have ol:∀c,c < s.heap.objs.size->ok c->c ∉ as:=λc e o m=>(hnew c m).elim (λq=>(S.owns i c q).2.1 o) λq=>absurd e (Nat.not_lt.mpr q.1)
 have S1:St C sc env ρ lx' (λc=>ok c/\c ∉ as) okb og μ s₁:=
  S.move g sa l (λc e o=>⟨o,ol c e o⟩) (λc o=>o.1) (λ_ _ o=>o) (λ_ o=>o) (λc o=>S.sub c o.1) (λc e=>⟨(S.okf.grow g) c e,λm=>(hnew c m).elim (λq=>absurd (ay (lt c q) g.size) (Nat.not_lt.mpr e)) λq=>absurd q.2 (Nat.not_lt.mpr e)⟩)
 refine gc E S1 b hk hv (λc m=>(hnew c m).elim (λq=>⟨(S.owns i c q).1,λo=>o.2 m,(S.owns i c q).2.2⟩) λq=>⟨S.sub c (S.okf c q.1),λo=>o.2 m,(S.apart q.1).2.2⟩) hn (λj c hj m m'=>(hnew c m).elim (λq=>hj (S.ownx j i c m' q)) λq=>(S.owns j c m').2.1 (S.okf c q.1)) λs' S' gx=>?_
 refine h s' S' ⟨sa,λc o=>o.1,λc e o=>⟨o,ol c e o⟩,λ_ o=>o,λ_ _ o=>o,λj c m=>?_,(g.mono (W':=WS env og lx) (λb w=>.inl (.inl w)) (λ_ w=>w.elim)).trans gx (λb w=>.inl (.inr (.inl w.frw))) (λ_ w=>w.elim)⟩ gx
 by_cases q:j=i
 ·rw[if_pos q]at m;exact(hnew c m).imp (λq=>⟨i,q⟩) (·.1)
 ·rw[if_neg q]at m;exact .inl ⟨j,m⟩
theorem gT.ciNew{x y name:Str}{kk ky:az}{f:Addr}{px pa pc p p1 py pos:Pos}{k0:Nat}{lv₀:LV}{P:Fl->List LV->Lx->Prop}(kc:dk C)(k:fv C K)(m:fD C K name f)(hi:nF sc.names "iter" .globalImplicit)(hv:Gb C "iter" (.builtin "iter"))
  (b:eP sc.names i x kk)(hk:jW kk)(hd:(x==("__debug__":Str))=false)(e0:ρ[i]? =some .lex)(by':d5 sc.names ρ j y ky lv₀)(hky:jW ky)(q:∀it,P .nxt (ρ.set j (.ci it f true)) (some (a,t))):
  gT C n sc (.Assign [.Name y py] (.Call (.Name "iter" p) [.Attribute (.Name x px) name pa,.Constant (.str "") k0 pc] [] p1) pos) ρ (some (a,t)) P:=λA env ok okb og μ s R E S B=>by
 refine cJ (ca (eN kc E S.wd hi hv ?_ (by decide+kernel))) rfl
 show ar _ _ (dY p1 (.builtin "iter") [] [(false,_),(false,_)] []) _ _ _
 refine di (first:=[]) cV.builtin rfl (db (cR (x:=eval (.Attribute (.Name x px) name pa) env) (Attribute_name (oY (p:=px) b hk hd e0 R E S λs₁ S1 l g=>A0 k S1.wd l m ?_))))
 refine cR (x:=eval (.Constant (.str "") k0 pc) env) (fJ (k:=k0) (pos:=pc) (gH ?_))
 have gA:bG s₁ {s₁ with heap:=s₁.heap.push (jE (.ref f) (.ref a.lex)),toks:=s₁.toks+1+1}:=.push (aF _ 2)
 have mA:=aB s₁.heap (o:=jE (.ref f) (.ref a.lex)) rfl
 have zA:(s₁.heap.push (jE (.ref f) (.ref a.lex))).objs.size=s₁.heap.objs.size+1:=aZ ..
 have hz:=g.size
 generalize hh:s₁.heap.push (jE (.ref f) (.ref a.lex))=hA at mA zA gA
 refine⟨(S1.grow0 gA).wd,IE mA ?_⟩
 have zB:(hA.push (iZ (.ref s₁.heap.objs.size) (.str "" (s₁.toks+1)) (.bool false))).objs.size=s₁.heap.objs.size+2:=(aZ ..).trans (congrArg (· +1) zA)
 have gB:=gA.trans0 (aH.push' (s:={s₁ with heap:=hA,toks:=s₁.toks+1+1}) (o:=iZ (.ref s₁.heap.objs.size) (.str "" (s₁.toks+1)) (.bool false)))
 have mB:=aA (iZ (.ref s₁.heap.objs.size) (.str "" (s₁.toks+1)) (.bool false)) mA
 have cB:=aB hA (o:=iZ (.ref s₁.heap.objs.size) (.str "" (s₁.toks+1)) (.bool false)) rfl
 rw[zA]at cB
 show ar _ _ (jh env y (.ref hA.objs.size)) _ _ _
 rw[zA]
 refine m9 (lv:=.ci (s₁.heap.objs.size+1) f true) (as:=[s₁.heap.objs.size+1,s₁.heap.objs.size]) E S by' hky (λc m=>?_) (List.nodup_cons.mpr ⟨λq=>eR _ (List.mem_singleton.mp q),List.nodup_cons.mpr ⟨dw,bx⟩⟩) .refl (S1.lxr.grow0 gB) (g.of0.trans0 gB) ⟨s₁.heap.objs.size,a,t,rfl,rfl,rfl,mB,_,cB⟩ λs' S' c _=>?_
 ·show _\/_/\c < (hA.push _).objs.size
  rw[zB]
  rcases List.mem_cons.mp m with rfl|m
  ·exact .inr ⟨cm hz,bC _⟩
  ·rw[List.mem_singleton.mp m]
   exact .inr ⟨hz,Nat.lt_add_of_pos_right (nR 1)⟩
 ·exact .at (q _) trivial S' (B.set λd e=>by cases e) c
end
end
theorem qA{M:Model}{A:Around}{c:Code}{s:ab}{Q Q':Value->ab->Prop}(h:eB M A c (λr s'=>match r with|.ok (.ret v)=>Q v s'|.ok _=>False|.error e=>bJ e s') s)(k:∀v s',Q v s'->Q' v s'):
  eB M A c (λr s'=>match r with|.ok (.ret v)=>Q' v s'|.ok _=>False|.error e=>bJ e s') s:=
 codeAny_mono h λr s' p=>by
  cases r with
  |error e=>exact p
  |ok fl=>cases fl with
   |ret v=>exact k v s' p
   |_=>exact p
theorem dE.run{C:Cx}{n:Nat}{f:Addr}{F:DF}(h:dE C n f F){rs:List Va}{lx:Lx}{Q:Va->Lx->Prop}(k:l7 (F rs lx) Q){A:Around}{ok okb:Addr->Prop}{s:ab}{vs:List Value}(R:bj n A)(w:Wx C ok okb lx s)(av:cW (RV ok okb lx s.heap) rs vs):
  eB C.M A (.call (.ref f) ⟨vs,[]⟩) (λr s'=>match r with|.ok (.ret v)=>iV C ok okb lx s Q v s'|.ok _=>False|.error e=>bJ e s') s:=
 let⟨p,e,q⟩:=k.eq
 qA (h rs lx p.1 p.2 e A ok okb s vs R w av) λv s' ⟨r,lx',e,rv,sa,l,g⟩=>⟨r,lx',n7 q _ _ e,rv,sa,l,g⟩
theorem Ez:∀c∈alpha,(c==("":Str))=false:=by decide+kernel
theorem CD{t:LexSt}(h:t.rest=[]):t.rd.1=""/\t.rdb=t:=by
 obtain⟨p,r,l⟩:=t
 obtain rfl:=(h:r=[])
 exact⟨rfl,congrArg (LexSt.mk p []) (if_neg (c:=(("":Str)==("\n":Str))=true) (by decide+kernel))⟩
theorem JN{t:LexSt}(hz:t.okR=true)(h:t.rest≠[]):t.rd.1≠"":=by
 obtain⟨p,r,l⟩:=t
 cases r with
 |nil=>exact absurd rfl h
 |cons c r=>exact beq_eq_false_iff_ne.mp (Ez c ((lE hz).2 c (.head _)))
noncomputable def LV.ciOf:LV->Option (Addr × Addr × Bool)
 |.ci it f l=>some (it,f,l)
 |_=>none
noncomputable def Gr(ρ:List LV)(j:Nat):Option (Addr × Addr × Bool):=ρ[j]?.bind LV.ciOf
inductive Lr(ρ:List LV)(j:Nat)(Q:Addr × Addr × Bool->Prop):Prop where
 |mk (it f:Addr) (l:Bool) (e:ρ[j]? =some (.ci it f l)) (q:Q (it,f,l))
theorem Ei{ρ:List LV}{j:Nat}{Q:Addr × Addr × Bool->Prop}(h:Ok (Gr ρ j) Q):Lr ρ j Q:=by
 refine a7 ((Ok.bind h).eq) λlv e h=>?_
 cases lv with
 |ci it f l=>exact⟨it,f,l,e,h⟩
 |_=>exact h.elim
noncomputable def uA(K:DS)(p:Fl × List LV × Lx):Option (Fl × List LV × Lx):=match p.1 with
 |.nxt=>K p.2.1 p.2.2
 |.cont=>K p.2.1 p.2.2
 |.brk=>some (.nxt,p.2)
 |.ret v=>some (.ret v,p.2)
noncomputable def xx(j c:Nat)(g:DS)(it f:Addr):Nat->DS
 |0=>λ_ _=>none
 |k+1=>λρ lx=>(Gr ρ j).bind λq=>if decide (q.1=it/\q.2.1=f)=true then(if q.2.2=true then lx.bind λa=>if a.2.okR=true then(if a.2.rest.isEmpty=true then some (.nxt,ρ.set j (.ci it f false),lx)
   else(g (ρ.set c (.dat (.str a.2.rd.1))) (some (a.1,a.2.rdb))).bind (uA (xx j c g it f k)))else none else some (.nxt,ρ,lx))else none
noncomputable def DS.ciFor(j c:Nat)(f:Addr)(g:DS):DS:=λρ lx=>(Gr ρ j).bind λq=>xx j c g q.1 f fuel ρ lx
def tJ(rd:DF):Prop:=∀a t,t.okR=true->rd [.lex] (some (a,t))=some (.dat (.str t.rd.1),some (a,t.rdb))
section
variable{C:Cx}{K:Frag}{A:Around}{s:ab}{n:Nat}{sc:Scope}{ρ:List LV}{lx:Lx}{env:Env}{ok okb:Addr->Prop}{og:Nat->List Addr}{μ:Str->Option Value}{j c:Nat}{y z:Str}{ky kz:az}{it f:Addr}{a:cH}{t:LexSt}{rd:DF}
theorem eL{i:Nat}{x:Str}{k:az}{lv:LV}{v:Value}{pos:Pos}{Q:Value->ab->Prop}(E:aY sc env)(S:St C sc env ρ lx ok okb og μ s)(a:d5 sc.names ρ i x k lv)(hk:k=.local\/k=.cell)(hv:μ x=some v)(hd:(x==("__debug__":Str))=false)(h:Q v s):ar C.M A (eval (.Name x pos) env) Q bJ s:=by
 have hl:=cS E.nodup a.get.1
 rcases hk with rfl|rfl
 ·exact by refine a7 S.ns λm hn hm=>?_;exact dG (eQ (by rw[E.scope];exact E.kind) (E.at a.get.1) hn ((hm x hl).trans hv) h) hd
 ·exact by refine a7 (S.cell x hl) λc hc hcell=>?_;exact dG (uL (by rw[E.scope];exact E.kind) (E.at a.get.1) hc (hv▸hcell) h) hd
theorem St.mutC{h':Heap}(E:aY sc env)(S:St C sc env ρ lx ok okb og μ s)(a:d5 sc.names ρ j y ky (.ci it f true))(hz:s.heap.objs.size<=h'.objs.size)
  (hk:∀b o,b≠it->s.heap.get? b=some o->h'.get? b=some o)(hi:h'.get? it=some (iZ .none .none (.bool true))):
  St C sc env (ρ.set j (.ci it f false)) lx ok okb og μ {s with heap:=h'}/\kh env lx lx ok okb ok okb og og s {s with heap:=h'}:=by
 refine nG λkG=>?_;obtain⟨bm,b,t,e1,e2,e3,hm,t0,hc⟩:=S.vars j y ky _ a.get.1 a.get.2
 refine kG ?_
 have hb:=S.owns j it (e2▸.head _)
 have g:aH (λc=>c=it) cx s {s with heap:=h'}:=
  ⟨λb o hb e=>hk b o hb e,λb o q _ e=>hk b o (λq'=>absurd (congrArg ii (ao ((q'▸e).symm.trans hc))|>.symm.trans q) (by dsimp only;decide)) e,hz,λ_ _ _ e=>e,ai _,λx=>x,rfl,ai _⟩
 have nfr:∀c,i8 env c->¬c=it:=λc w q=>S.frPlain (q▸w) hc (.inr ⟨_,rfl⟩)
 have nl:∀c,(∃vs,dj s.heap c vs)->¬c=it:=by rintro c ⟨vs,n',l⟩ q;exact by cases(show Data.seq vs n'=Data.fields _ from congrArg fW (ao (l.symm.trans (q▸hc))))
 refine⟨{
  wd:=S.wd.grow g λc q=>q▸hb.2.2
  okf:=S.okf.grow g
  sub:=S.sub
  len:=by rw[dL];exact S.len
  ns:=by refine nG λkG=>?_;obtain⟨m,n,r⟩:=S.ns;refine kG ?_;exact⟨m,Ns.at n λo=>g.heap _ o (nfr _ (.inl rfl)),r⟩
  cell:=λy e=>by refine nG λkG=>?_;obtain⟨c,e1,e2⟩:=S.cell y e;refine kG ?_;exact⟨c,e1,IsCell.at e2 λo=>g.heap _ o (nfr _ (.inr ⟨y,e1⟩))⟩
  cellx:=λy c e=>by obtain⟨v,e2⟩:=S.cellx y c e;exact⟨v,IsCell.at e2 λo=>g.heap _ o (nfr _ (.inr ⟨y,e⟩))⟩
  vars:=λj' y' k' lv' f1 f2=>by
   by_cases hj:j'=j
   ·subst hj
    cases ao (a.get.1.symm.trans f1)
    rw[dT (by rw[S.len];exact(List.getElem?_eq_some_iff.mp a.get.1).1)]at f2
    cases f2
    exact Y3 bm b t ⟨e1,e2,e3,g.heap _ _ (λq=>(List.nodup_cons.mp (e2▸S.ownd j')).1 (q▸.head _)) hm,hi⟩
   ·rw[bU (Ne.symm hj)]at f2
    exact jf.move g .refl (λc _ l=>nl c l) (λc _ l=>nl c l) (λ_ _ o=>o) (λ_ _ o=>o) (λc m q=>hj (S.ownx j' j c m (e2▸q▸.head _))) (S.vars j' y' k' lv' f1 f2)
  owns:=S.owns
  ownd:=S.ownd
  ownx:=S.ownx
  lxr:=S.lxr.part λc o w e=>g.heap c o (λq=>S.lxok it hb.1 (q▸w)) e
  lxok:=S.lxok
  lxf:=S.lxf
  lx0:=S.lx0
  fr0:=S.fr0},.refl,λ_ o=>o,λ_ _ o=>o,λ_ o=>o,λ_ _ o=>o,λj c m=>.inl ⟨j,m⟩,g.mono (λc q=>.inl (.inr (.inr ⟨j,q▸e2▸.head _⟩))) (λ_ w=>w.elim)⟩
structure uK(C:Cx)(f:Addr):Prop where
 ne:f≠C.tab
 ex:∃o fd,C.h₀.get? f=some o/\o.data=.func fd
theorem Gn{Q:Option Value->ab->Prop}(hf:dE C n f rd)(hfo:uK C f)(hrd:tJ rd)(R:bj (n+1) A)(E:aY sc env)(S:St C sc env ρ (some (a,t)) ok okb og μ s)(e:d5 sc.names ρ j y ky (.ci it f true))(hz:t.okR=true)
  (h0:t.rest=[]->∀s₁,St C sc env (ρ.set j (.ci it f false)) (some (a,t)) ok okb og μ s₁->kh env (some (a,t)) (some (a,t)) ok okb ok okb og og s s₁->Q none s₁)
  (h1:t.rest≠[]->∀tk s₁,St C sc env ρ (some (a,t.rdb)) ok okb og μ s₁->kh env (some (a,t)) (some (a,t.rdb)) ok okb ok okb og og s s₁->(∃x1 y1 z1,s₁.heap.get? it=some (iZ x1 y1 z1))->Q (some (.str t.rd.1 tk)) s₁):ar C.M A (ew (.ref it)) Q bJ s:=by
 refine nG λkG=>?_;obtain⟨bm,b,t',e1,e2,e3,hm,t0,hc⟩:=S.vars j y ky _ e.get.1 e.get.2
 refine kG ?_
 cases e3
 refine nG λkG=>?_;obtain⟨o,fd,ho,hd'⟩:=hfo.ex
 refine kG ?_
 have nl:∀c∈[it,bm],¬W (some (a,t)) c:=λc m w=>S.lxok c (S.owns j c (e2▸m)).1 (cC w)
 refine Go R.hh hc hm (S.wd.kept _ _ hfo.ne ho) hd' (qg (method_call hm (qA (hf.run (Q:=λr l=>r=.dat (.str t.rd.1)/\l=some (a,t.rdb)) (.of (hrd a t hz) ⟨rfl,rfl⟩) R.in1 S.wx (.cons ⟨a,t,rfl,rfl⟩ .nil)) λv s₁ p=>?_)))
 refine nG λkG=>?_;obtain⟨r0,l0,⟨rfl,rfl⟩,rv,sa,lr,gg⟩:=p
 obtain⟨tz,rfl⟩:=Rd.str_inv rv
 refine kG ?_
 have S1:=S.grow gg sa lr
 have k1:=gg.heap _ _ (nl _ (.head _)) hc
 exact⟨_,tz,rfl,k1,gg.heap _ _ (nl _ (.tail _ (.head _))) hm,S1.wd.kept _ _ hfo.ne ho,λqz=>h1 (λhn=>qz (CD hn).1) tz _ S1 (.of_grow gg sa) ⟨_,_,_,k1⟩,λqz h' hk hi hzz=>by
  cases hr:t.rest with
  |nil=>
   obtain⟨S2,c2⟩:=St.mutC E S1 e hzz hk hi
   rw[(CD hr).2]at S2 c2 sa
   exact h0 hr _ S2 ((kh.of_grow gg sa).trans c2)
  |cons x q=>exact absurd qz (JN hz (hr▸List.cons_ne_nil _ _))⟩
inductive Hr(C:Cx)(sc:Scope)(env:Env)(j c:Nat)(g:DS)(it f:Addr)(P:Fl->List LV->Lx->Prop)(lx:Lx)(ok okb:Addr->Prop)(og:Nat->List Addr)(s:ab)(k:Nat)(s':ab):Prop where
 |mk (ρ':List LV) (lx':Lx) (ok' okb':Addr->Prop) (og':Nat->List Addr) (μ':Str->Option Value) (q:Ok (xx j c g it f k ρ' lx') λp=>P p.1 p.2.1 p.2.2) (st:St C sc env ρ' lx' ok' okb' og' μ' s') (nb:cZ ρ') (ch:kh env lx lx' ok okb ok' okb' og og' s s')
theorem Gp{body:List Stmt}{g:DS}{pz:Pos}{P:Fl->List LV->Lx->Prop}{lx₀:Lx}{ok₀ okb₀:Addr->Prop}{og₀:Nat->List Addr}{s₀:ab}{k:Nat}{x:Str}{tk:Tok}(R:bj n A)(E:aY sc env)(bz:eP sc.names c z kz)(hkz:jW kz)(hg:SS C n sc body g)
  (q:Ok ((g (ρ.set c (.dat (.str x))) lx).bind (uA (xx j c g it f k))) λp=>P p.1 p.2.1 p.2.2)(S:St C sc env ρ lx ok okb og μ s)(B:cZ ρ)(ch:kh env lx₀ lx ok₀ okb₀ ok okb og₀ og s₀ s)(hci:∃x1 y1 z1,s.heap.get? it=some (iZ x1 y1 z1)):
  ar C.M A (cD (.Name z pz) (.ref it) (.str x tk)) (λ_ s₁=>ar C.M A (s7 (.Name z pz) env (.str x tk)) (λ_ s₂=>ar C.M A (kj body env) (vU (i7 C sc env lx₀ ok₀ okb₀ og₀ s₀ P) (Hr C sc env j c g it f P lx₀ ok₀ okb₀ og₀ s₀) (k+1)) bJ s₂) bJ s₁) bJ s:=by
 refine Kz hci λ_ _ _ hci=>?_
 have hc:c < ρ.length:=by rw[S.len];exact(List.getElem?_eq_some_iff.mp bz.get).1
 refine mU (c:="callable_iterator") hci rfl (by decide) (IX (fz:=true) (d:=.str x) E S (bz.at (aD hc)) hkz Rd.str (λe=>by cases e) λs₅ h₅=>?_)
 refine nG λkG=>?_;obtain⟨og₅,μ₅,S5,nb,_,sub,g5⟩:=h₅
 refine kG ?_
 refine al ((hg.ok (P:=λfl ρ l=>Ok (uA (xx j c g it f k) (fl,ρ,l)) λp=>P p.1 p.2.1 p.2.2) (Ok.bind q)).here R E S5 (nb rfl B) (ch.trans (.of_asg g5 sub))) (λfl' s₆ h₆=>?_) λ_ _ x=>x
 refine nG λkG=>?_;obtain⟨f6,ρ₆,lx₆,ok₆,okb₆,og₆,μ₆,q6,fr,S6,B6,c6⟩:=h₆
 refine kG ?_
 cases f6 with
 |nxt=>obtain rfl:=fr.nxt;exact⟨k,bC _,_,_,_,_,_,_,q6,S6,B6,c6⟩
 |cont=>obtain rfl:=fr.cont;exact⟨k,bC _,_,_,_,_,_,_,q6,S6,B6,c6⟩
 |brk=>obtain rfl:=fr.brk;exact .at (f:=.nxt) q6 trivial S6 B6 c6
 |ret r=>refine nG λkG=>?_;obtain⟨v,rfl,rv⟩:=fr.ret;refine kG ?_;exact .at (f:=.ret r) q6 rv S6 B6 c6
theorem S1.ciFor{body:List Stmt}{g:DS}{py pz pos:Pos}(hf:dE C n f rd)(hfo:uK C f)(hrd:tJ rd)(by':eP sc.names j y ky)(hky:jW ky)(hd:(y==("__debug__":Str))=false)(bz:eP sc.names c z kz)(hkz:jW kz)(hg:SS C (n+1) sc body g):
  S1 C (n+1) sc (.For (.Name z pz) (.Name y py) body [] pos) (.ciFor j c f g):=.of λρ lx P h=>by
 obtain⟨it,f0,l0,ej,h⟩:=Ei (Ok.bind h)
 intro A env ok okb og μ s R E S B
 obtain⟨hμ,hci⟩:μ y=some (.ref it)/\∃x y z,s.heap.get? it=some (iZ x y z):=by
  refine Kw (S.vars j y ky _ by'.get ej) λbm b t e1 _ _ _ hc=>?_
  cases l0 with
  |true=>refine cU hc λt0 hc=>?_;exact⟨e1,_,_,_,hc⟩
  |false=>exact⟨e1,_,_,_,hc⟩
 refine Kz hci λ_ _ _ hci=>?_
 refine xk (λ_=>rfl) (eL E S (by'.at ej) hky hμ hd (AQ hci ⟨Hr C sc env j c g it f P lx ok okb og s,⟨fuel,ρ,lx,ok,okb,og,μ,h,S,B,.refl⟩,λk s' I=>?_⟩))
 obtain⟨ρ',lx',ok',okb',og',μ',q,S',B',ch⟩:=I
 cases k with
 |zero=>exact q.elim
 |succ k=>
  obtain⟨it',f',live,ej',q⟩:=Ei (Ok.bind q)
  obtain⟨hif,q⟩:=Ok.iff' q
  obtain rfl:=(hif.1:it'=it)
  obtain rfl:=(hif.2:f'=f)
  cases live with
  |false=>
   obtain⟨bm,b,t,e1,e2,e3,hm,hc⟩:=S'.vars j y ky _ by'.get ej'
   exact al (bR (Q:=λr s₁=>r=bc/\bG s' s₁) (Eg R.hh hc λh' hk ht hz=>⟨rfl,.of_keep (t:=s'.toks) (ai _) hz hk⟩)) (λr s₃ h₃=>h₃.1▸.at (f:=.nxt) q trivial (S'.grow0 h₃.2) B' (ch.trans (.of_grow h₃.2.of0 .refl))) λ_ _ x=>x.elim
  |true=>
   obtain⟨⟨b,t⟩,rfl,q⟩:=(Ok.bind q).eq
   obtain⟨hz,q⟩:=Ok.iff q
   refine Gn hf hfo hrd R E S' (by'.at ej') hz (λhn s₃ S3 c3=>?_) λhn tk s₃ S3 c3 hci=>?_
   ·rcases Ok.ite q with⟨_,q⟩|⟨e,_⟩
    ·exact .at (f:=.nxt) q trivial S3 (B'.set λd e=>nomatch e) (ch.trans c3)
    ·exact nomatch e.symm.trans (List.isEmpty_iff.mpr hn)
   ·rcases Ok.ite q with⟨e,_⟩|⟨_,q⟩
    ·exact absurd (List.isEmpty_iff.mp e) hn
    ·exact Gp R E bz hkz hg q S3 B' (ch.trans c3) hci
end
set_option maxHeartbeats 8000000
noncomputable def HQ:Stmt:=((bh 21)[0]?).getD (.Pass ⟨0,0,0,0⟩)
noncomputable def eZ:{g:DS // ∀(C:Cx) (n:Nat),fE C->SS C (n+2) (aE 4) (bh 4) g} ×
  {g:DS // ∀(C:Cx) (n:Nat),fE C->SS C (n+2) (aE 5) (bh 5) g} ×
  {g:DS // ∀(C:Cx) (n:Nat),fE C->gS C (n+2)->SS C (n+2) (aE 8) (bh 8) g} ×
  ((a:DF)->{g:DS // ∀(C:Cx) (n:Nat),fE C->gS C (n+2)->i6 C (n+2) "_strip_quoted_realnames" a->SS C (n+2) (aE 9) (bh 9) g}) ×
  {g:DS // ∀(C:Cx) (n:Nat),fE C->SS C (n+2) (aE 12) (bh 12) g} ×
  ((a:DF)->{g:DS // ∀(C:Cx) (n:Nat),fE C->i6 C (n+2) "_check_parenthesis" a->SS C (n+2) (aE 13) (bh 13) g}) ×
  {g:DS // ∀(C:Cx) (n:Nat),fE C->gS C (n+2)->SS C (n+2) (aE 14) (bh 14) g} ×
  {g:DS // ∀(C:Cx) (n:Nat),fE C->SS C (n+2) (aE 15) (bh 15) g} ×
  ((a b:DF)->{g:DS // ∀(C:Cx) (n:Nat),fE C->gS C (n+2)->i6 C (n+2) "bisect_left" a->i6 C (n+2) "bisect_right" b->EC C (n+2) b->SS C (n+2) (aE 16) (bh 16) g}) ×
  {g:DS // ∀(C:Cx) (n:Nat),fE C->SS C (n+2) (aE 17) (bh 17) g} ×
  ((a:DF)->{g:DS // ∀(C:Cx) (n:Nat),fE C->gS C (n+2)->i6 C (n+2) "bisect_right" a->SS C (n+2) (aE 18) (bh 18) g}) ×
  {g:DS // ∀(C:Cx) (n:Nat),fE C->SS C (n+2) (aE 19) (bh 19) g} ×
  {g:DS // ∀(C:Cx) (n:Nat),fE C->gS C (n+2)->SS C (n+2) (aE 20) (bh 20) g} ×
  ((a b c d e f h i j:DF)->{g:DS // ∀(C:Cx) (n:Nat),fE C->gS C (n+2)->i6 C (n+2) "_strip_quoted_realnames" a->i6 C (n+2) "_law_by_nest" b->i6 C (n+2) "_law_by_line" c->i6 C (n+2) "_law_by_choice" d->i6 C (n+2) "_law_passed" e->i6 C (n+2) "_law_pairs" f->i6 C (n+2) "_law_tables" h->i6 C (n+2) "_law_longest" i->i6 C (n+2) "_law_over" j->SS C (n+2) (aE 21) ((bh 21).drop 2) g}) ×
  ((a:DF)->{g:DS // ∀(C:Cx) (n:Nat),fE C->i6 C (n+2) "_law_drawn" a->S1 C (n+2) (aE 21) HQ g}) ×
  {g:DS // ∀(C:Cx) (n:Nat) (K:Frag),fv C K->ru C (n+2)->SS C (n+2) (cv 1) (dD 1) g} ×
  {g:DS // ∀(C:Cx) (n:Nat) (K:Frag),fv C K->SS C (n+2) (cv 3) (dD 3) g} ×
  (∀(fa:Addr) (rd:DF),{g:DS // ∀(C:Cx) (n:Nat) (K:Frag),fv C K->fD C K "_read_char" fa->kg C (n+2) (.ref fa) rd->dE C (n+1) fa rd->uK C fa->tJ rd->SS C (n+2) (cv 2) ((dD 2).drop 3) g}):=by
 refine⟨?_,?_,?_,?_,?_,?_,?_,?_,?_,?_, ?t,?_, ?o,?_,?_,?_,?_,?_⟩
 all_goals intros
 all_goals apply cK
 all_goals intros
 all_goals first|show SS _ _ ⟨_,_,_,_,_⟩ (_::_) _|show S1 _ _ ⟨_,_,_,_,_⟩ (.Assign _ _ _) _|skip
 case' t.property=>apply SS.cons (gS.new2 ‹_› (by(repeat constructor);first|done|fail) (by first|exact .inl rfl|exact .inr rfl))
 case' o.property=>apply SS.cons (S1.asg (by(repeat constructor);first|done|fail) (by first|exact .inl rfl|exact .inr rfl) (gS.sortP ‹_› (by(repeat constructor);first|done|fail) (SE.nm (by(repeat constructor);first|done|fail) (by first|exact .inl rfl|exact .inr rfl) (by with_unfolding_all decide+kernel)) rfl) (by intro _;rfl))
 all_goals repeat' first
  |with_reducible first
   |apply SE.readD ‹_› ‹_› (by(repeat constructor);first|done|fail) (by first|exact .inl rfl|exact .inr rfl) (by with_unfolding_all decide+kernel)|apply SE.pbPop ‹_› (by(repeat constructor);first|done|fail) (by first|exact .inl rfl|exact .inr rfl) (by with_unfolding_all decide+kernel)|apply SE.ws ‹_› (by(repeat constructor);first|done|fail) (by first|exact .inl rfl|exact .inr rfl) (by with_unfolding_all decide+kernel)|apply SE.meth ‹_› ‹_› ‹_› (by(repeat constructor);first|done|fail) (by first|exact .inl rfl|exact .inr rfl) (by with_unfolding_all decide+kernel)|apply SB.pb ‹_› (by(repeat constructor);first|done|fail) (by first|exact .inl rfl|exact .inr rfl) (by with_unfolding_all decide+kernel)|exact S1.cont|apply S1.bump ‹_› (by(repeat constructor);first|done|fail) (by first|exact .inl rfl|exact .inr rfl) (by with_unfolding_all decide+kernel)|apply S1.pbApp ‹_› (by(repeat constructor);first|done|fail) (by first|exact .inl rfl|exact .inr rfl) (by with_unfolding_all decide+kernel)|apply S1.ciFor ‹_› ‹_› ‹_› (by(repeat constructor);first|done|fail) (by first|exact .inl rfl|exact .inr rfl) (by with_unfolding_all decide+kernel) (by(repeat constructor);first|done|fail) (by first|exact .inl rfl|exact .inr rfl)
   |exact SE.int|exact SE.str|exact SE.bool|exact SE.none|exact SE.key|exact SL.nil|exact SS.nil|exact SO.no|exact SB.andNil|exact SB.orNil|exact xR.nil|exact EV.nil|exact jg.nil|exact S1.raise|exact S1.brk
   |apply SE.nm (by(repeat constructor);first|done|fail)|apply SE.bin|apply SE.cut|apply SE.item
   |apply SE.call (fE.k ‹_›) (by(repeat constructor);first|done|fail) (by first|exact fE.len ‹_›|exact fE.sum ‹_›|exact fE.max ‹_›|exact fE.min ‹_›|exact fE.sorted ‹_›|exact fE.range ‹_›|exact fE.enumerate ‹_›|assumption) (by first|exact .builtin|exact .type|assumption) (by first|exact FQ|exact Fb|exact FK|exact FJ|exact Cp|assumption)
   |apply SE.callU (fE.k ‹_›) (by(repeat constructor);first|done|fail) ‹_›
   |apply SE.list|apply SE.tupX|apply SE.cmp|apply SE.compW|apply SE.neg|apply SE.ite|apply SE.join|apply SE.count|apply SE.index|apply SE.repl
   |apply gS.tok ‹_› (by(repeat constructor);first|done|fail)|apply gS.line ‹_› (by(repeat constructor);first|done|fail)|apply gS.push ‹_› (by(repeat constructor);first|done|fail)|apply gS.zip ‹_› (by(repeat constructor);first|done|fail) (by(repeat constructor);first|done|fail)
   |apply SE.sortRev (fE.k ‹_›) (by(repeat constructor);first|done|fail) (by first|exact fE.len ‹_›|exact fE.sum ‹_›|exact fE.max ‹_›|exact fE.min ‹_›|exact fE.sorted ‹_›|exact fE.range ‹_›|exact fE.enumerate ‹_›|assumption)
   |apply SL.cons|apply SB.cmp|apply SB.and|apply SB.or|apply SB.chain|apply SB.val|apply SO.of|apply SS.cons
   |apply S1.new (by(repeat constructor);first|done|fail)|apply gS.insIf ‹_› (by(repeat constructor);first|done|fail) (by first|exact .inl rfl|exact .inr rfl) (by with_unfolding_all decide+kernel) (by(repeat constructor);first|done|fail) ‹_›|apply S1.ite|apply S1.ret
   |apply gS.set2 ‹_› (by(repeat constructor);first|done|fail) (by first|exact .inl rfl|exact .inr rfl) (by with_unfolding_all decide+kernel)|apply gS.app2e ‹_› (by(repeat constructor);first|done|fail) (by first|exact .inl rfl|exact .inr rfl) (by with_unfolding_all decide+kernel)|apply gS.app2 ‹_› (by(repeat constructor);first|done|fail) (by first|exact .inl rfl|exact .inr rfl) (by with_unfolding_all decide+kernel)|apply gS.fil2 ‹_› (by(repeat constructor);first|done|fail) (by with_unfolding_all decide+kernel) (by repeat first|exact jg.nil|apply jg.cap (by(repeat constructor);first|done|fail)|apply jg.un (by with_unfolding_all decide+kernel)) (by(repeat constructor);first|done|fail) (by with_unfolding_all decide+kernel)|apply gS.comp2 ‹_› (by(repeat constructor);first|done|fail) (by with_unfolding_all decide+kernel) (by repeat first|exact jg.nil|apply jg.cap (by(repeat constructor);first|done|fail)|apply jg.un (by with_unfolding_all decide+kernel)) (by(repeat constructor);first|done|fail)
   |apply S1.asgT|apply S1.compW (by(repeat constructor);first|done|fail)|apply S1.compOW (by(repeat constructor);first|done|fail)|apply S1.asg (by(repeat constructor);first|done|fail) (by first|exact .inl rfl|exact .inr rfl)|apply S1.aug (by(repeat constructor);first|done|fail) (by first|exact .inl rfl|exact .inr rfl)|apply S1.for|apply S1.while 64|apply S1.app (by(repeat constructor);first|done|fail) (by first|exact .inl rfl|exact .inr rfl)|apply S1.rem (by(repeat constructor);first|done|fail) (by first|exact .inl rfl|exact .inr rfl)
   |apply gS.gen ‹_› (by(repeat constructor);first|done|fail)|apply SI.range (fE.k ‹_›) (by(repeat constructor);first|done|fail) (by first|exact fE.len ‹_›|exact fE.sum ‹_›|exact fE.max ‹_›|exact fE.min ‹_›|exact fE.sorted ‹_›|exact fE.range ‹_›|exact fE.enumerate ‹_›|assumption)|apply SI.enum (fE.k ‹_›) (by(repeat constructor);first|done|fail) (by first|exact fE.len ‹_›|exact fE.sum ‹_›|exact fE.max ‹_›|exact fE.min ‹_›|exact fE.sorted ‹_›|exact fE.range ‹_›|exact fE.enumerate ‹_›|assumption)|apply SI.val
   |apply SM.tup2|apply SM.pop (by(repeat constructor);first|done|fail) (by first|exact .inl rfl|exact .inr rfl)|apply SM.of|apply SC.one|apply SC.more|apply xR.cons|apply wc.nm (by(repeat constructor);first|done|fail) (by first|exact .inl rfl|exact .inr rfl)|apply wc.tup|apply EV.cons (by(repeat constructor);first|done|fail) (by first|exact .inl rfl|exact .inr rfl)
   |apply ED.one|apply ED.two|apply jg.cap (by(repeat constructor);first|done|fail)|apply jg.un (by with_unfolding_all decide+kernel)
  |exact Or.inl rfl|exact Or.inr rfl
  |((with_reducible show _=_);first|decide+kernel|exact rfl|with_unfolding_all exact rfl)
  |((with_reducible show ∀_:Env,_);intros;rfl)
  |((with_reducible first|show _<=_|show x3 _|show ∀x∈_,_);decide+kernel)
  |exact ny _
noncomputable def qw:{g:DS // ∀{C:Cx} {n:Nat},fE C->SS C (n+2) (aE 4) (bh 4) g}:=by
 apply cK;intro C n;have h:=eZ.1.2 C n;dsimp only[eZ]at h;exact h
noncomputable def fBisR:DF:=sH true 8 [0,1,2,3,4] qw.val 4 [.dat (.int 0),.dat .none,.dat .none]
noncomputable def zI:{g:DS // ∀{C:Cx} {n:Nat},fE C->SS C (n+2) (aE 5) (bh 5) g}:=by
 apply cK;intro C n;have h:=eZ.2.1.2 C n;dsimp only[eZ]at h;exact h
noncomputable def fBisL:DF:=sH true 8 [0,1,2,3,4] zI.val 4 [.dat (.int 0),.dat .none,.dat .none]
noncomputable def yJ:{g:DS // ∀{C:Cx} {n:Nat},fE C->gS C (n+2)->SS C (n+2) (aE 8) (bh 8) g}:=by
 apply cK;intro C n;have h:=eZ.2.2.1.2 C n;dsimp only[eZ]at h;exact h
noncomputable def fStrip:DF:=dZ false 8 [0] yJ.val
noncomputable def yM:{g:DS // ∀{C:Cx} {n:Nat},fE C->gS C (n+2)->i6 C (n+2) "_strip_quoted_realnames" fStrip->SS C (n+2) (aE 9) (bh 9) g}:=by
 apply cK;intro C n;have h:=(eZ.2.2.2.1 fStrip).2 C n;dsimp only[eZ]at h;exact h
noncomputable def fCheck:DF:=dZ false 6 [0] yM.val
noncomputable def yL:{g:DS // ∀{C:Cx} {n:Nat},fE C->SS C (n+2) (aE 12) (bh 12) g}:=by
 apply cK;intro C n;have h:=eZ.2.2.2.2.1.2 C n;dsimp only[eZ]at h;exact h
noncomputable def fDrawn:DF:=dZ false 13 [0] yL.val
noncomputable def DH:{g:DS // ∀{C:Cx} {n:Nat},fE C->i6 C (n+2) "_check_parenthesis" fCheck->SS C (n+2) (aE 13) (bh 13) g}:=by
 apply cK;intro C n;have h:=(eZ.2.2.2.2.2.1 fCheck).2 C n;dsimp only[eZ]at h;exact h
noncomputable def fNest:DF:=dZ false 8 [0,1] DH.val
noncomputable def DJ:{g:DS // ∀{C:Cx} {n:Nat},fE C->gS C (n+2)->SS C (n+2) (aE 14) (bh 14) g}:=by
 apply cK;intro C n;have h:=eZ.2.2.2.2.2.2.1.2 C n;dsimp only[eZ]at h;exact h
noncomputable def fLine:DF:=dZ false 7 [0,1,2] DJ.val
noncomputable def vA:{g:DS // ∀{C:Cx} {n:Nat},fE C->SS C (n+2) (aE 15) (bh 15) g}:=by
 apply cK;intro C n;have h:=eZ.2.2.2.2.2.2.2.1.2 C n;dsimp only[eZ]at h;exact h
noncomputable def fChoice:DF:=dZ false 10 [0,1,2,3] vA.val
noncomputable def vz:{g:DS // ∀{C:Cx} {n:Nat},fE C->gS C (n+2)->i6 C (n+2) "bisect_left" fBisL->i6 C (n+2) "bisect_right" fBisR->EC C (n+2) fBisR->SS C (n+2) (aE 16) (bh 16) g}:=by
 apply cK;intro C n;have h:=(eZ.2.2.2.2.2.2.2.2.1 fBisL fBisR).2 C n;dsimp only[eZ]at h;exact h
noncomputable def fPassed:DF:=dZ false 12 [0] vz.val
noncomputable def yK:{g:DS // ∀{C:Cx} {n:Nat},fE C->SS C (n+2) (aE 17) (bh 17) g}:=by
 apply cK;intro C n;have h:=eZ.2.2.2.2.2.2.2.2.2.1.2 C n;dsimp only[eZ]at h;exact h
noncomputable def fPairs:DF:=dZ false 3 [0] yK.val
noncomputable def vy:{g:DS // ∀{C:Cx} {n:Nat},fE C->gS C (n+2)->i6 C (n+2) "bisect_right" fBisR->SS C (n+2) (aE 18) (bh 18) g}:=by
 apply cK;intro C n;have h:=(eZ.2.2.2.2.2.2.2.2.2.2.1 fBisR).2 C n;dsimp only[eZ]at h;exact h
noncomputable def fTables:DF:=dZ false 13 [0] vy.val
noncomputable def sn:{g:DS // ∀{C:Cx} {n:Nat},fE C->SS C (n+2) (aE 19) (bh 19) g}:=by
 apply cK;intro C n;have h:=eZ.2.2.2.2.2.2.2.2.2.2.2.1.2 C n;dsimp only[eZ]at h;exact h
noncomputable def fLongest:DF:=dZ false 6 [0] sn.val
noncomputable def DG:{g:DS // ∀{C:Cx} {n:Nat},fE C->gS C (n+2)->SS C (n+2) (aE 20) (bh 20) g}:=by
 apply cK;intro C n;have h:=eZ.2.2.2.2.2.2.2.2.2.2.2.2.1.2 C n;dsimp only[eZ]at h;exact h
noncomputable def fOver:DF:=dZ false 5 [0] DG.val
noncomputable def DK:{g:DS // ∀{C:Cx} {n:Nat},fE C->gS C (n+2)->i6 C (n+2) "_strip_quoted_realnames" fStrip->i6 C (n+2) "_law_by_nest" fNest->i6 C (n+2) "_law_by_line" fLine->i6 C (n+2) "_law_by_choice" fChoice->i6 C (n+2) "_law_passed" fPassed->i6 C (n+2) "_law_pairs" fPairs->i6 C (n+2) "_law_tables" fTables->i6 C (n+2) "_law_longest" fLongest->i6 C (n+2) "_law_over" fOver->SS C (n+2) (aE 21) ((bh 21).drop 2) g}:=by
 apply cK;intro C n;have h:=(eZ.2.2.2.2.2.2.2.2.2.2.2.2.2.1 fStrip fNest fLine fChoice fPassed fPairs fTables fLongest fOver).2 C n;dsimp only[eZ]at h;exact h
noncomputable def DB:{g:DS // ∀{C:Cx} {n:Nat},fE C->i6 C (n+2) "_law_drawn" fDrawn->S1 C (n+2) (aE 21) HQ g}:=by
 apply cK;intro C n;have h:=(eZ.2.2.2.2.2.2.2.2.2.2.2.2.2.2.1 fDrawn).2 C n;dsimp only[eZ]at h;exact h
noncomputable def K4:{g:DS // ∀{C:Cx} {n:Nat} {K:Frag},fv C K->ru C (n+2)->SS C (n+2) (cv 1) (dD 1) g}:=by
 apply cK;intro C n K;have h:=eZ.2.2.2.2.2.2.2.2.2.2.2.2.2.2.2.1.2 C n K;dsimp only[eZ]at h;exact h
noncomputable def fRd:DF:=dZ false 2 [0] K4.val
noncomputable def DD:{g:DS // ∀{C:Cx} {n:Nat} {K:Frag},fv C K->SS C (n+2) (cv 3) (dD 3) g}:=by
 apply cK;intro C n K;have h:=eZ.2.2.2.2.2.2.2.2.2.2.2.2.2.2.2.2.1.2 C n K;dsimp only[eZ]at h;exact h
noncomputable def fPush:DF:=dZ false 2 [0,1] DD.val
noncomputable def Hg(fa:Addr)(rd:DF):{g:DS // ∀{C:Cx} {n:Nat} {K:Frag},fv C K->fD C K "_read_char" fa->kg C (n+2) (.ref fa) rd->dE C (n+1) fa rd->uK C fa->tJ rd->SS C (n+2) (cv 2) ((dD 2).drop 3) g}:=by
 apply cK;intro C n K;have h:=(eZ.2.2.2.2.2.2.2.2.2.2.2.2.2.2.2.2.2 fa rd).2 C n K;dsimp only[eZ]at h;exact h
set_option maxHeartbeats 8000000
theorem Cc{C:Cx}{n:Nat}{K:Frag}(k:fv C K){t:DS}(h:SS C (n+2) (cv 2) ((dD 2).drop 2) t):
  SS C (n+2) (cv 2) (dD 2) ((DS.ite (DT.pb 0) ((DS.ret (DE.pbPop 0)).cons DS.nil) DS.nil).cons ((DS.asg 1 (DE.k (.str ""))).cons t)):=by
 show SS C (n+2) ⟨_,_,_,_,_⟩ (_::_::_) _
 refine SS.cons ?_ (SS.cons ?_ h)
 all_goals repeat' first
  |with_reducible first|exact SS.nil|exact SE.str|exact xR.nil|apply S1.ite|apply SB.pb ‹_› (by(repeat constructor);first|done|fail) (by first|exact .inl rfl|exact .inr rfl) (by with_unfolding_all decide+kernel)|apply SS.cons|apply S1.ret|apply SO.of|apply SE.pbPop ‹_› (by(repeat constructor);first|done|fail) (by first|exact .inl rfl|exact .inr rfl) (by with_unfolding_all decide+kernel)|apply S1.asg (by(repeat constructor);first|done|fail) (by first|exact .inl rfl|exact .inr rfl)
  |exact Or.inl rfl|exact Or.inr rfl
  |((with_reducible show _=_);first|decide+kernel|exact rfl|with_unfolding_all exact rfl)
  |((with_reducible show ∀_:Env,_);intros;rfl)
  |((with_reducible first|show _<=_|show x3 _|show ∀x∈_,_);decide+kernel)
structure Jj(c:Str):Prop where
 ws:fK "\n\t\u000d " c=nE c
 len:c.length=1
 ok:bk c=true
theorem iI:∀c∈alpha,Jj c:=by
 have h:∀c∈alpha,fK "\n\t\u000d " c=nE c/\c.length=1/\bk c=true:=by decide+kernel
 exact λc hc=>by refine oG (h c hc) λh1 h2 h3=>?_;exact⟨h1,h2,h3⟩
noncomputable def fr(acc:Str)(it f:Addr)(live:Bool)(w:LV):List LV:=[.lex,.dat (.str acc),.ci it f live,w,.un]
section
variable{c acc:Str}{it f:Addr}{w:LV}{a:cH}{t:LexSt}{rd:DF}{k:Nat}{lx:Lx}
noncomputable abbrev sq(acc:Str)(it f:Addr)(c:Str):List LV:=fr acc it f true (.dat (.str c))
structure KG(t:LexSt)(acc:Str):Prop where
 ok:t.okR=true
 len:acc.length+t.rest.length<=8192
theorem kJ(h:t.okR=true):t.rdb.okR=true:=
 CS (ah (ah (aJ (List.length_tail ..)) (xY _ _)) (lE h).1) λc m=>(lE h).2 c (List.mem_of_mem_tail m)
theorem vc(h:t.okR=true)(hn:¬t.rest.isEmpty=true):t.rd.1∈alpha/\t.rdb.rest.length+1=t.rest.length:=by
 obtain⟨p,r,l⟩:=t
 cases r with
 |nil=>exact absurd rfl hn
 |cons c r=>exact⟨(lE h).2 c (.head _),rfl⟩
theorem CE(h:t.okR=true):t.rd.1.length+t.rdb.rest.length<=t.rest.length/\bk t.rd.1=true:=by
 obtain⟨p,r,l⟩:=t
 cases r with
 |nil=>exact⟨ai 0,show bk ("":Str)=true by decide+kernel⟩
 |cons c r=>
  have f:=iI c ((lE h).2 c (.head _))
  exact⟨aJ ((congrArg (· +r.length) f.len).trans (BM _ _)),f.ok⟩
theorem KG.esc(h:KG t acc)(hn:¬t.rest.isEmpty=true):KG (fu t.rd.1 t.rdb).2 (acc++(fu t.rd.1 t.rdb).1)/\acc.length+(fu t.rd.1 t.rdb).1.length<=16384/\(fu t.rd.1 t.rdb).2.rest.length < t.rest.length:=by
 refine en (vc h.ok hn) λm e=>?_
 have e1:=(iI _ m).len
 have e2:=h.len
 have h2:=kJ h.ok
 have e3:=(CE h2).1
 unfold fu
 cases(t.rd.1==("\\":Str))with
 |true=>
  rw[if_pos rfl]
  exact⟨⟨kJ h2,by show(acc++t.rdb.rd.1).length+t.rdb.rdb.rest.length<=_;rw[mC];exact J5 [Qe (Qs Q3 1) Q4,Ql (Qa Q0 Q4) (Qn 8192),Ql (Qa Q1 Q2) Q3] (Qa (Qa Q0 Q1) Q2) (Qn 8192) 1 [1,1,1] Qt e e2 e3⟩,by show acc.length+t.rdb.rd.1.length<=_;exact J5 [Qe (Qs Q2 1) Q3,Ql (Qa Q0 Q3) (Qn 8192),Ql (Qa Q1 Q4) Q2] (Qa Q0 Q1) (Qn 16384) 1 [1,1,1] Qt e e2 e3,by show t.rdb.rdb.rest.length < _;exact J4 [Qe (Qs Q2 1) Q1,Ql (Qa Q3 Q0) Q2] (Qs Q0 1) Q1 1 [1,1] Qt e e3⟩
 |false=>
  rw[if_neg bY]
  exact⟨⟨h2,by show(acc++t.rd.1).length+t.rdb.rest.length<=_;rw[mC];exact J4 [Qe (Qs Q2 1) Q3,Ql (Qa Q0 Q3) (Qn 8192),Qe Q1 (Qn 1)] (Qa (Qa Q0 Q1) Q2) (Qn 8192) 1 [1,1,1] Qt e e2 e1⟩,by show acc.length+t.rd.1.length<=_;exact J3 [Ql (Qa Q0 Q2) (Qn 8192),Qe Q1 (Qn 1)] (Qa Q0 Q1) (Qn 16384) 1 [1,1] Qt e2 e1,by show t.rdb.rest.length < _;exact J2 [Qe (Qs Q0 1) Q1] (Qs Q0 1) Q1 1 [1] Qt e⟩
theorem yS{i:Nat}{y:Str}{ρ:List LV}(h1:bk c=true)(h2:bk y=true)(h:ρ[i]? =some (.dat (.str c))):DT.cmp .Eq (DE.nm i) (DE.k (.str y)) ρ lx=some (c==y,lx):=ke (aG h) rfl (lM h1 h2)
theorem Du(hc:c∈alpha):DT.cmp .In (DE.nm 3) (DE.ws 0) (sq acc it f c) (some (a,t))=some (nE c,some (a,t)):=ke (aG rfl) rfl (yX.trans (congrArg some (iI c hc).ws))
theorem yF(hc:c∈alpha):DT.cmp .Eq (DE.nm 3) (DE.k (.str "\"")) (sq acc it f c) lx=some (jV c,lx):=yS (iI c hc).ok (by decide+kernel) rfl
theorem Ac(hz:acc.length+c.length<=16384):DS.aug 1 .Add (DE.nm 3) (sq acc it f c) lx=some (.nxt,sq (acc++c) it f c,lx):=by
 show((((if decide (acc.length+c.length<=sizeLine)=true then some (Va.dat (.str (acc++c)))else none).bind λz=>z.lv.map λlv=>(Fl.nxt,(sq acc it f c).set 1 lv,lx)):Option (Fl × List LV × Lx)))=_
 rw[if_pos (decide_eq_true (ah hz (by decide)))]
 rfl
noncomputable def Iu(rd:DF):DS:=DS.ite (DT.cmp .Eq (DE.nm 3) (DE.k (.str "\\"))) ((DS.asg 3 (DE.meth 0 rd DL.nil)).cons DS.nil) DS.nil
theorem zO(hr:tJ rd)(hc:c∈alpha)(h:t.okR=true):Iu rd (sq acc it f c) (some (a,t))=some (.nxt,sq acc it f (fu c t).1,some (a,(fu c t).2)):=by
 have e:DT.cmp .Eq (DE.nm 3) (DE.k (.str "\\")) (sq acc it f c) (some (a,t))=some (c==("\\":Str),some (a,t)):=yS (iI c hc).ok (by decide+kernel) rfl
 cases hb:(c==("\\":Str))with
 |true=>
  rw[hb]at e
  rw[show fu c t=(t.rd.1,t.rdb)from if_pos hb]
  exact(d9 e).trans ((bp (jB (d:=.str t.rd.1) (l1:=some (a,t.rdb)) (hr a t h) (ji (m:=5) (n:=3) (l:=1) rfl))).trans rfl)
 |false=>
  rw[hb]at e
  rw[show fu c t=(c,t)from if_neg (hb▸bY)]
  exact(dW e).trans rfl
def l9(it f:Addr)(a:cH)(q:Str × LexSt)(o:Option (Fl × List LV × Lx)):Prop:=Ok o λp=>p.2.2=some (a,q.2)/\(p.1=.ret (.dat (.str q.1))\/p.1=.nxt/\∃w,p.2.1=fr q.1 it f false w)
theorem l9.ret{q:Str × LexSt}{ρ:List LV}:l9 it f a q (some (.ret (.dat (.str q.1)),ρ,some (a,q.2))):=⟨rfl,.inl rfl⟩
theorem l9.off{q:Str × LexSt}:l9 it f a q (some (.nxt,fr q.1 it f false w,some (a,q.2))):=⟨rfl,.inr ⟨rfl,w,rfl⟩⟩
theorem Eh{g:DS}{q:Str × LexSt}(hz:t.okR=true)(h0:t.rest.isEmpty=true->q=(acc,t))(h1:¬t.rest.isEmpty=true->l9 it f a q ((g (sq acc it f t.rd.1) (some (a,t.rdb))).bind (uA (xx 2 3 g it f k)))):l9 it f a q (xx 2 3 g it f (k+1) (fr acc it f true w) (some (a,t))):=by
 show l9 it f a q (if decide (it=it/\f=f)=true then(if t.okR=true then(if t.rest.isEmpty=true then some (.nxt,fr acc it f false w,some (a,t))else(g (sq acc it f t.rd.1) (some (a,t.rdb))).bind (uA (xx 2 3 g it f k)))else none)else none)
 rw[if_pos (decide_eq_true ⟨rfl,rfl⟩),if_pos hz]
 by_cases h:t.rest.isEmpty=true
 ·rw[if_pos h,h0 h];exact .off
 ·rw[if_neg h];exact h1 h
theorem Gq{g:DS}{q:Str × LexSt}:xx 2 3 g it f (k+1) (fr acc it f false w) lx=some (.nxt,fr acc it f false w,lx):=by
 show(if decide (it=it/\f=f)=true then _ else none)=_
 rw[if_pos (decide_eq_true ⟨rfl,rfl⟩)]
 rfl
noncomputable def sG(T:DT)(rd:DF):DS:=(DS.ite T ((DS.ret (DE.nm 1)).cons DS.nil) ((Iu rd).cons DS.nil)).cons ((DS.aug 1 .Add (DE.nm 3)).cons DS.nil)
theorem zg{T:DT}{stop:Str->Bool}(hr:tJ rd)(hT:∀acc c t,c∈alpha->T (sq acc it f c) (some (a,t))=some (stop c,some (a,t)))(k:Nat):∀(t:LexSt) (acc:Str) (w:LV),t.rest.length < k->KG t acc->
  l9 it f a (eK stop k t acc) (xx 2 3 (sG T rd) it f k (fr acc it f true w) (some (a,t))):=by
 induction k with
 |zero=>exact λ_ _ _ h=>absurd h (et _)
 |succ k ih=>
  intro t acc w hk F
  refine Eh F.ok (λe=>if_pos e) λe=>?_
  refine(λm=>?_) (vc F.ok e).1
  have hT:=hT acc _ t.rdb m
  rw[show eK stop (k+1) t acc=if stop t.rd.1=true then(acc,t.rdb)else eK stop k (fu t.rd.1 t.rdb).2 (acc++(fu t.rd.1 t.rdb).1)from if_neg e]
  cases hs:stop t.rd.1 with
  |true=>
   rw[if_pos rfl,show sG T rd (sq acc it f t.rd.1) (some (a,t.rdb))=some (.ret (.dat (.str acc)),sq acc it f t.rd.1,some (a,t.rdb))from ef ((d9 (hs▸hT)).trans (ef (mG rfl)))]
   exact .ret
  |false=>
   refine oG (F.esc e) λF2 z l=>?_
   rw[if_neg bY,show sG T rd (sq acc it f t.rd.1) (some (a,t.rdb))=some (.nxt,sq (acc++(fu t.rd.1 t.rdb).1) it f (fu t.rd.1 t.rdb).1,some (a,(fu t.rd.1 t.rdb).2))from
    (bp ((dW (hs▸hT)).trans ((bp (zO hr m (kJ F.ok))).trans rfl))).trans ((bp (Ac z)).trans rfl)]
   exact ih _ _ _ (ay l (tc hk)) F2
noncomputable abbrev tQ:DT:=DT.cmp .Eq (DE.nm 3) (DE.k (.str "\""))
noncomputable abbrev tW:DT:=DT.cmp .In (DE.nm 3) (DE.ws 0)
noncomputable def zp(fa:Addr)(rd:DF):DS:=DS.ite tQ ((DS.ciFor 2 3 fa (sG tQ rd)).cons DS.nil) ((Iu rd).cons ((DS.aug 1 .Add (DE.nm 3)).cons ((DS.ciFor 2 3 fa (sG tW rd)).cons DS.nil)))
noncomputable def z9(fa:Addr)(rd:DF):DS:=(DS.ite tW (DS.cont.cons DS.nil) DS.nil).cons ((zp fa rd).cons DS.nil)
theorem sE{g:DS}{l:Bool}:DS.ciFor 2 3 f g (fr acc it f l w) lx=xx 2 3 g it f fuel (fr acc it f l w) lx:=
 (congrArg (λo:Option (Addr × Addr × Bool)=>o.bind λq=>xx 2 3 g q.1 f fuel (fr acc it f l w) lx) (show Gr (fr acc it f l w) 2=some (it,f,l)from rfl)).trans (ac ..)
theorem Gd{q:Str × LexSt}{o:Option (Fl × List LV × Lx)}{g:DS}(hk:0 < k)(h:l9 it f a q o):l9 it f a q (o.bind (uA (xx 2 3 g it f k))):=by
 obtain⟨⟨fl,ρ,l⟩,rfl,rfl,e⟩:=Ok.eq h
 rcases e with rfl|⟨rfl,w,rfl⟩
 ·exact .ret
 ·cases k with
  |zero=>exact absurd hk (fw 0)
  |succ k=>exact(show l9 it f a q (xx 2 3 g it f (k+1) (fr q.1 it f false w) (some (a,q.2)))from(Gq (q:=q))▸.off)
theorem r8{b:DS}{ρ:List LV}:(b.cons DS.nil) ρ lx=b ρ lx:=by
 unfold DS.cons
 cases b ρ lx with
 |none=>rfl
 |some p=>
  obtain⟨f,q⟩:=p
  cases f<;>rfl
theorem Fe(hr:tJ rd)(k:Nat):∀(t:LexSt) (w:LV),t.rest.length < k->t.okR=true->l9 it f a (d7 k t) (xx 2 3 (z9 f rd) it f k (fr "" it f true w) (some (a,t))):=by
 induction k with
 |zero=>exact λ_ _ h=>absurd h (et _)
 |succ k ih=>
  intro t w hk hz
  refine Eh hz (λe=>if_pos e) λe=>?_
  refine(λm hl=>?_) (vc hz e).1 (vc hz e).2
  have F:KG t "":=⟨hz,by have:=(lE hz).1;show 0+_<=_;exact J1 [Ql Q0 (Qn 4096)] (Qa (Qn 0) Q0) (Qn 8192) 1 [1] Qt this⟩
  have h4:=(lE hz).1
  have hk0:0 < k:=by exact J3 [Qe (Qs Q1 1) Q2,Ql (Qs Q2 1) (Qs Q0 1)] (Qs (Qn 0) 1) Q0 1 [1,1] Qt hl hk
  rw[show d7 (k+1) t=if nE t.rd.1=true then d7 k t.rdb else if jV t.rd.1=true then eK jV fuel t.rdb "" else eK nE fuel (fu t.rd.1 t.rdb).2 (""++(fu t.rd.1 t.rdb).1)from if_neg e]
  cases hw:nE t.rd.1 with
  |true=>
   rw[if_pos rfl,show z9 f rd (sq "" it f t.rd.1) (some (a,t.rdb))=some (.cont,sq "" it f t.rd.1,some (a,t.rdb))from zU ((d9 (hw▸Du m)).trans rfl) (λq=>by cases q)]
   exact ih t.rdb _ (by exact J3 [Qe (Qs Q0 1) Q2,Ql (Qs Q2 1) (Qs Q1 1)] (Qs Q0 1) Q1 1 [1,1] Qt hl hk) (kJ hz)
  |false=>
   rw[if_neg bY,show z9 f rd (sq "" it f t.rd.1) (some (a,t.rdb))=zp f rd (sq "" it f t.rd.1) (some (a,t.rdb))from(bp ((dW (hw▸Du m)).trans rfl)).trans r8]
   refine Gd hk0 ?_
   cases hq:jV t.rd.1 with
   |true=>
    rw[if_pos rfl,show zp f rd (sq "" it f t.rd.1) (some (a,t.rdb))=xx 2 3 (sG tQ rd) it f fuel (sq "" it f t.rd.1) (some (a,t.rdb))from(d9 (hq▸yF m)).trans (r8.trans sE)]
    exact zg hr (λ_ _ _=>yF) fuel _ _ _ (by have:=m8;exact J3 [Ql (Qs (Qn 4096) 1) Q1,Qe (Qs Q0 1) Q2,Ql Q2 (Qn 4096)] (Qs Q0 1) Q1 1 [1,1,1] Qt this hl h4) ⟨kJ hz,by show 0+_<=_;exact J2 [Qe (Qs Q0 1) Q1,Ql Q1 (Qn 4096)] (Qa (Qn 0) Q0) (Qn 8192) 1 [1,1] Qt hl h4⟩
   |false=>
    refine oG (F.esc e) λF2 z l=>?_
    rw[if_neg bY,show zp f rd (sq "" it f t.rd.1) (some (a,t.rdb))=xx 2 3 (sG tW rd) it f fuel (sq (""++(fu t.rd.1 t.rdb).1) it f (fu t.rd.1 t.rdb).1) (some (a,(fu t.rd.1 t.rdb).2))from
     (dW (hq▸yF m)).trans ((bp (zO hr m (kJ hz))).trans ((bp (Ac z)).trans (r8.trans sE)))]
    exact zg hr (λ_ _ _=>Du) fuel _ _ _ (by have:=m8;exact J3 [Ql (Qs (Qn 4096) 1) Q1,Ql (Qs Q0 1) Q2,Ql Q2 (Qn 4096)] (Qs Q0 1) Q1 1 [1,1,1] Qt this l h4) F2
end
section
variable{a:cH}{t:LexSt}{ρ:List LV}{fa it:Addr}{rd:DF}
theorem Cz(h:ρ[0]? =some .lex)(hz:t.okR=true):DE.readD 0 ρ (some (a,t))=some (.dat (.str t.rd.1),some (a,t.rd.2)):=by
 unfold DE.readD eM
 rw[h]
 exact if_pos (decide_eq_true (lE hz).1)
theorem JM:tJ fRd:=λa t hz=>by
 have e1:DS.asg 1 (DE.readD 0) [.lex,.un] (some (a,t))=some (.nxt,[.lex,.dat (.str t.rd.1)],some (a,t.rd.2)):=jB (Cz rfl hz) (bC 1)
 have e2:DT.cmp .Eq (DE.nm 1) (DE.k (.str "\n")) [.lex,.dat (.str t.rd.1)] (some (a,t.rd.2))=some (t.rd.1=="\n",some (a,t.rd.2)):=yS (CE hz).2 (by decide+kernel) rfl
 suffices key:K4.val [.lex,.un] (some (a,t))=some (.ret (.dat (.str t.rd.1)),[.lex,.dat (.str t.rd.1)],some (a,t.rdb))from iv (b:=false) (n:=2) (slots:=[0]) (rs:=[.lex]) rfl key
 refine(bp e1).trans ?_
 cases hn:(t.rd.1==("\n":Str))with
 |true=>
  rw[hn]at e2
  rw[show t.rdb=⟨t.push,t.rest.tail,t.line+1⟩from congrArg (LexSt.mk t.push t.rest.tail) (if_pos hn)]
  exact(bp ((d9 e2).trans ((bp rfl).trans rfl))).trans (ef (mG rfl))
 |false=>
  rw[hn]at e2
  rw[show t.rdb=⟨t.push,t.rest.tail,t.line⟩from congrArg (LexSt.mk t.push t.rest.tail) (if_neg (hn▸bY))]
  exact(bp ((dW e2).trans rfl)).trans (ef (mG rfl))
theorem Fx{w:Str}(hz:t.push.length<=4096):fPush [.lex,.dat (.str w)] (some (a,t))=some (.dat .none,some (a,⟨t.push++[w],t.rest,t.line⟩)):=
 Bq (b:=false) (n:=2) (slots:=[0,1]) (g:=DD.val) (rs:=[.lex,.dat (.str w)]) (ρ':=[.lex,.dat (.str w)]) rfl (bp (b:=DS.nil) (a:=DS.pbApp 0 (DE.nm 1)) (if_pos (decide_eq_true hz)))
end
section
variable{C:Cx}{sc:Scope}{env:Env}{ρ:List LV}{lx:Lx}{ok okb:Addr->Prop}{og:Nat->List Addr}{μ:Str->Option Value}{s:ab}{n:Nat}
theorem St.forget(S:St C sc env ρ lx ok okb og μ s):St C sc env (bb sc.names.length .un) lx ok okb (λ_=>[]) μ s:=
 {S with
  len:=jk
  vars:=λi x k lv e1 e2=>(show lv=.un from(List.mem_replicate.mp (aU e2)).2)▸rfl
  owns:=λ_ _ m=>nomatch m
  ownd:=λ_=>bx
  ownx:=λ_ _ _ m=>nomatch m}
theorem nO.forget{b:List Stmt}{P:Fl->Lx->Prop}(h:nO C n sc b ρ lx λf _ l'=>P f l'):nO C n sc b ρ lx λf ρ' l'=>ρ'=bb sc.names.length .un/\P f l':=λA env ok okb og μ s R E S B=>
 al (h A env ok okb og μ s R E S B) (λfl' s₁ p=>by obtain⟨f,ρ₁,lx₁,ok₁,okb₁,og₁,μ₁,q,fr,S1,B1,c⟩:=p;exact⟨f,_,lx₁,ok₁,okb₁,_,μ₁,⟨rfl,q⟩,fr,S1.forget,cZ.rep _,⟨c.sa,c.ok1,c.ok2,c.okb1,c.okb2,(λi a m=>nomatch m),c.g⟩⟩) λ_ _ x=>x
end
noncomputable abbrev Ju:List LV:=[.lex,.dat (.str ""),.un,.un,.un]
theorem Ok.dec{α:Type}{o:Option α}{Q:α->Prop}{c:Prop}{_:Decidable c}(h:Ok (if c then o else none) Q):c/\Ok o Q:=by
 by_cases hc:c
 ·rw[if_pos hc]at h;exact⟨hc,h⟩
 ·rw[if_neg hc]at h;exact h.elim
open Classical in
noncomputable def Jw(n:Nat):DS:=λρ lx=>lx.bind λa=>if ρ=Ju/\a.2.okR=true then some (.ret (.dat (.str (d7 fuel a.2).1)),bb n .un,some (a.1,(d7 fuel a.2).2))else none
section
variable{C:Cx}{K:Frag}{n:Nat}{a:cH}{t:LexSt}{fa it:Addr}{rd:DF}
theorem Ca(hr:tJ rd)(hz:t.okR=true):Ok ((Hg fa rd).val (fr "" it fa true .un) (some (a,t))) λp=>p.1=.ret (.dat (.str (d7 fuel t).1))/\p.2.2=some (a,(d7 fuel t).2):=by
 refine nG λkG=>?_;obtain⟨⟨fl,ρ,l⟩,e,rfl,h⟩:=Ok.eq (Fe (rd:=rd) (it:=it) (f:=fa) (a:=a) hr fuel t .un (du (lE hz).1 m8) hz)
 refine kG ?_
 have e:DS.ciFor 2 3 fa (z9 fa rd) (fr "" it fa true .un) (some (a,t))=_:=sE.trans e
 rcases h with rfl|⟨rfl,w,rfl⟩
 ·exact .of (ef (b:=(DS.ret (DE.nm 1)).cons DS.nil) e) ⟨rfl,rfl⟩
 ·exact .of ((bp (b:=(DS.ret (DE.nm 1)).cons DS.nil) e).trans (ef (mG (aG rfl)))) ⟨rfl,rfl⟩
theorem B8(kc:dk C)(k:fv C K)(m:fD C K "_read_char" fa)(hi:Gb C "iter" (.builtin "iter"))(h1:dE C (n+1) fa rd)(h3:uK C fa)(hr:tJ rd):SS C (n+2) (cv 2) ((dD 2).drop 2) (Jw 5):=.of λρ lx P h=>by
 obtain⟨⟨a,t⟩,rfl,h⟩:=(Ok.bind h).eq
 obtain⟨⟨rfl,hz⟩,q⟩:=Ok.dec h
 have h2:kg C (n+2) (.ref fa) rd:=λrs lx r l e A ok okb s vs R w av=>h1.ok rs lx r l e A ok okb s vs (R.less (a8 _)) w av
 refine(nO.forget (nO.cons (P:=λf _ l=>P f (bb 5 .un) l) (gT.ciNew (i:=0) (j:=2) (a:=a) (t:=t) (lv₀:=.un) kc k m (.there (.there (.there (.there .here)))) hi .here (.inl rfl) (by decide+kernel) rfl ((eP.there (.there .here)).at rfl) (.inl rfl) λit=>?_))).mono λf ρ l q=>q.1▸q.2
 exact((Hg fa rd).property k m h2 h1 h3 hr).ok ((Ca hr hz).mono λp e=>by rw[e.1,e.2];exact q)
noncomputable def fTok:DF:=λrs lx=>lx.bind λa=>open Classical in if rs=[.lex]/\a.2.fits=true then some (.dat (.str a.2.tok.1),some (a.1,a.2.tok.2))else none
theorem dE.le{x:Addr}{f g:DF}(h:dE C n x g)(k:∀rs lx Q,l7 (f rs lx) Q->l7 (g rs lx) Q):dE C n x f:=λrs lx r l e=>by refine a7 ((k rs lx (zb r l) (.of e ⟨rfl,rfl⟩)).eq) λp e q=>?_;exact λA ok okb s vs R w av=>h rs lx r l (e.trans (congrArg some (Prod.ext q.1 q.2))) A ok okb s vs R w av
noncomputable def Il:DS:=(DS.ite (DT.pb 0) ((DS.ret (DE.pbPop 0)).cons DS.nil) DS.nil).cons ((DS.asg 1 (DE.k (.str ""))).cons (Jw 5))
theorem Cd(h:t.fits=true):∃ρ',Il [.lex,.un,.un,.un,.un] (some (a,t))=some (.ret (.dat (.str t.tok.1)),ρ',some (a,t.tok.2)):=by
 refine en (Bool.and_eq_true_iff.mp (show(t.okR&&decide (t.push.length<=4096))=true from h)) λh1 h2=>?_
 have e1:DT.pb 0 [.lex,.un,.un,.un,.un] (some (a,t))=some (!t.push.isEmpty,some (a,t)):=if_pos h2
 obtain⟨push,rest,line⟩:=t
 cases push with
 |cons w ws=>exact⟨_,ef (ρ1:=[.lex,.un,.un,.un,.un]) ((d9 e1).trans (ef (mG (if_pos h2))))⟩
 |nil=>
  rw[show LexSt.tok ⟨[],rest,line⟩=d7 fuel ⟨[],rest,line⟩from if_pos rfl]
  exact⟨bb 5 .un,(bp (ρ1:=[.lex,.un,.un,.un,.un]) ((dW e1).trans rfl)).trans ((bp (jB (d:=.str "") (l1:=some (a,⟨[],rest,line⟩)) rfl (ji (m:=5) (n:=1) (l:=3) rfl))).trans (if_pos ⟨rfl,h1⟩))⟩
theorem Hu{rs:List Va}{lx:Lx}{Q:Va->Lx->Prop}(h:l7 (fTok rs lx) Q):l7 (dZ false 5 [0] Il rs lx) Q:=by
 obtain⟨⟨a,t⟩,rfl,h⟩:=(Ok.bind h).eq
 refine en (Ok.dec h) λhY0 q=>?_;obtain⟨rfl,g⟩:=hY0
 refine cU (Cd (a:=a) g) λρ' e=>?_
 exact .of (iv (b:=false) (n:=5) (slots:=[0]) (rs:=[.lex]) rfl e) q
section
variable{sc:Scope}{i:Nat}{x:Str}{kk:az}{p apos pos:Pos}
theorem SE.tok{fT:Addr}(k:fv C K)(m:fD C K "get_token" fT)(hT:kg C n (.ref fT) fTok)(b:eP sc.names i x kk)(hk:jW kk)(hd:(x==("__debug__":Str))=false)(hline:(apos.endLine==pos.line)=true):
  SE C n sc (.Call (.Attribute (.Name x p) "get_token" apos) [] [] pos) (.tok i):=.of λρ lx Q h=>by
 obtain⟨a,t,e0,rfl,h2⟩:=fS (Ok.bind h)
 refine(λg q=>?_) (Ok.iff h2).1 (Ok.iff h2).2
 exact(SE.meth k m hT b hk hd SL.nil rfl (ny _) hline).ok (show Ok ((eM ρ i (some (a,t))).bind λ_=>fTok [.lex] (some (a,t))) λp=>Q p.1 p.2 by
  rw[show eM ρ i (some (a,t))=some (a,t)by unfold eM;rw[e0];rfl]
  exact .of (if_pos ⟨rfl,g⟩) q)
theorem SE.push{e:Expr}{f:DE}{fP:Addr}(k:fv C K)(m:fD C K "push_token" fP)(hP:kg C n (.ref fP) fPush)(b:eP sc.names i x kk)(hk:jW kk)(hd:(x==("__debug__":Str))=false)(ha:SE C n sc e f)(hs:bt [e]=true)(hline:(apos.endLine==pos.line)=true):
  SE C n sc (.Call (.Attribute (.Name x p) "push_token" apos) [e] [] pos) (.push i f):=.of λρ lx Q h=>by
 refine nG λkG=>?_;obtain⟨a0,t0,e0,rfl,h2⟩:=fS (Ok.bind h)
 obtain⟨⟨r,l1⟩,e1,h3⟩:=(Ok.bind h2).eq
 refine a7 (wA (Ok.bind h3)) λw hw h4=>?_
 obtain rfl:=(hw:r=_)
 obtain⟨a,t,_,e3,h5⟩:=fS (Ok.bind h4)
 obtain rfl:=(e3:l1=_)
 obtain⟨g,q⟩:=Ok.iff h5
 obtain⟨_,g2⟩:=Bool.and_eq_true_iff.mp (show(t.okR&&decide (t.push.length<=4096))=true from g)
 refine kG ?_
 exact(SE.meth k m hP b hk hd (SL.cons ha SL.nil) hs (ji (m:=20) (n:=1) (l:=18) rfl) hline).ok (show Ok ((eM ρ i (some (a0,t0))).bind λ_=>(DL.cons f DL.nil ρ (some (a0,t0))).bind λp=>fPush (.lex::p.1) p.2) λp=>Q p.1 p.2 by
  rw[show eM ρ i (some (a0,t0))=some (a0,t0)by unfold eM;rw[e0];rfl,show DL.cons f DL.nil ρ (some (a0,t0))=some ([.dat (.str w)],some (a,t))by unfold DL.cons;rw[e1];rfl]
  exact .of (Fx (of_decide_eq_true g2)) q)
end
end
def sR(c co:Addr)(fd:FuncData):Prop:=∃q pm ctv,fd=kla_fn "<lambda>" q eW.1 eW.2.1 eW.2.2.1 [("signs",c)] pm (.ref co) ctv
theorem yB:∀x∈eW.2.2.1.names,x.2≠cG:=by decide+kernel
theorem xb:eW.2.2.1.names.lookup (ad "size")=some NameKind.local:=by decide+kernel
theorem ui:eW.2.2.1.names.lookup (ad "signs")=some aL:=by decide+kernel
theorem cn.sg_upd{C:Cx}{a:cH}{t:LexSt}{s:ab}{vs:Array Value}{nn:Nat}{ws:List Str}(x:cn C a t s.heap)(hb:IsL s.heap a.sg vs nn)(f:Array Value->Array Value)(r:nj (f vs).toList ws):
  cn C a ⟨t.push,ws,t.line⟩ (s.heap.update a.sg (aS f))/\aH (W (some (a,t))) cx s {s with heap:=s.heap.update a.sg (aS f)}:=
 have ne:=cn.list_ne x ⟨nn,hb⟩
 have hs:∀c,c≠a.sg->(s.heap.update a.sg (aS f)).get? c=s.heap.get? c:=λc hc=>cy _ _ (Ne.symm hc)
 ⟨x.upd hs ne.1 (x.pb.at λo e=>(hs _ x.apart.1).trans e) ⟨_,jT hb f,r⟩ (by obtain⟨m,es,n,g,ns,M⟩:=x.lexd;exact have k:=λo (e:s.heap.get? a.lexd=some o)=>(hs _ (Ne.symm ne.2)).trans e;⟨m,es,n,k _ g,Ns.at ns k,⟨M.line,M.inst,M.ws,M.push,M.rest,M.small⟩⟩),
  (ju hb (aS f)).mono (λc hc=>.inl (.inr (.inr hc))) λ_ w=>w.elim⟩
section
variable{C:Cx}{A:Around}{ok okb:Addr->Prop}{s₀ s:ab}{a:cH}{t:LexSt}{env:Env}{Q:Va->Lx->Prop}{m:Str->Option Value}{tk:Tok}
structure Jc(a:cH)(env:Env):Prop where
 sc:env.scope=eW.2.2.1
 cell:env.cells.lookup (ad "signs")=some a.cell
theorem FT{p1 p2 p3 p4:Pos}{k:Nat}{c:Str}{r:List Str}(hline:(p2.endLine==p4.line)=true)(E:Jc a env)(x:cn C a t s.heap)(ht:t.rest=c::r)(hl:t.rest.length<=4096)(g:bG s₀ s)(q:Q (.dat (.str t.rd.1)) (some (a,t.rd.2))):
  ar C.M A (eval (.Call (.Attribute (.Name "signs" p1) "pop" p2) [.Constant (.int 0) k p3] [] p4) env) (iV C ok okb (some (a,t)) s₀ Q) bJ s:=by
 refine nG λkG=>?_;obtain⟨push,rest,line⟩:=t
 obtain rfl:=(ht:rest=_)
 obtain⟨vs,⟨nn,hb⟩,rs⟩:=x.sg
 have hz:=rP hl (fk rs).symm
 obtain⟨v0,vl,ev,⟨tw,rfl⟩,rs2⟩:=mY rs rfl
 obtain⟨vs⟩:=vs
 obtain rfl:=(ev:vs=_)
 refine kG ?_
 refine dt rfl rfl hline (dG (wpAny_loadName_free (by rw[E.sc];rfl) (by unfold fM;rw[E.sc];exact ui) E.cell x.cell ?_) (by decide+kernel))
 refine Y2 ("list") ("list.pop") ⟨F.plainAttrs_list,F.slot_list_pop,F.type_list_pop,⟨_,hb,rfl⟩,λc q=>by cases q;exact⟨_,hb,rfl⟩,qI (dH ⟨_,nn,0,_,0,.str c tw,hz,rfl,hb,rfl,by simp[cP],rfl,?_⟩)⟩
 have hr:nj ((Array.mk (Al c tw::vl)).eraseIdxIfInBounds 0).toList r:=by rw[show((Array.mk (Al c tw::vl)).eraseIdxIfInBounds 0).toList=vl by simp[mz]];exact rs2
 refine en (cn.sg_upd (s:={s with toks:=s.toks+1}) (ws:=r) x hb (λxs=>xs.eraseIdxIfInBounds 0) hr) λlo g2=>?_
 exact⟨.dat (.str c),some (a,⟨push,r,line⟩),q,Rd.str,rfl,lo,((g.trans0 .tk1).of0).trans1 g2⟩
theorem H8{e1 e2:Expr}{p1 p2 p3 p4 p5 p6:Pos}{k:Nat}{P:Value->ab->Prop}(E:Jc a env)(x:cn C a t s.heap)(hz:t.rest.length<=4096)(hn:s.heap.Ns env.locals m)(hm:m "size"=some (.int 1 tk))
  (h0:t.rest=[]->∀s',bG s s'->ar C.M A (eval e2 env) P bJ s')(h1:∀c r,t.rest=c::r->∀s',bG s s'->ar C.M A (eval e1 env) P bJ s'):
  ar C.M A (eval (.IfExp (.BoolOp .And [.Name "signs" p1,.Compare (.Name "size" p2) [.Eq] [.Constant (.int 1) k p3] p4] p5) e1 e2 p6) env) P bJ s:=by
 refine nG λkG=>?_;obtain⟨us,ul,ur⟩:=x.sg
 refine kG ?_
 have hlen:us.size=t.rest.length:=(fk ur).symm
 refine IfExp_ (isTrue_and (isTrue_plain (dG (wpAny_loadName_free (by rw[E.sc];rfl) (by unfold fM;rw[E.sc];exact ui) E.cell x.cell (xT ul.isList (by exact(E9 (ah (aJ hlen) hz) rfl).2) ?_)) (by decide+kernel)) rfl))
 have e1:us.isEmpty=t.rest.isEmpty:=by
  rw[Array.isEmpty,hlen]
  cases t.rest<;>rfl
 rw[e1]
 cases hr:t.rest with
 |nil=>
  rw[if_neg (show ¬(!List.isEmpty ([]:List Str))=true from bY)]
  exact h0 hr _ (.tk (aF _ 2))
 |cons c r=>
  rw[if_pos (show(!(c::r).isEmpty)=true from rfl)]
  refine isTrue_and (rA (dG (eQ (by rw[E.sc];rfl) (by unfold fM;rw[E.sc];exact xb) hn hm ?_) (by decide+kernel)) rfl)
  refine dH (PyProof.Rows.eq_int (gG ?_))
  rw[if_pos (by rfl)]
  refine isTrue_and_nil ?_
  rw[if_pos rfl]
  exact h1 c r hr _ (.tk (aF _ 3))
theorem Dj{p1 p2 p3 p4 p5 p6 p7 p8 p9 p10 p11:Pos}{k k2 k3:Nat}(hline:(p8.endLine==p10.line)=true)(E:Jc a env)(l₀:nN C (some (a,t)) s₀.heap)(x:cn C a t s.heap)(hz:t.rest.length<=4096)(hn:s.heap.Ns env.locals m)(hm:m (ad "size")=some (.int 1 tk))(g:bG s₀ s)(q:Q (.dat (.str t.rd.1)) (some (a,t.rd.2))):
  ar C.M A (eval (.IfExp (.BoolOp .And [.Name "signs" p1,.Compare (.Name "size" p2) [.Eq] [.Constant (.int 1) k p3] p4] p5) (.Call (.Attribute (.Name "signs" p7) "pop" p8) [.Constant (.int 0) k2 p9] [] p10) (.Constant (.str "") k3 p11) p6) env) (iV C ok okb (some (a,t)) s₀ Q) bJ s:=by
 refine H8 E x hz hn hm (λe s' g1=>fJ ?_) λc r e s' g1=>FT hline E (x.part λb o _ e=>g1.keep0 b o e) e hz (g.trans0 g1) q
 obtain⟨push,rest,line⟩:=t
 obtain rfl:=(e:rest=_)
 exact .of0 q Rd.str l₀ ((g.trans0 g1).trans0 .tk1)
end
theorem Di{C:Cx}{n:Nat}(kc:dk C)(hl:∀c co fd,C.lamFn c co fd->sR c co fd):ru C (n+1):=λA ok okb s a t tk Q R w hz q=>by
 refine nG λkG=>?_;obtain⟨o,fd,oc,vs,tq,r1,r2,r3,r4,r5,r6⟩:=cn.fn w.lxr
 obtain⟨_,pm,ctv,rfl⟩:=hl _ _ _ r3
 refine kG ?_
 refine i9 (kla_callFunE R.depth r1 r2 rfl rfl rfl ⟨a.co,oc,vs,tq,rfl,r4,r5,r6⟩ (fF (a:=([(ad "size",Value.int 1 tk)]:List (Str × Value))) rfl ?_))
 refine wpAny_newFunctionEnv yB (λx hx=>List.mem_singleton.mp hx▸xb) (λh' hns hsb=>⟨(w.wd.nolimit kc).fresh _ hsb,kla_codeExpr ?_⟩) rfl
 have g0:bG s {s with heap:=h',toks:=s.toks+1}:=.of_keep (a8 _) (by rw[hsb.1,aZ];exact a8 _) λb o e=>(hsb.2 b (aK (aC e))).trans (aA _ e)
 have x1:cn C a t h':=cn.part w.lxr λb o _ e=>g0.keep0 b o e
 show ar C.M (A.deeper _) (eval (.IfExp (.BoolOp .And [.Name _ _,.Compare _ [_] [_] _] _) (.Call (.Attribute _ _ _) [_] [] _) (.Constant _ _ _) _) _) _ _ _
 refine al (E:=bJ) (Dj (s:={s with heap:=h',toks:=s.toks+1}) (tk:=tk) (m:=λy=>[(ad "size",Value.int 1 tk)].reverse.lookup y) ?_ ?_ w.lxr x1 hz ?_ ?_ g0 q) (λ_ _ h=>h) λ_ _ x=>x.elim
 ·rfl
 ·exact⟨rfl,rfl⟩
 ·exact hns
 ·rfl
structure IS(C:Cx)(x dx L:Addr)(m0:Str->Option Value)(j:Nat)(m:Str->Option Value)(s₀ s:ab):Prop where
 wd:Wd C s
 hx:s.heap.get? x=some (eI C.lexC dx)
 loc:s.heap.Ns L m0
 ne:L≠dx
 dict:eU s.heap dx λm' es=>m'=m/\es.size<=j
 new:C.h₀.get? dx=none/\dx≠C.tab
 g:aH (λb=>b=dx) cx s₀ s
section
variable{C:Cx}{K:Frag}{A:Around}{s s₀:ab}{x dx L:Addr}{m0 m:Str->Option Value}{j:Nat}
theorem IS.grow0{s':ab}(I:IS C x dx L m0 j m s₀ s)(g:bG s s'):IS C x dx L m0 j m s₀ s':=
 ⟨I.wd.grow g λ_ w=>w.elim,g.keep0 _ _ I.hx,Ns.at I.loc λo e=>g.keep0 _ _ e,I.ne,I.dict.at λo e=>g.keep0 _ _ e,I.new,I.g.trans0 g⟩
theorem IS.set{name:Str}{v:Value}{Q:Unit->ab->Prop}(k:fv C K)(I:IS C x dx L m0 j m s₀ s)(hj:j<=8)(hn:name∈lexNames)
  (h:∀s',IS C x dx L m0 (j+1) (λy=>if y=name then some v else m y) s₀ s'->aH (λb=>b=dx) cx s s'->Q () s'):ar C.M A (setAttr (.ref x) name v) Q bJ s:=by
 refine nG λkG=>?_;obtain⟨_,es,n,e1,e2,hX⟩:=I.dict;obtain rfl:=hX.1;refine kG ?_;refine(λe3=>?_) hX.2
 refine vo k I.wd I.hx e1 e2 hn (ah e3 (ah hj (by decide))) λh' es' n' T=>?_
 have g:aH (λb=>b=dx) cx s {s with heap:=h',toks:=s.toks+2}:=fQ e2 T.same rfl (aF _ 2)
 exact h _ ⟨I.wd.grow g λb q=>q▸I.new,(T.same.2 _ λq=>nomatch(congrArg fW (ao ((q▸I.hx).symm.trans e1)):Data.plain=Data.dict _ _)).trans I.hx,Ns.at I.loc λo e=>(T.same.2 _ I.ne).trans e,I.ne,⟨_,es',n',T.get,T.ns,rfl,ah T.size (cQ e3)⟩,I.new,I.g.trans1 g⟩ g
structure Hq(fp:Value)(pb:Addr)(m:Str->Option Value)(es:Array DictEntry):Prop where
 line:∃k,m "lineno"=some (.int 1 k)
 inst:m "instream"=some fp
 ws:∃k,m "whitespace"=some (.str "\n\t\u000d " k)
 push:m "pushback"=some (.ref pb)
 rest:∀x:Str,x≠"lineno"->x≠"instream"->x≠"whitespace"->x≠"pushback"->m x=none
 small:es.size<=8
inductive EJ(C:Cx)(dx:Addr)(fp:Value)(s s':ab):Prop where
 |mk (pb:Addr) (d:eU s'.heap dx (Hq fp pb)) (l:dj s'.heap pb #[]) (new:s.heap.objs.size<=pb) (g:aH (λb=>b=dx) cx s s')
theorem xd:∀x∈(cv 0).names,x.2≠cG:=by decide+kernel
theorem kN:(cv 0).names.lookup (ad "self")=some NameKind.local:=by decide+kernel
theorem zG:(cv 0).names.lookup (ad "fp")=some NameKind.local:=by decide+kernel
theorem Ba{env:Env}{fp:Value}(k:fv C K)(es:env.scope=cv 0)(hlt:dx < s₀.heap.objs.size)(I:IS C x dx env.locals m0 0 (λ_=>none) s₀ s)(hs:m0 (ad "self")=some (.ref x))(hf:m0 (ad "fp")=some fp):
  ar C.M A (kj (dD 0) env) (λf s'=>f=.next/\EJ C dx fp s₀ s') bJ s:=by
 have ld:∀{A:Around} {y:Str} {v:Value} {p:Pos} {s':ab} {Q:Value->ab->Prop},(y==("__debug__":Str))=false->(cv 0).names.lookup y=some NameKind.local->s'.heap.Ns env.locals m0->m0 y=some v->Q v s'->ar C.M A (eval (.Name y p) env) Q bJ s':=
  λhd hl hn hv h=>dG (eQ (by rw[es];rfl) (by unfold fM;rw[es];exact hl) hn hv h) hd
 have ds:(ad "self"==("__debug__":Str))=false:=by decide+kernel
 show ar C.M _ (kj [_,_,_,_] env) _ _ _
 refine bW (dz (dH ?_) rfl)
 have I1:=I.grow0 (s':={s with toks:=s.toks+1}) .tk1
 refine ld ds kN I1.loc hs (I1.set (name:="lineno") k (bH _) (.head _) λs2 I2 _=>?_)
 refine bW (dz (ld (by decide+kernel) zG I2.loc hf ?_) rfl)
 refine ld ds kN I2.loc hs (I2.set (name:="instream") k (by decide) (.tail _ (.head _)) λs3 I3 _=>?_)
 refine bW (dz (fJ ?_) rfl)
 have I4:=I3.grow0 (s':={s3 with toks:=s3.toks+1}) .tk1
 refine ld ds kN I4.loc hs (I4.set (name:="whitespace") k (by decide) (.tail _ (.tail _ (.head _))) λs5 I5 _=>?_)
 refine bW (dz (wh (iW ⟨bH _,?_⟩)) rfl)
 have I6:=I5.grow0 (bB (s:=s5) (o:={cls:=.type "list",data:=.seq ([]:List Value).toArray}))
 have hl:dj (s5.heap.push {cls:=.type "list",data:=.seq ([]:List Value).toArray}) s5.heap.objs.size #[]:=⟨_,aB _ rfl⟩
 refine ld ds kN I6.loc hs (I6.set (name:="pushback") k (by decide) ve λs7 I7 g7=>iY ⟨rfl,s5.heap.objs.size,?_,hl.at λo e=>g7.heap _ o (λq=>absurd hlt (Nat.not_lt.mpr (q▸I5.g.size))) e,I5.g.size,I7.g⟩)
 obtain⟨_,es,nn,e1,e2,hX⟩:=I7.dict;obtain rfl:=hX.1;refine(λe3=>?_) hX.2
 have q12:("instream":Str)≠"lineno"/\("whitespace":Str)≠"lineno"/\("pushback":Str)≠"lineno"/\("whitespace":Str)≠"instream"/\("pushback":Str)≠"instream"/\("pushback":Str)≠"whitespace":=by decide+kernel
 refine(λq1 q2 q3 q4 q5 q6=>?_) q12.1 q12.2.1 q12.2.2.1 q12.2.2.2.1 q12.2.2.2.2.1 q12.2.2.2.2.2
 exact⟨_,es,nn,e1,e2,⟨_,(if_neg q3.symm).trans ((if_neg q2.symm).trans ((if_neg q1.symm).trans (if_pos rfl)))⟩,(if_neg q5.symm).trans ((if_neg q4.symm).trans (if_pos rfl)),⟨_,(if_neg q6.symm).trans (if_pos rfl)⟩,if_pos rfl,λy w1 w2 w3 w4=>(if_neg w4).trans ((if_neg w3).trans ((if_neg w2).trans (if_neg w1))),ah e3 (by decide)⟩
end
section
variable{C:Cx}{K:Frag}{A:Around}{s:ab}{n:Nat}
theorem Ds{fI:Addr}{fd:FuncData}{x dx:Addr}{fp:Value}(kc:dk C)(k:fv C K)(F:qW C fI fd (dD 0))(hsc:fd.scope=cv 0)(hb:∀s vals,vals.length=2->ik s fd ⟨vals,[]⟩ ((["self","fp"]:List Str).zip vals))(R:bj (n+1) A)(wd:Wd C s)
  (hx:s.heap.get? x=some (eI C.lexC dx))(hd:s.heap.get? dx=some (pe #[] 0))(hnew:C.h₀.get? dx=none/\dx≠C.tab):
  eB C.M A (.call (.ref fI) ⟨[.ref x,fp],[]⟩) (λr s'=>r=.ok (.ret .none)/\EJ C dx fp s s') s:=by
 refine a7 F.obj λo ho hfd=>?_
 refine Kv F.code λc co cvs ct c1 c2 c3 c4 c5=>?_
 refine rB R.depth (wd.kept _ _ F.na ho) hfd F.co F.gen F.body ⟨c,co,cvs,ct,c1,wd.kept _ _ c2 c3,c4,c5⟩ (hb s _ rfl _ _ _ _ ?_)
 rw[hsc]
 refine wpAny_newFunctionEnv xd (λy hy=>(List.mem_cons.mp hy).elim (λq=>q▸kN) λhy=>List.mem_singleton.mp hy▸zG) (λh' hns hsb=>⟨(wd.nolimit kc).fresh _ hsb,codeAny_func (al (E:=bJ) ?_ (λf _ h=>h) λ_ _ x=>x.elim)⟩) rfl
 generalize hE:newEnv (cv 0) s.heap.objs.size fd.globals fd.closure (fd.qualname++ad ".<locals>.") (some fI) fd.code none fd.builtins=env
 have el:env.locals=s.heap.objs.size:=hE▸rfl
 have gk:∀b o,s.heap.get? b=some o->h'.get? b=some o:=λb o e=>(hsb.2 b (aK (aC e))).trans (aA _ e)
 have g0:bG s {s with heap:=h',toks:=s.toks+2}:=.of_keep (aF _ 2) (by rw[hsb.1,aZ];exact a8 _) gk
 have hlt:=aC hd
 refine al (Ba (fp:=fp) (m0:=λy=>((["self","fp"]:List Str).zip [fm x,fp]).reverse.lookup y) k (hE▸rfl) hlt ⟨wd.grow g0 λ_ w=>w.elim,gk _ _ hx,el▸hns,λq=>aK hlt (q.symm.trans el),⟨_,#[],0,gk _ _ hd,Y3 _ (#[]) 0 ⟨gk _ _ hd,rfl,λe m=>(by simp at m),λx=>rfl⟩,rfl,ai _⟩,hnew,g0.of0⟩ rfl rfl) (λf s' q=>?_) λ_ _ x=>x
 refine nG λkG=>?_;obtain⟨rfl,q⟩:=q
 refine kG ?_
 exact⟨rfl,q⟩
end
theorem gh:(aE 11).names=[(ad "text",NameKind.local),("stream",NameKind.local),("signs",cG),("list",pB),("_netrclex",pB)]:=by decide+kernel
theorem A4:eW.2.2.1.names=[(ad "size",NameKind.local),("signs",aL)]:=by decide+kernel
structure EG(C:Cx)(K:Frag)(fI:Addr)(fd:FuncData):Prop where
 makes:makesIn K C.lexC=true
 find:findIn K (.ref C.lexC) "__init__"=some (some (.ref fI))
 fn:typeIn K (.ref fI)=some (.type "function")
 at_:qW C fI fd (dD 0)
 sc:fd.scope=cv 0
 binds:∀s vals,vals.length=2->ik s fd ⟨vals,[]⟩ ((["self","fp"]:List Str).zip vals)
section
variable{C:Cx}{K:Frag}{A:Around}{s:ab}{n:Nat}
theorem bj.typeCall{A:Around}{c:Addr}{rest:List Value}(r:bj (n+1) A):bj n (A.under (.builtin "type.__call__" ⟨.ref c::rest,[]⟩)):=by
 have e1:(A.under (.builtin "type.__call__" ⟨.ref c::rest,[]⟩)).depth=A.depth+1:=rfl
 have e2:(A.under (.builtin "type.__call__" ⟨.ref c::rest,[]⟩)).units=A.units+1:=rfl
 refine oG r λa b c=>?_
 exact⟨a,by rw[e1];exact J2 [Ql (Qa Q0 (Qs Q1 1)) (Qn 500)] (Qa (Qs Q0 1) Q1) (Qn 500) 1 [1] Qt b,by rw[e2];exact J2 [Ql (Qa Q0 (Qm 20 (Qs Q1 1))) (Qn 5000)] (Qa (Qs Q0 1) (Qm 20 Q1)) (Qn 5000) 1 [1] Qt c⟩
inductive Ln(C:Cx)(x:Addr)(fp:Value)(s s':ab):Prop where
 |mk (pb:Addr) (inst:s'.heap.get? (x+1)=some (eI C.lexC x)) (dict:eU s'.heap x (Hq fp pb)) (l:dj s'.heap pb #[]) (hp:x+2<=pb) (g:bG s s') (new:s.heap.objs.size=x)
theorem wW{fI:Addr}{fd:FuncData}{fp:Value}{Q:Value->ab->Prop}(kc:dk C)(k:fv C K)(M:EG C K fI fd)(R:bj (n+2) A)(wd:Wd C s)(h:∀x s',Ln C x fp s s'->Q (.ref (x+1)) s'):ar C.M A (call (.ref C.lexC) [fp]) Q bJ s:=by
 have X:=k.at wd
 have hnew:=uq wd s.heap.objs.size (ai _)
 obtain⟨hh,g,d,t,os⟩:=s
 refine i9 (make_core (makes_of X M.makes) (looks_findIn X M.find) (λself=>bind_fn X self M.fn) (.inl rfl) ?_)
 have g0:bG (⟨hh,g,d,t,os⟩:ab) ⟨(hh.push nI).push (eI C.lexC hh.objs.size),g,d,t,os⟩:=(aH.push' (s:=(⟨hh,g,d,t,os⟩:ab)) (o:=nI)).trans0 (aH.push' (s:=(⟨hh.push nI,g,d,t,os⟩:ab)))
 have hsz:(hh.push nI).objs.size=hh.objs.size+1:=aZ ..
 have hx:((hh.push nI).push (eI C.lexC hh.objs.size)).get? (hh.objs.size+1)=some (eI C.lexC hh.objs.size):=hsz▸aB _ rfl
 have hz:((hh.push nI).push (eI C.lexC hh.objs.size)).objs.size=hh.objs.size+2:=(aZ ..).trans (congrArg (· +1) hsz)
 have hd:=aA (eI C.lexC hh.objs.size) (aB hh (o:=nI) rfl)
 generalize(hh.push nI).push (eI C.lexC hh.objs.size)=h1 at g0 hx hz hd
 refine codeAny_mono (Ds (n:=n) kc k M.at_ M.sc M.binds R.typeCall (s:=⟨h1,g,d,t,os⟩) (wd.grow g0 λ_ w=>w.elim) hx hd hnew) λr s' hr=>?_
 obtain⟨rfl,pb,f1,f9,f10,f11⟩:=hr
 exact⟨rfl,h hh.objs.size s' ⟨pb,f11.heap _ _ (eR _) hx,f1,f9,ah (aJ hz.symm) f10,g0.trans f11 (λb q=>.inr (q▸ai _)) (λ_ w=>w.elim),rfl⟩⟩
end
theorem By{ok:Addr->Prop}{h:Heap}{xs:List Str}:∀{vs:List Value},dC ok h vs (xs.map .str)->nj vs xs:=by
 induction xs with
 |nil=>exact λr=>r.unnil▸.nil
 |cons x xs ih=>exact λr=>by refine xP r.uncons λv vs' e rv r'=>?_;exact by refine cU rv.str_inv λt e'=>?_;exact e▸.cons ⟨t,e'⟩ (ih r')
noncomputable def iB(x:Str):List Str:=x.cps.toList.map λc=>⟨#[c]⟩
theorem AJ{ok:Addr->Prop}{h:Heap}{cs:List Nat}:∀{l:List Value},l.length=cs.length->(∀(j:Nat) (v:Value),l[j]? =some v->∃c u,cs[j]? =some c/\v=Al ⟨#[c]⟩ u)->dC ok h l ((cs.map λc=>(⟨#[c]⟩:Str)).map .str):=by
 induction cs with
 |nil=>exact λe _=>List.length_eq_zero_iff.mp e▸.nil
 |cons c cs ih=>
  intro l e hh
  cases l with
  |nil=>exact by cases e
  |cons v l=>
   obtain⟨c',u,e1,rfl⟩:=hh 0 v rfl
   cases e1
   exact .cons Rd.str (ih (s8 e) λj w hw=>hh (j+1) w hw)
theorem AP{ok:Addr->Prop}{h:Heap}{x:Str}{acc:Array Value}(I:ItemsOf (SignAt x) acc x.cps.size):dC ok h acc.toList ((iB x).map .str):=
 AJ I.1 λj v e=>by refine xQ (I.2 j v ((a9 ..).symm.trans e)) λc u e1 e2=>?_;exact Y2 c u ⟨(a9 ..).trans e1,e2⟩
theorem CodeHd.at{h h':Heap}{c P:Addr}(x:CodeHd h c P)(k:∀b o,b≠P->h.get? b=some o->h'.get? b=some o):CodeHd h' c P:=by
 refine nG λkG=>?_;obtain⟨o,vs,file,tf,flags,tg,inF,text,tt,hX⟩:=x;refine kG ?_;refine(λf1 r=>?_) hX.1 hX.2
 exact Y6 o vs file tf flags tg ⟨inF,text,tt,k _ _ r.2.2.2.2.2.2.2.2 f1,r⟩
theorem BuiltinsAt.at{h h':Heap}{mg:Str->Option Value}{P:Addr}(x:h.BuiltinsAt mg P)(k:∀b o,b≠P->h.get? b=some o->h'.get? b=some o):h'.BuiltinsAt mg P:=by
 refine Lz x λbm o b1 b2 b3 b4 b5 b6=>?_
 exact Y2 bm o ⟨b1,b2,b3,b4,k _ _ b4 b5,b6⟩
section
variable{C:Cx}{K:Frag}{A:Around}{s₀ s s₁:ab}{n:Nat}{sc:Scope}{env:Env}{ρ:List LV}{ok okb:Addr->Prop}{og:Nat->List Addr}{μ:Str->Option Value}{ps:Array Value}
theorem St.tabMove{s':ab}(S:St C sc env ρ none ok okb og μ s)(ht:s.heap.get? C.tab=some (jn ps))(ht':∃ps,s'.heap.get? C.tab=some (jn ps))(g:aH (λb=>b=C.tab) cx s s'):St C sc env ρ none ok okb og μ s':=
 have nl:∀a,(∃vs,dj s.heap a vs)->¬a=C.tab:=by rintro a ⟨vs,n,l⟩ q;exact absurd (congrArg ii (ao ((q▸l).symm.trans ht))) (by dsimp only;decide)
 {S with
  wd:={kept:=λb o hb e=>g.heap b o hb (S.wd.kept b o hb e),tab:=ht',os:=g.os.trans S.wd.os,toks:=ay S.wd.toks g.toks,bare:=g.bare S.wd.bare}
  okf:=S.okf.grow g
  ns:=by refine a7 S.ns λm n r=>?_;exact⟨m,Ns.at n λo=>g.heap _ o S.fr0.1.2,r⟩
  cell:=λy e=>by refine a7 (S.cell y e) λc e1 e2=>?_;exact⟨c,e1,IsCell.at e2 λo=>g.heap _ o (S.fr0.2 _ _ e1).2⟩
  cellx:=λy c e=>by refine cU (S.cellx y c e) λv e2=>?_;exact⟨v,IsCell.at e2 λo=>g.heap _ o (S.fr0.2 _ _ e).2⟩
  vars:=λi y k lv e1 e2=>jf.move g .refl (λa _ l=>nl a l) (λa _ l=>nl a l) (λ_ _ o=>o) (λ_ _ o=>o) (λa m w=>(S.owns i a m).2.2.2 w) (S.vars i y k lv e1 e2)
  lxr:=trivial}
theorem St.frTab(S:St C sc env ρ none ok okb og μ s):¬i8 env C.tab:=λw=>w.elim (λq=>S.fr0.1.2 q.symm) λ⟨y,e⟩=>(S.fr0.2 _ _ e).2 rfl
structure LI(C:Cx)(sc:Scope)(env:Env)(s₀:ab)(ρ:List LV)(ok okb:Addr->Prop)(og:Nat->List Addr)(μ:Str->Option Value)(ps:Array Value)(s:ab):Prop where
 st:St C sc env ρ none ok okb og μ s
 g:aH (λb=>b=C.tab) cx s₀ s
 fr:∀b,i8 env b->s₀.heap.objs.size<=b
 ogn:∀i b,b∈og i->s₀.heap.objs.size<=b
 tab:s.heap.get? C.tab=some (jn ps)
theorem LI.grow0(I:LI C sc env s₀ ρ ok okb og μ ps s)(g:bG s s₁):LI C sc env s₀ ρ ok okb og μ ps s₁:=⟨I.st.grow0 g,I.g.trans0 g,I.fr,I.ogn,g.keep0 _ _ I.tab⟩
theorem LI.put{i:Nat}{x:Str}{k:az}{lv₀ lv:LV}{as:List Addr}{v:Value}{Q:Unit->ab->Prop}(E:aY sc env)(I:LI C sc env s₀ ρ ok okb og μ ps s)(g:bG s s₁)(b:d5 sc.names ρ i x k lv₀)(hk:k=.local\/k=.cell)
  (hnew:∀c∈as,s.heap.objs.size<=c/\c < s₁.heap.objs.size)(hn:as.Nodup)(hv:jf (λc=>ok c/\c ∉ as) okb none s₁.heap lv (some v) as)
  (h:∀s',LI C sc env s₀ (ρ.set i lv) (λc=>ok c/\c ∉ as) okb (λj=>if j=i then as else og j) (λy=>if y=x then some v else μ y) ps s'->aH (Af env x) cx s₁ s'->Q () s'):ar C.M A (jh env x v) Q bJ s₁:=
 m9 E I.st b hk (λc m=>.inr (hnew c m)) hn .refl trivial g.of0 hv λs' S' _ gx=>h s' ⟨S',(I.g.trans0 g).trans gx (λb w=>.inr (I.fr b w.frw)) (λ_ w=>w.elim),I.fr,λj c m=>by
  by_cases q:j=i
  ·rw[if_pos q]at m;exact ah I.g.size (hnew c m).1
  ·rw[if_neg q]at m;exact I.ogn j c m,gx.heap _ _ (λw=>S'.frTab w.frw) (g.keep0 _ _ I.tab)⟩ gx
theorem Dh{env:Env}{q:Pos}{Q:Value->ab->Prop}{E:Value->ab->Prop}(h:ar C.M A (makeFunction "<lambda>" (env.qual++"<lambda>") eW.1 (.expr eW.2.1) eW.2.2.1 env [] [] [] q q.line) Q E s):ar C.M A (eval (.Lambda eW.1 eW.2.1 eW.2.2.1 q) env) Q E s:=kla_eval rfl h
structure qm(C:Cx)(K:Frag)(fI fL:Addr)(fdI fdL:FuncData):Prop where
 kc:dk C
 k:fv C K
 M:EG C K fI fdI
 at_:qW C fL fdL (bh 11)
 sc:fdL.scope=aE 11
 binds:∀s vals,Wd C s->vals.length=1->ik s fdL ⟨vals,[]⟩ ((["text"]:List Str).zip vals)
 code:∃c,fdL.code=.ref c/\CodeHd C.h₀ c C.tab
 bi:C.h₀.BuiltinsAt C.mg C.tab
 list:Gb C "list" (.type "list")
 cls:Gb C "_netrclex" (.ref C.lexC)
 keeps:cV C (.ref C.lexC)
 lam:∀c co q pm ctv,C.lamFn c co (kla_fn "<lambda>" q eW.1 eW.2.1 eW.2.2.1 [("signs",c)] pm (.ref co) ctv)
theorem zu:eP (aE 11).names 0 "text" .local:=by rw[gh];exact .here
theorem vm:eP (aE 11).names 1 "stream" .local:=by rw[gh];exact .there .here
theorem sd:eP (aE 11).names 2 "signs" .cell:=by rw[gh];exact .there (.there .here)
theorem J0:nF (aE 11).names "list" .globalImplicit:=by rw[gh];exact .there (.there (.there .here))
theorem J6:nF (aE 11).names "_netrclex" .globalImplicit:=by rw[gh];exact .there (.there (.there (.there .here)))
section
variable{fI fL:Addr}{fdI fdL:FuncData}{x:Str}{P:Flow->ab->Prop}
theorem Cm{p1 p2 p3 p4 p5:Pos}{w1 w2 w3:LV}(kc:dk C)(hl:Gb C "list" (.type "list"))(R:bj n A)(E:aY (aE 11) env)(I:LI C (aE 11) env s₀ [.dat (.str x),w1,.un,w2,w3] ok okb og μ ps s)(hx:x.length<=4096)
  (h:∀ok' og' μ' s',LI C (aE 11) env s₀ [.dat (.str x),w1,.own ((iB x).map .str),w2,w3] ok' okb og' μ' ps s'->P .next s'):ar C.M A (exec (.Assign [.Name "signs" p1] (.Call (.Name "list" p2) [.Name "text" p3] [] p4) p5) env) P bJ s:=by
 refine cJ (ca (eN kc E I.st.wd J0 hl ?_ (by decide+kernel))) rfl
 show ar _ _ (dY _ (.type "list") [] [(false,_)] []) _ _ _
 refine di (first:=[]) cV.type rfl (db (cR (x:=eval (.Name "text" p3) env) (dG (js E I.st (zu.at rfl) (.inl rfl) rfl λv rv _=>gH ⟨I.st.wd,?_⟩) (by decide+kernel))))
 obtain⟨tx,rfl⟩:=Rd.str_inv rv
 refine bR (call_list_str R.hh x tx (λh' tk acc c4 hk hD hI hT hZ=>?_) (ah hx (by decide)))
 exact I.put (s₁:={s with heap:=h',toks:=tk}) (lv:=.own ((iB x).map .str)) (as:=[s.heap.objs.size]) E (.of_keep hT hZ hk) (sd.at rfl) (.inr rfl) (λc m=>by rw[List.mem_singleton.mp m];exact⟨ai _,aC hD⟩) (List.nodup_cons.mpr ⟨dw,bx⟩) ⟨_,acc,rfl,rfl,⟨c4,hD⟩,AP hI⟩ λs' I' _=>h _ _ _ _ I'
structure sO(C:Cx)(env:Env)(ok:Addr->Prop)(d:Addr)(s₀ s:ab):Prop where
 inst:s.heap.get? (d+1)=some (eI C.lexC d)
 dict:eU s.heap d λ_ es=>es.size<=8
 new:s₀.heap.objs.size<=d
 ok:ok d
 ap:¬i8 env d/\¬LW none d/\C.h₀.get? d=none/\d≠C.tab
 ne:d+1≠C.tab
theorem AG{p1 p2 p3 p4 p5:Pos}{k0:Nat}{w0 w2 w3:LV}{ss:List D}(LL:qm C K fI fL fdI fdL)(R:bj (n+2) A)(E:aY (aE 11) env)(I:LI C (aE 11) env s₀ [w0,.un,.own ss,w2,w3] ok okb og μ ps s)
  (h:∀d ok' og' s',LI C (aE 11) env s₀ [w0,.raw (.ref (d+1)),.own ss,w2,w3] ok' okb og' (λy=>if y="stream" then some (.ref (d+1))else μ y) ps s'->sO C env ok' d s₀ s'->P .next s'):ar C.M A (exec (.Assign [.Name "stream" p1] (.Call (.Name "_netrclex" p2) [.Constant .none k0 p3] [] p4) p5) env) P bJ s:=by
 refine cJ (ca (eN LL.kc E I.st.wd J6 LL.cls ?_ (by decide+kernel))) rfl
 show ar _ _ (dY _ (.ref C.lexC) [] [(false,_)] []) _ _ _
 refine di (first:=[]) LL.keeps rfl (db (cR (uM (k:=k0) (pos:=p3) (gH ⟨I.st.wd,wW (n:=n) LL.kc LL.k LL.M R I.st.wd λd s₁ M=>?_⟩))))
 obtain⟨pb,inst,dict,_,_,g,rfl⟩:=M
 have ap:=I.st.apart (b:=s.heap.objs.size) (ai _)
 have ap2:=I.st.apart (b:=s.heap.objs.size+1) (a8 _)
 obtain⟨m,es,nn,e1,e2,M⟩:=dict
 refine I.put (lv:=.raw (.ref (s.heap.objs.size+1))) (as:=[]) E g (vm.at rfl) (.inl rfl) (λc m=>nomatch m) bx ⟨rfl,rfl⟩ λs' I' gx=>h _ _ _ s' I' ?_
 have k:=λo=>gx.heap s.heap.objs.size o λw=>ap.1 w.frw
 exact⟨gx.heap _ _ (λw=>ap2.1 w.frw) inst,⟨m,es,nn,k _ e1,Ns.at e2 k,M.small⟩,I.g.size,⟨I.st.okf _ (ai _),dw⟩,ap,ap2.2.2.2⟩
structure sN(C:Cx)(d f cc co:Addr)(s₀ s:ab):Prop where
 inst:s.heap.get? (d+1)=some (eI C.lexC d)
 std:eU s.heap d λm _=>m "read"=some (.ref f)
 fn:uI C s.heap f cc co
 new:s₀.heap.objs.size<=d
 fnew:s₀.heap.objs.size<=f
 conew:s₀.heap.objs.size<=co
theorem Hz{d fn co:Addr}{p1:Pos}{w0 w2 w3:LV}{ss:List D}{cc:Addr}{h9:Heap}{tk:Tok}{ps':Array Value}(LL:qm C K fI fL fdI fdL)(E:aY (aE 11) env)(hμ:μ "stream"=some (.ref (d+1)))(I:LI C (aE 11) env s₀ [w0,.raw (.ref (d+1)),.own ss,w2,w3] ok okb og μ ps s)(T:sO C env ok d s₀ s)
  (k8:Heap.ExtBut C.tab s.heap h9)(hz:s.heap.objs.size<=h9.objs.size)(ht:s.toks<=tk)(t8:h9.get? C.tab=some (jn ps'))(lam:∀h',(∀b o,b≠d->h9.get? b=some o->h'.get? b=some o)->uI C h' fn cc co)(hf:s₀.heap.objs.size<=fn)(hc:s₀.heap.objs.size<=co)
  (h:∀ps' fn co s',LI C (aE 11) env s₀ [w0,.raw (.ref (d+1)),.own ss,w2,w3] ok okb og μ ps' s'->sN C d fn cc co s₀ s'->P .next s'):
  ar C.M A (eval (.Name "stream" p1) env) (λo s₁=>ar C.M A (setAttr o "read" (.ref fn)) (λ_ s₂=>P .next s₂) bJ s₁) bJ {s with heap:=h9,toks:=tk}:=by
 have g8:aH (λb=>b=C.tab) cx s {s with heap:=h9,toks:=tk}:=aH.ext k8 hz I.tab (λq=>absurd q.1 (by dsimp only;decide)) rfl ht
 have S8:=I.st.tabMove (s':={s with heap:=h9,toks:=tk}) I.tab ⟨_,t8⟩ g8
 have x8:=k8 _ _ T.ne T.inst
 obtain⟨m,es,nn,d8,n8,z8⟩:=T.dict.at λo e=>k8 _ o T.ap.2.2.2 e
 refine eL E S8 (vm.at rfl) (.inl rfl) hμ (by decide+kernel) ?_
 refine vo (s:={s with heap:=h9,toks:=tk}) LL.k S8.wd x8 d8 n8 (.tail _ (.tail _ (.tail _ (.tail _ (.head _))))) (ah z8 (by decide)) λh' es' n' U=>?_
 have g9:aH (λb=>b=d) cx ({s with heap:=h9,toks:=tk}:ab) {s with heap:=h',toks:=tk+2}:=fQ (s:={s with heap:=h9,toks:=tk}) n8 U.same rfl (aF _ 2)
 have nl:∀b vs,b=d->¬dj h9 b vs:=λb vs q l=>(eU.ne_lst (P:=λ_ _=>True) ⟨m,es,nn,d8,n8,trivial⟩ l) q
 have k9:∀b o,b≠d->h9.get? b=some o->h'.get? b=some o:=λb o n e=>(U.same.2 b n).trans e
 refine h ps' fn co {s with heap:=h',toks:=tk+2} ⟨S8.moveP g9 nl λb q=>by rw[q];exact⟨T.ok,T.ap⟩,(I.g.trans1 g8).trans g9 (λb w=>.inr (w▸T.new)) (λ_ w=>w.elim),I.fr,I.ogn,k9 _ _ T.ap.2.2.2.symm t8⟩
  ⟨k9 _ _ (eR _) x8,⟨_,es',n',U.get,U.ns,if_pos rfl⟩,lam h' k9,T.new,hf,hc⟩
theorem Fc{d:Addr}{q p1 p2 p3:Pos}{w0 w2 w3:LV}{ss:List D}{cc:Addr}(LL:qm C K fI fL fdI fdL)(E:aY (aE 11) env)(hcode:env.code=fdL.code)(ec:env.cells.lookup (ad "signs")=some cc)(hμ:μ "stream"=some (.ref (d+1)))(I:LI C (aE 11) env s₀ [w0,.raw (.ref (d+1)),.own ss,w2,w3] ok okb og μ #[] s)(T:sO C env ok d s₀ s)
  (h:∀ps' fn co s',LI C (aE 11) env s₀ [w0,.raw (.ref (d+1)),.own ss,w2,w3] ok okb og μ ps' s'->sN C d fn cc co s₀ s'->P .next s'):ar C.M A (exec (.Assign [.Attribute (.Name "stream" p1) "read" p2] (.Lambda eW.1 eW.2.1 eW.2.2.1 q) p3) env) P bJ s:=by
 have hcl:qG eW.2.2.1 env=pure [(ad "signs",cc)]:=by
  unfold qG
  rw[A4]
  simp[cellOf,ec]
 refine a7 LL.code λc0 hc0 hcd=>?_
 have hcd7:=CodeHd.at hcd I.st.wd.kept
 have hbi:=BuiltinsAt.at LL.bi I.st.wd.kept
 refine dz (bR (Dh (kla_makeFunction hcl E.globals (I.st.wd.nsg LL.kc) (hcode.trans hc0) hcd7 I.tab trivial rfl LL.kc.gne hbi λc' ctv h8 tk8 hx8 hge hlt8 hrec htb hT8 hZ8=>?_))) rfl
 refine LK hrec λc₂ oc ovs oct q2 hoc hod hov=>?_
 cases q2
 have lam:=LL.lam cc c' (env.qual++"<lambda>") ((C.mg "__name__").getD .none) ctv
 generalize hfo:kla_obj "<lambda>" (env.qual++"<lambda>") eW.1 eW.2.1 eW.2.2.1 [(ad "signs",cc)] ((C.mg "__name__").getD .none) c' ctv=fo at hT8 hZ8
 have fd:=congrArg fW hfo.symm
 have hd:d < s.heap.objs.size:=Nat.lt_of_succ_lt (aC T.inst)
 have fn8:=aB h8 (o:=fo) (hfo▸rfl)
 clear hfo
 have k8:Heap.ExtBut C.tab s.heap (h8.push fo):=λb o hb e=>aA _ (hx8 b o hb e)
 have co8:=aA fo hoc
 have t8:=aA fo htb
 have hfz:=bf (du hge hlt8)
 generalize h8.push fo=h9 at hT8 hZ8 fn8 k8 co8 t8
 generalize h8.objs.size=fn at fn8 hfz
 exact Hz LL E hμ I T k8 hZ8 hT8 t8 (λh' k=>⟨fo,_,oc,ovs,oct,k _ _ (cq (ay hd hfz)) fn8,fd,lam,k _ _ (cq (ay hd hge)) co8,hod,hov⟩) (ah I.g.size hfz) (ah I.g.size hge) h
theorem HA{d fn cc co:Addr}{p1 p2 p3 p4:Pos}{w0 w2 w3:LV}(LL:qm C K fI fL fdI fdL)(R:bj (n+2) A)(E:aY (aE 11) env)(ec:env.cells.lookup (ad "signs")=some cc)(hμ:μ "stream"=some (.ref (d+1)))(I:LI C (aE 11) env s₀ [w0,.raw (.ref (d+1)),.own ((iB x).map .str),w2,w3] ok okb og μ ps s)(T:sN C d fn cc co s₀ s)
  (h:∀a s',cn C a ⟨[],iB x,1⟩ s'.heap->aH (λb=>b=C.tab) cx s₀ s'->(∃ps,s'.heap.get? C.tab=some (jn ps))->(∀b,a.all b->s₀.heap.objs.size<=b)->P (.ret (.ref a.lex)) s'):ar C.M A (exec (.Return (some (.Call (.Name "_netrclex" p1) [.Name "stream" p2] [] p3)) p4) env) P bJ s:=by
 refine wpAny_Return_some (ca (eN LL.kc E I.st.wd J6 LL.cls ?_ (by decide+kernel)))
 show ar _ _ (dY _ (.ref C.lexC) [] [(false,_)] []) _ _ _
 refine di (first:=[]) LL.keeps rfl (db (cR (x:=eval (.Name "stream" p2) env) (eL E I.st (vm.at rfl) (.inl rfl) hμ (by decide+kernel) (gH ⟨I.st.wd,wW (n:=n) LL.kc LL.k LL.M R I.st.wd λd2 s₁ M=>?_⟩))))
 refine nG λkG=>?_;obtain⟨pb,inst,⟨m,es,nn,e1,e2,M⟩,l,hp,g,rfl⟩:=M
 have I2:=I.grow0 g
 refine BG (I2.st.vars 2 "signs" .cell _ sd.get rfl) λsa svs v1 v2 v3 v4=>?_
 refine a7 (I2.st.cell "signs" (cS E.nodup sd.get)) λcc' ec' hcell=>?_
 cases ao (ec'.symm.trans ec)
 refine cU (show ∃vs:Array Value,dj s.heap sa vs from by obtain⟨a',vs',hX⟩:=I.st.vars 2 "signs" .cell _ sd.get rfl;refine(λw1 w2' w3=>?_) hX.1 hX.2.1 hX.2.2.1;exact⟨vs',(c7 (w2'.symm.trans v2)).1▸w3⟩) λk0 lt=>?_
 refine kG ?_
 have hsa:sa < s.heap.objs.size:=by refine cU lt λ_ e=>?_;exact aC e
 have hd:d < s.heap.objs.size:=by refine nG λkG=>?_;obtain⟨_,_,_,e,_,_⟩:=T.std;refine kG ?_;exact aC e
 have hz:=I.g.size
 have kp:=g.keep0
 refine h ⟨s.heap.objs.size+1,s.heap.objs.size,pb,d+1,d,fn,cc,sa,co⟩ s₁ ?_ I2.g ⟨_,I2.tab⟩ λb hb=>?_
 ·exact⟨inst,⟨m,es,nn,e1,e2,M.line,M.inst,M.ws,M.push,M.rest,ah M.small (by decide)⟩,⟨#[],l,.nil⟩,kp _ _ T.inst,T.std.at λo=>kp _ o,T.fn.at (λo=>kp _ o) λo=>kp _ o,v1▸hcell,⟨svs,v3,By v4⟩,
   λ(q:pb=sa)=>absurd (ah (aF _ 2) (q▸hp)) (Nat.not_le.mpr hsa),λ(q:s.heap.objs.size=d)=>absurd hd (q▸fw _)⟩
 ·exact cH.all_k hb (cm hz) hz (ah hz (ah (aF _ 2) hp)) (cm T.new) T.new T.fnew (I.fr _ (.inr ⟨_,ec⟩)) (I.ogn 2 sa (v2▸.head _)) T.conew
theorem AZ{t:Tok}(LL:qm C K fI fL fdI fdL)(R:bj (n+4) A)(w:Wx C ok okb none s)(ht:s.heap.get? C.tab=some (jn #[]))(hx:x.length<=4096):
  ar C.M A (call (.ref fL) [.str x t]) (λv s'=>∃a,v=.ref a.lex/\cn C a ⟨[],iB x,1⟩ s'.heap/\aH (λb=>b=C.tab) cx s s'/\(∃ps,s'.heap.get? C.tab=some (jn ps))/\∀b,a.all b->s.heap.objs.size<=b) bJ s:=by
 refine i9 (su (n:=n+3) (okc:=ok) (rs:=[.dat (.str x)]) (is:=[0]) (ps:=["text"]) (len:=5) LL.kc LL.at_ (by rw[LL.sc];exact .cons zu (.inl rfl) .nil) (by rw[LL.sc,gh];rfl) (LL.binds s [.str x t] w.wd rfl) R w rfl (λ_ o=>o) w.sub (λl m d q=>nomatch(List.mem_singleton.mp m).symm.trans q) (.cons ⟨rfl,_,rfl,Rd.str⟩ .nil) λenv μ s₂ E hcode S2 B2 g2 hfr=>?_)
 rw[LL.sc]at E S2
 have I:LI C (aE 11) env s [.dat (.str x),.un,.un,.un,.un] ok ok (λ_=>[]) μ #[] s₂:=⟨S2,g2.mono (λb w=>.inr w) (λ_ w=>w.elim),hfr,λ_ _ m=>(nomatch m),g2.heap _ _ (Nat.not_le.mpr (aC ht)) ht⟩
 show ar C.M _ (kj (_::_::_::_::[]) env) _ _ _
 refine bW (Cm LL.kc LL.list R.deeper E I hx λok1 og1 μ1 s3 I=>?_)
 refine bW (AG (n:=n+1) LL R.deeper E I λd ok2 og2 s4 I T=>?_)
 refine a7 (I.st.cell "signs" (cS E.nodup sd.get)) λcc ec _=>?_
 refine bW (Fc LL E hcode ec (if_pos rfl) I T λps' fn co s5 I T=>?_)
 exact bW (HA (n:=n+1) LL R.deeper E ec (if_pos rfl) I T λa s6 l g t hn=>⟨a,rfl,l,g,t,hn⟩)
end
end
section
variable{C:Cx}{A:Around}{s:ab}{n:Nat}
theorem Bz{a:Addr}{o:Obj}{Q:Option Obj->ab->Prop}{E:Value->ab->Prop}(ho:s.heap.get? a=some o)(h:Q (some o) s):ar C.M A (loadIfAlive a) Q E s:=λΓ p hΓ=>by
 show Q (s.heap.get? a) s
 rw[ho];exact h
abbrev uG(h:Heap)(z TI TO T:Addr)(f1:Bool):Prop:=
 h.get? z=some {cls:=.type "zip",dict:=none,data:=.fields #[rawInt T,.bool f1,.bool false,.ref TI,.ref TO],slots:=#[]}
theorem wn{z TI TO T:Addr}{f1:Bool}{oT:Obj}{Q:Bool->ab->Prop}{E:Value->ab->Prop}(hz:uG s.heap z TI TO T f1)(hT:s.heap.get? T=some oT)
  (h:∀h',uG h' z TI TO T true->jQ z s.heap h'->Q false {s with heap:=h'}):ar C.M A (d6 (.ref z)) Q E s:=by
 unfold d6
 refine aa (c8 hz rfl (x:=rawInt T) rfl ?_)
 show ar _ _ (loadIfAlive T >>= _) _ _ _
 refine aa (Bz hT ?_)
 show ar _ _ (vZ (.ref z) 1 >>= _) _ _ _
 refine aa (c8 hz rfl (x:=.bool f1) rfl ?_)
 cases f1 with
 |true=>
  show ar _ _ (pure false) _ _ _
  exact aq (h s.heap hz ⟨rfl,λ_ _=>rfl⟩)
 |false=>
  show ar _ _ (setField (.ref z) 1 (.bool true) >>= λ_=>pure false) _ _ _
  exact aa (nu hz (by simp) λh' hz' hs'=>aq (h h' hz' hs'))
theorem Az{z TI TO i1 i2 l1 l2 T:Addr}{f1:Bool}{oT:Obj}{k:Nat}{xs ys:Array Value}{x y:Value}{Q:Option Value->ab->Prop}(D:ZipApart z TI TO i1 i2 l1 l2)(hz:uG s.heap z TI TO T f1)(hT:s.heap.get? T=some oT)(hTI:th s.heap TI (.ref i1) (.ref i2))
  (h1:s.heap.IsListIter i1 l1 k)(h2:s.heap.IsListIter i2 l2 k)(hl1:s.heap.IsList l1 xs)(hl2:s.heap.IsList l2 ys)(hx:xs[k]? =some x)(hy:ys[k]? =some y)
  (hQ:∀h',uG h' z TI TO T true->h'.IsListIter i1 l1 (k+1)->h'.IsListIter i2 l2 (k+1)->th h' s.heap.objs.size x y->h'.objs.size=s.heap.objs.size+1->
   (∀c o,c≠z->c≠i1->c≠i2->s.heap.get? c=some o->h'.get? c=some o)->Q (some (.ref s.heap.objs.size)) {s with heap:=h'}):ar C.M A (ew (.ref z)) Q bJ s:=by
 have hTy:s.TypeIs (.ref z) "zip":=⟨_,hz,rfl⟩
 unfold ew
 refine aa (kW (c9 (name:=ad "__next__") hTy F.slot_zip_next (dF F.slot_zip_next hTy F.entry_zip_next ?_ (F.args_zip_next_1 _))))
 show ar _ _ (vZ (.ref z) 2 >>= _) _ _ _
 refine aa (c8 hz rfl (x:=.bool false) rfl ?_)
 show ar _ _ (vZ (.ref z) 3 >>= _) _ _ _
 refine aa (c8 hz rfl (x:=.ref TI) rfl ?_)
 refine aa (jJ hTI rfl ?_)
 show ar _ _ (d6 (.ref z) >>= _) _ _ _
 refine aa (wn hz hT λh₁ hz₁ hs₁=>?_)
 show ar _ _ (forIn #[fm i1,fm i2] _ _ >>= _) _ _ _
 rw[<-Array.forIn_toList]
 simp only[cN,lq]
 refine aa (aa (aa (bg ?_)))
 show ar _ _ (nX (.ref i1) >>= _) _ _ _
 refine aa (wpAny_nextOf_list_item (h1.extBut hs₁.extBut D.i1z) (hl1.extBut hs₁.extBut D.l1z) hx λh₂ h1₂ hs₂=>aq ?_)
 refine aq ?_
 refine aa (aa (bg ?_))
 show ar _ _ (nX (.ref i2) >>= _) _ _ _
 refine aa (wpAny_nextOf_list_item ((h2.extBut hs₁.extBut D.i2z).extBut hs₂.extBut D.i12.symm) ((hl2.extBut hs₁.extBut D.l2z).extBut hs₂.extBut D.l2i1) hy λh₃ h2₃ hs₃=>aq ?_)
 refine aq ?_
 refine aq ?_
 show ar _ _ (newTuple [x,y] >>= _) _ _ _
 refine aa (wpAny_newTuple ?_)
 have hsz:h₃.objs.size=s.heap.objs.size:=by rw[hs₃.1,hs₂.1,hs₁.1]
 have hk:∀c o,c≠z->c≠i1->c≠i2->s.heap.get? c=some o->h₃.get? c=some o:=λc o c1 c3 c4 e=>hs₃.extBut _ _ c4 (hs₂.extBut _ _ c3 (hs₁.extBut _ _ c1 e))
 refine aq ⟨_,rfl,aq ?_⟩
 show Q (some (.ref h₃.objs.size)) _
 rw[hsz]
 refine hQ _ (aA _ (hs₃.extBut _ _ D.i2z.symm (hs₂.extBut _ _ D.i1z.symm hz₁))) ((h1₂.extBut hs₃.extBut D.i12).at λo e=>aA _ e) (h2₃.at λo e=>aA _ e) ?_ (by rw[aZ,hsz]) λc o c1 c3 c4 e=>aA _ (hk c o c1 c3 c4 e)
 rw[<-hsz]
 exact aB _ rfl
theorem BQ{z TI TO i1 i2 l1 l2 T:Addr}{f1:Bool}{oT:Obj}{k:Nat}{xs:Array Value}{Q:Option Value->ab->Prop}(hh:A.handled=none)(D:ZipApart z TI TO i1 i2 l1 l2)(hz:uG s.heap z TI TO T f1)(hT:s.heap.get? T=some oT)(hTI:th s.heap TI (.ref i1) (.ref i2))
  (h1:s.heap.IsListIter i1 l1 k)(hl1:s.heap.IsList l1 xs)(hx:xs[k]? =none)
  (hQ:∀h',(∀c o,c≠z->c≠TO->c≠i1->c≠i2->s.heap.get? c=some o->h'.get? c=some o)->Q none {s with heap:=h'}):ar C.M A (ew (.ref z)) Q bJ s:=by
 have hTy:s.TypeIs (.ref z) "zip":=⟨_,hz,rfl⟩
 unfold ew
 refine aa (kW (c9 (name:=ad "__next__") hTy F.slot_zip_next (dF F.slot_zip_next hTy F.entry_zip_next ?_ (F.args_zip_next_1 _))))
 show ar _ _ (vZ (.ref z) 2 >>= _) _ _ _
 refine aa (c8 hz rfl (x:=.bool false) rfl ?_)
 show ar _ _ (vZ (.ref z) 3 >>= _) _ _ _
 refine aa (c8 hz rfl (x:=.ref TI) rfl ?_)
 refine aa (jJ hTI rfl ?_)
 show ar _ _ (d6 (.ref z) >>= _) _ _ _
 refine aa (wn hz hT λh₁ hz₁ hs₁=>?_)
 show ar _ _ (forIn #[fm i1,fm i2] _ _ >>= _) _ _ _
 rw[<-Array.forIn_toList]
 simp only[cN,lq]
 refine aa (aa (aa (bg ?_)))
 show ar _ _ (nX (.ref i1) >>= _) _ _ _
 refine aa (wpAny_nextOf_list_end hh (h1.extBut hs₁.extBut D.i1z) (hl1.extBut hs₁.extBut D.l1z) hx λh₂ e hs₂ he=>?_)
 refine a7 he λo ho hc=>?_
 refine aa (pq (T:="StopIteration") (b:=true) ⟨o,ho,hc⟩ sY ?_)
 exact aq (hQ _ λc o c1 c2 c3 c4 e=>hs₂ _ _ c3 (hs₁.extBut _ _ c1 e))
end
theorem vD{ok okb:Addr->Prop}{h:Heap}{v:Value}{d:D}(hf:jw d=true)(r:Rd okb h v d):Rd ok h v d:=by
 cases d with
 |int i=>obtain⟨t,rfl⟩:=Rd.int_inv r;exact Rd.int
 |str x=>obtain⟨t,rfl⟩:=Rd.str_inv r;exact Rd.str
 |_=>cases hf
section
variable{C:Cx}{A:Around}{s:ab}{n:Nat}
structure GM(z TI TO i1 i2 l1 l2:Addr)(xs ys:Array Value)(k:Nat)(h:Heap):Prop where
 held:(k=0/\IsZip h z TI TO .none)\/∃T f1 x y,uG h z TI TO T f1/\th h T x y/\T≠z/\T≠TO/\T≠i1/\T≠i2
 ti:th h TI (.ref i1) (.ref i2)
 to:∃a b,th h TO a b
 it1:h.IsListIter i1 l1 k
 it2:h.IsListIter i2 l2 k
 ls1:h.IsList l1 xs
 ls2:h.IsList l2 ys
theorem GM.keep{z TI TO i1 i2 l1 l2:Addr}{xs ys:Array Value}{k:Nat}{h h':Heap}(Z:GM z TI TO i1 i2 l1 l2 xs ys k h)(hk:∀b o,o.cls≠ .type "list"->h.get? b=some o->h'.get? b=some o)(h1:h'.IsList l1 xs)(h2:h'.IsList l2 ys):GM z TI TO i1 i2 l1 l2 xs ys k h' where
 held:=by
  rcases Z.held with⟨e,a⟩|⟨T,f1,x,y,a,b,r⟩
  ·exact .inl ⟨e,hk _ _ (by dsimp only;decide) a⟩
  ·exact .inr ⟨T,f1,x,y,hk _ _ (by dsimp only;decide) a,hk _ _ (by dsimp only;decide) b,r⟩
 ti:=hk _ _ (by dsimp only;decide) Z.ti
 to:=by refine ml Z.to λa b e=>?_;exact Y2 a b (hk _ _ (by dsimp only;decide) e)
 it1:=by refine jH Z.it1 λo e c r=>?_;exact⟨o,hk _ _ (by rw[c];decide) e,c,r⟩
 it2:=by refine jH Z.it2 λo e c r=>?_;exact⟨o,hk _ _ (by rw[c];decide) e,c,r⟩
 ls1:=h1
 ls2:=h2
def vW(xs ys:Array Value)(no:Addr->Prop)(acc:Array Value)(k:Nat)(h:Heap):Prop:=acc.size=k/\∀j,j < k->∃T x y,acc[j]? =some (.ref T)/\xs[j]? =some x/\ys[j]? =some y/\th h T x y/\¬no T
theorem BP{z TI TO i1 i2 l1 l2:Addr}{xs ys:Array Value}{k:Nat}{x y:Value}{Q:Option Value->ab->Prop}(D:ZipApart z TI TO i1 i2 l1 l2)(Z:GM z TI TO i1 i2 l1 l2 xs ys k s.heap)(hx:xs[k]? =some x)(hy:ys[k]? =some y)
  (hQ:∀T h',GM z TI TO i1 i2 l1 l2 xs ys (k+1) h'->th h' T x y->(T≠z/\T≠TO/\T≠i1/\T≠i2)->s.heap.objs.size<=h'.objs.size->(∀c o,c≠z->c≠TO->c≠i1->c≠i2->s.heap.get? c=some o->h'.get? c=some o)->Q (some (.ref T)) {s with heap:=h'}):
  ar C.M A (ew (.ref z)) Q bJ s:=by
 have lt:∀{c o},s.heap.get? c=some o->s.heap.objs.size≠c:=λe=>cq (aC e)
 have ni:s.heap.objs.size≠i1/\s.heap.objs.size≠i2:=⟨(by refine a7 Z.it1 λ_ e _=>?_;exact lt e),(by refine a7 Z.it2 λ_ e _=>?_;exact lt e)⟩
 refine ml Z.to λa b hTO=>?_
 rcases Z.held with⟨rfl,hz⟩|⟨T,f1,u,v,hz,hT,n1,n2,n3,n4⟩
 ·refine wpAny_pyNext_zip_item D hz Z.ti hTO Z.it1 Z.it2 Z.ls1 Z.ls2 hx hy λh' a1 a2 a3 a4 a5 a6 hk=>?_
  exact hQ _ h' ⟨.inr ⟨_,false,x,y,a1,a5,lt hz,lt hTO,ni.1,ni.2⟩,hk _ _ D.TIz D.TITO D.TIi1 D.TIi2 Z.ti,Y2 _ _ a2,a3,a4,Z.ls1.at λo e=>hk _ o D.l1z D.l1TO D.l1i1 D.l1i2 e,Z.ls2.at λo e=>hk _ o D.l2z D.l2TO D.l2i1 D.l2i2 e⟩ a5 ⟨lt hz,lt hTO,ni.1,ni.2⟩ (by exact J2 [Qe Q1 (Qs Q0 1)] Q0 Q1 1 [.negSucc 0] Qt a6) hk
 ·refine Az D hz hT Z.ti Z.it1 Z.it2 Z.ls1 Z.ls2 hx hy λh' a1 a3 a4 a5 a6 hk=>?_
  exact hQ _ h' ⟨.inr ⟨T,true,u,v,a1,hk _ _ n1 n3 n4 hT,n1,n2,n3,n4⟩,hk _ _ D.TIz D.TIi1 D.TIi2 Z.ti,Y2 a b (hk _ _ D.TOz D.TOi1 D.TOi2 hTO),a3,a4,Z.ls1.at λo e=>hk _ o D.l1z D.l1i1 D.l1i2 e,Z.ls2.at λo e=>hk _ o D.l2z D.l2i1 D.l2i2 e⟩ a5 ⟨lt hz,lt hTO,ni.1,ni.2⟩ (by exact J2 [Qe Q1 (Qs Q0 1)] Q0 Q1 1 [.negSucc 0] Qt a6) λc o c1 _ c3 c4 e=>hk c o c1 c3 c4 e
theorem wm{z TI TO i1 i2 l1 l2 S:Addr}{xs ys:Array Value}{res:Value}{R:mj->ab->Prop}{s0:ab}(hh:A.handled=none)(D:ZipApart z TI TO i1 i2 l1 l2)(hsz:xs.size=ys.size)(hn:0 < xs.size)(hz4:xs.size<=4096)(hfr:s0.heap.objs.size<=z/\s0.heap.objs.size<=TO/\s0.heap.objs.size<=i1/\s0.heap.objs.size<=i2/\s0.heap.objs.size<=S)(hl1:l1≠S)(hl2:l2≠S)
  (hR:∀s' acc,(∀b o,s0.heap.get? b=some o->s'.heap.get? b=some o)->s0.heap.objs.size<=s'.heap.objs.size->dj s'.heap S acc->vW xs ys (λT=>T=z\/T=TO\/T=i1\/T=i2) acc xs.size s'.heap->s'.gens=s0.gens->s'.os=s0.os->s0.toks<=s'.toks->R (.ok (.ret res)) s'):
  ∀(m k:Nat) (s:ab) (acc:Array Value),k+m=xs.size->(∀b o,s0.heap.get? b=some o->s.heap.get? b=some o)->s0.heap.objs.size<=s.heap.objs.size->GM z TI TO i1 i2 l1 l2 xs ys k s.heap->dj s.heap S acc->
   vW xs ys (λT=>T=z\/T=TO\/T=i1\/T=i2) acc k s.heap->s.gens=s0.gens->s.os=s0.os->s0.toks<=s.toks->eB C.M A (.builtin "list.extend.loop" ⟨[.ref S,.ref z,res],[]⟩) R s
 |0,k,s,acc,e,hk,hz,Z,⟨c,hS⟩,P,hg,ho,ht=>by
  refine codeAny_builtin F.entry_extend_loop ?_
  rw[Around.under_plainId F.plain_extend_loop _]
  show ar _ A.in1 (ew (.ref z) >>= _) _ _ s
  have hke:k=xs.size:=by simpa using e
  subst hke
  rcases Z.held with⟨e0,_⟩|⟨T,f1,u,v,hzz,hT,n1,n2,n3,n4⟩
  ·omega
  have hSz:∀o',s.heap.get? S=some o'->o'.cls=.type "list":=λo' e=>by rw[hS]at e;cases e;rfl
  refine aa (al (bR (Q:=λr s'=>r=none/\s.heap.objs.size<=s'.heap.objs.size/\(∀c o,c≠z->c≠TO->c≠i1->c≠i2->s.heap.get? c=some o->s'.heap.get? c=some o)/\s'.gens=s.gens/\s'.os=s.os/\s.toks<=s'.toks) (BQ (A:=A.in1) hh D hzz hT Z.ti Z.it1 Z.ls1 (iP (ai _)) λh' hk' ht' hz'=>⟨rfl,hz',hk',rfl,rfl,ht'⟩)) (λr s' h'=>?_) λ_ _ x=>x.elim)
  obtain rfl:=h'.1;refine LB h' λ_ q1 q2 q3 q4 q5=>?_
  refine nG λkG=>?_;obtain⟨ta,tb,hTO⟩:=Z.to
  refine cU Z.it1 λo1 hX=>?_;refine kG ?_;refine oG hX λw1 w2 _=>?_
  refine jH Z.it2 λo2 v1 v2 _=>?_
  have nS:S≠z/\S≠TO/\S≠i1/\S≠i2:=by
   refine⟨λq=>?_,λq=>?_,λq=>?_,λq=>?_⟩
   ·rw[q,hzz]at hS;have:=congrArg ii (ao hS);exact absurd this (by dsimp only;decide)
   ·rw[q,hTO]at hS;have:=congrArg ii (ao hS);exact absurd this (by dsimp only;decide)
   ·rw[q,w1]at hS;cases hS;exact absurd w2 (by dsimp only;decide)
   ·rw[q,v1]at hS;cases hS;exact absurd v2 (by dsimp only;decide)
  refine aq (hR s' acc (λb o e=>?_) (ah hz q1) ⟨c,q2 _ _ nS.1 nS.2.1 nS.2.2.1 nS.2.2.2 hS⟩ ⟨P.1,λj hj=>?_⟩ (q3.trans hg) (q4.trans ho) (ah ht q5))
  ·have lb:=aC e
   exact q2 _ _ (aK (ay lb hfr.1)) (aK (ay lb hfr.2.1)) (aK (ay lb hfr.2.2.1)) (aK (ay lb hfr.2.2.2.1)) (hk b o e)
  ·refine Kw (P.2 j hj) λT' x' y' p1 p2 p3 p4 p5=>?_
   exact Y3 T' x' y' ⟨p1,p2,p3,q2 _ _ (λq=>p5 (.inl q)) (λq=>p5 (.inr (.inl q))) (λq=>p5 (.inr (.inr (.inl q)))) (λq=>p5 (.inr (.inr (.inr q)))) p4,p5⟩
 |m+1,k,s,acc,e,hk,hz,Z,⟨c,hS⟩,P,hg,ho,ht=>by
  have hkx:k < xs.size:=by exact J3 [Qe (Qa Q0 (Qs Q2 1)) Q1] (Qs Q0 1) Q1 1 [1] Qt e
  have hky:k < ys.size:=by exact J4 [Qe (Qa Q0 (Qs Q2 1)) Q3,Qe Q3 Q1] (Qs Q0 1) Q1 1 [1,1] Qt e hsz
  refine codeAny_builtin F.entry_extend_loop ?_
  rw[Around.under_plainId F.plain_extend_loop _]
  show ar _ A.in1 (ew (.ref z) >>= _) _ _ s
  refine aa (al (bR (Q:=λr s'=>∃T,r=some (.ref T)/\GM z TI TO i1 i2 l1 l2 xs ys (k+1) s'.heap/\th s'.heap T xs[k] ys[k]/\(T≠z/\T≠TO/\T≠i1/\T≠i2)/\s.heap.objs.size<=s'.heap.objs.size/\(∀c o,c≠z->c≠TO->c≠i1->c≠i2->s.heap.get? c=some o->s'.heap.get? c=some o)/\s'.gens=s.gens/\s'.os=s.os/\s.toks<=s'.toks)
   (BP (A:=A.in1) D Z (bn hkx) (bn hky) λT h' a1 a2 a3 a4 a5 ht' hz'=>⟨T,rfl,a1,a2,a3,a4,a5,rfl,rfl,ht'⟩)) (λr s' h'=>?_) λ_ _ x=>x.elim)
  refine nG λkG=>?_;obtain⟨T,hX⟩:=h';obtain rfl:=hX.1;refine kG ?_;refine LN hX λ_ Z' hT nT q1 q2 q3 q4 q5=>?_
  refine nG λkG=>?_;obtain⟨ta,tb,hTO⟩:=Z.to
  refine cU Z.it1 λo1 hX=>?_;refine kG ?_;refine oG hX λw1 w2 _=>?_
  refine jH Z.it2 λo2 v1 v2 _=>?_
  have nS:S≠z/\S≠TO/\S≠i1/\S≠i2:=by
   refine⟨λq=>?_,λq=>?_,λq=>?_,λq=>?_⟩
   ·rcases Z.held with⟨_,hzz⟩|⟨T,f1,u,v,hzz,_⟩
    ·rw[q,hzz]at hS;have:=congrArg ii (ao hS);exact absurd this (by dsimp only;decide)
    ·rw[q,hzz]at hS;have:=congrArg ii (ao hS);exact absurd this (by dsimp only;decide)
   ·rw[q,hTO]at hS;have:=congrArg ii (ao hS);exact absurd this (by dsimp only;decide)
   ·rw[q,w1]at hS;cases hS;exact absurd w2 (by dsimp only;decide)
   ·rw[q,v1]at hS;cases hS;exact absurd v2 (by dsimp only;decide)
  have hS':=q2 _ _ nS.1 nS.2.1 nS.2.2.1 nS.2.2.2 hS
  show ar _ A.in1 (updateSeq S (·.push (.ref T)) >>= _) _ _ _
  refine aa ?_
  have hup:∀b o,b≠S->s'.heap.get? b=some o->(s'.heap.update S (aS λv=>v.push (.ref T))).get? b=some o:=λb o hb e=>(cy _ _ (Ne.symm hb)).trans e
  have h4:(4096:Nat)<=sizeLine:=by decide
  refine qZ hS' rfl (aq ⟨plainId_quiet F.plain_extend_loop _,wm hh D hsz hn hz4 hfr hl1 hl2 hR m (k+1) _ (acc.push (.ref T)) (by exact eu (J3 [Qe (Qa Q0 (Qs Q1 1)) Q2] (Qa (Qs Q0 1) Q1) Q2 1 [1] Qt e) (J3 [Qe (Qa Q1 (Qs Q2 1)) Q0] Q0 (Qa (Qs Q1 1) Q2) 1 [.negSucc 0] Qt e)) (λb o e=>?_) ?_ ?_ (jT hS' _) ⟨by rw[oE,P.1],λj hj=>?_⟩ (q3.trans hg) (q4.trans ho) (ah ht q5)⟩) (by rw[P.1];exact J4 [Ql (Qn 4096) Q1,Qe (Qa Q0 (Qs Q2 1)) Q3,Ql Q3 (Qn 4096)] Q0 Q1 1 [1,1,1] Qt h4 e hz4) (by show(acc.push _).size<=sizeLine+1;rw[oE,P.1];exact J4 [Ql (Qn 4096) Q1,Qe (Qa Q0 (Qs Q2 1)) Q3,Ql Q3 (Qn 4096)] (Qs Q0 1) (Qs Q1 1) 1 [1,1,1] Qt h4 e hz4)
  ·have lb:=aC e
   exact hup _ _ (aK (ay lb hfr.2.2.2.2)) (q2 _ _ (aK (ay lb hfr.1)) (aK (ay lb hfr.2.1)) (aK (ay lb hfr.2.2.1)) (aK (ay lb hfr.2.2.2.1)) (hk b o e))
  ·show _<=(s'.heap.update S _).objs.size
   rw[d0];exact ah hz q1
  ·refine Z'.keep (λb o hc e=>hup _ _ (λq=>?_) e) (Z'.ls1.at λo e=>hup _ _ hl1 e) (Z'.ls2.at λo e=>hup _ _ hl2 e)
   rw[q,hS']at e;cases e;exact hc rfl
  ·by_cases hjk:j < k
   ·refine Kw (P.2 j hjk) λT' x' y' p1 p2 p3 p4 p5=>?_
    have q0:=q2 _ _ (λq=>p5 (.inl q)) (λq=>p5 (.inr (.inl q))) (λq=>p5 (.inr (.inr (.inl q)))) (λq=>p5 (.inr (.inr (.inr q)))) p4
    refine Y3 T' x' y' ⟨by rw[Array.getElem?_push,if_neg (by rw[P.1];exact aK ‹_›)];exact p1,p2,p3,hup _ _ (λq=>?_) q0,p5⟩
    have q0:s'.heap.get? T'=some {cls:=.type "tuple",data:=.seq #[x',y']}:=q0
    rw[q,hS']at q0;have:=congrArg ii (ao q0);exact absurd this (by dsimp only;decide)
   ·have hje:j=k:=by exact eu (J2 [Ql (Qs Q0 1) (Qs Q1 1)] Q0 Q1 1 [1] Qt hj) ((bI hjk))
    subst hje
    refine Y3 T _ _ ⟨by rw[Array.getElem?_push,if_pos P.1.symm],bn hkx,bn hky,hup _ _ (λq=>?_) hT,λq=>?_⟩
    ·have hT2:s'.heap.get? T=some {cls:=.type "tuple",data:=.seq #[xs[j],ys[j]]}:=hT
     rw[q,hS']at hT2;have:=congrArg ii (ao hT2);exact absurd this (by dsimp only;decide)
    ·rcases q with q|q|q|q
     ·exact nT.1 q
     ·exact nT.2.1 q
     ·exact nT.2.2.1 q
     ·exact nT.2.2.2 q
end
theorem x6:typeLookup (.type "zip") "__len__"=pure none:=by rw[mf,gq];kernel_rfl
theorem wl:typeLookup (.type "zip") "__length_hint__"=pure none:=by rw[mf,gq];kernel_rfl
section
variable{C:Cx}{A:Around}{s:ab}{n:Nat}
theorem C9{z TI TO i1 i2 l1 l2:Addr}{xs ys:Array Value}{Q:Value->ab->Prop}{s0:ab}(hh:A.handled=none)(D:ZipApart z TI TO i1 i2 l1 l2)(hsz:xs.size=ys.size)(hn:0 < xs.size)(hz4:xs.size<=4096)(hzz:IsZip s.heap z TI TO .none)(Z:GM z TI TO i1 i2 l1 l2 xs ys 0 s.heap)
  (hfr:s0.heap.objs.size<=z/\s0.heap.objs.size<=TO/\s0.heap.objs.size<=i1/\s0.heap.objs.size<=i2)(g0:bG s0 s)(hge:s.gens=s0.gens)
  (hQ:∀s' acc S,bG s0 s'->s0.heap.objs.size<=S->dj s'.heap S acc->vW xs ys (λT=>T=z\/T=TO\/T=i1\/T=i2) acc xs.size s'.heap->Q (.ref S) s'):ar C.M A (call (.type "list") [.ref z]) Q bJ s:=by
 refine callType_codes (Q₁:=λobj s₁=>obj=.ref s.heap.objs.size/\s₁={s with heap:=s.heap.push {cls:=.type "list",data:=.seq #[]}}) F.called_list (F.typeCall_list_1 _) F.entry_list_init (code_list_new _ ⟨rfl,rfl⟩) λobj s₁ h₁=>?_
 obtain rfl:=h₁.1;obtain rfl:=h₁.2
 generalize hS0:s.heap.objs.size=S
 have hS:(s.heap.push {cls:=.type "list",data:=.seq #[]}).get? S=some {cls:=.type "list",data:=.seq #[]}:=hS0▸aB _ rfl
 refine⟨⟨_,hS,rfl⟩,F.args_list_init_2 _ _,?_⟩
 have lz:z < s.heap.objs.size:=aC hzz
 have ll1:l1 < s.heap.objs.size:=by refine a7 Z.ls1 λ_ e _=>?_;exact aC e
 have ll2:l2 < s.heap.objs.size:=by refine a7 Z.ls2 λ_ e _=>?_;exact aC e
 have keep:∀h':Heap,(∀b o,b≠S->s.heap.get? b=some o->h'.get? b=some o)->GM z TI TO i1 i2 l1 l2 xs ys 0 h':=λh' hk=>by
  have k':∀b o,s.heap.get? b=some o->h'.get? b=some o:=λb o e=>hk b o (aK (cX (aC e) hS0)) e
  exact Z.keep (λb o _ e=>k' b o e) (Z.ls1.at λo e=>k' _ o e) (Z.ls2.at λo e=>k' _ o e)
 show ar _ _ (do let old <-Builtin.List.listItems (.ref S);Builtin.List.listUpdate (.ref S) (λ_=>#[]);letGo old.toList.reverse;mw (.ref S) (.ref z) .none) _ _ _
 refine aa ?_
 unfold Builtin.List.listItems
 refine aa (jJ hS rfl (aq ?_))
 show ar _ _ (updateSeq S (λ_=>#[]) >>= λ_=>letGo (#[]:Array Value).toList.reverse >>= λ_=>mw (.ref S) (.ref z) .none) _ _ _
 refine aa (qZ hS rfl ?_)
 have hS₂:=gE (aS (λ_=>(#[]:Array Value))) hS rfl
 refine aa (wpAny_letGo ?_)
 have k2:∀b o,b≠S->s.heap.get? b=some o->((s.heap.push {cls:=.type "list",data:=.seq #[]}).update S (aS (λ_=>(#[]:Array Value)))).get? b=some o:=
  λb o hb e=>(cy _ _ (Ne.symm hb)).trans (aA _ e)
 have hz2:=k2 z _ (aK (cX lz hS0)) hzz
 have hzs:((s.heap.push {cls:=.type "list",data:=.seq #[]}).update S (aS (λ_=>(#[]:Array Value)))).objs.size=s.heap.objs.size+1:=by rw[d0,aZ]
 generalize(s.heap.push {cls:=.type "list",data:=.seq #[]}).update S (aS (λ_=>(#[]:Array Value)))=h2 at hS₂ k2 hz2 hzs
 unfold mw
 refine aa (wpAny_typeOf (T:="zip") ⟨_,hz2,rfl⟩ ?_)
 have h1:Builtin.List.listSameRef (.ref S) (.ref z)=false:=by
  have:S≠z:=λq=>aK (cX lz hS0) q.symm
  simp[Builtin.List.listSameRef,this]
 have h2':(qH "zip"==qH "list")=false:=by decide
 have h3:(qH "zip"==qH "tuple")=false:=by decide
 simp only[h1,h2',h3,Aw,cY,if_false]
 refine aa (wpAny_pyIter_zip hz2 ?_)
 refine aa (bg ?_)
 unfold Builtin.List.listLengthHint
 refine aa (q7 (T:="zip") ⟨_,hz2,rfl⟩ x6 ?_)
 show ar _ _ (specialOf (fm z) (ad "__length_hint__") >>= _) _ _ _
 refine aa (q7 (T:="zip") ⟨_,hz2,rfl⟩ wl ?_)
 refine aq ?_
 show ar _ _ (rule "list.extend.makes-room" >>= λ_=>Builtin.List.listTouch (.ref S) >>= λ_=>again (.builtin "list.extend.loop" ⟨[.ref S,.ref z,.none],[]⟩)) _ _ _
 refine aa (wf ?_)
 refine aa ?_
 show ar _ _ (updateSeq S (·.push .none) >>= λ_=>updateSeq S (·.pop)) _ _ _
 refine aa (qZ hS₂ rfl ?_)
 have hS₃:=gE (aS (·.push ez)) hS₂ rfl
 refine qZ (hz:=by seq_fits) hS₃ rfl ?_
 have hS₄:=gE (aS (·.pop)) hS₃ rfl
 have k4:∀b o,b≠S->s.heap.get? b=some o->((h2.update S (aS (·.push ez))).update S (aS (·.pop))).get? b=some o:=
  λb o hb e=>(cy _ _ (Ne.symm hb)).trans ((cy _ _ (Ne.symm hb)).trans (k2 b o hb e))
 have hsS:s0.heap.objs.size<=S:=hS0▸g0.size
 refine aq ⟨plainId_quiet F.plain_extend_loop _,wm (s0:=s0) (A:=A.in1) hh D hsz hn hz4 ⟨hfr.1,hfr.2.1,hfr.2.2.1,hfr.2.2.2,hsS⟩ (aK (cX ll1 hS0)) (aK (cX ll2 hS0)) (λs' acc hk hz' hl hp hg ho ht=>?_) xs.size 0 _ #[] (by exact BM _ _) (λb o e=>?_) ?_ (keep _ k4) ⟨_,hS₄⟩ ⟨rfl,λj hj=>absurd hj (et _)⟩ ?_ ?_ ?_⟩
 ·refine⟨rfl,hQ s' acc S ⟨λb o _ e=>hk b o e,λb o _ _ e=>hk b o e,hz',λi g _ e=>by rw[hg];exact e,by rw[hg];exact ai _,λq=>by rw[hg];exact q,ho,ht⟩ hsS hl hp⟩
 ·exact k4 _ _ (aK (ay (aC e) hsS)) (g0.keep0 _ _ e)
 ·show _<=((h2.update S _).update S _).objs.size
  rw[d0,d0,hzs]
  exact cm g0.size
 ·exact hge
 ·exact g0.os
 ·exact g0.toks
theorem uc{ok okb:Addr->Prop}{h:Heap}:∀(accl xl yl:List Value) (ds es:List D),accl.length=ds.length->ds.length=es.length->(∀j,j < ds.length->∃T x y,accl[j]? =some (.ref T)/\xl[j]? =some x/\yl[j]? =some y/\th h T x y)->dC okb h xl ds->dC okb h yl es->ds.all jw=true->es.all jw=true->
  dC ok h accl (Ay ds es)
 |[],_,_,[],[],_,_,_,_,_,_,_=>.nil
 |[],_,_,_::_,_,e,_,_,_,_,_,_=>by cases e
 |_,_,_,[],_::_,_,e,_,_,_,_,_=>by cases e
 |_,_,_,_::_,[],_,e,_,_,_,_,_=>by cases e
 |_::_,_,_,[],_,e,_,_,_,_,_,_=>by cases e
 |v::accl,xl,yl,d::ds,e::es,e1,e2,hp,rx,ry,f1,f2=>by
  refine nG λkG=>?_;obtain⟨x,xl',rfl,rx1,rx2⟩:=rx.uncons
  obtain⟨y,yl',rfl,ry1,ry2⟩:=ry.uncons
  simp only[List.all_cons,aI]at f1 f2
  refine Kx (hp 0 (by simp)) λT x' y' p1 p2 p3 p4=>?_
  refine kG ?_
  cases p1;cases p2;cases p3
  exact dC.cons (Rd.tuple ⟨_,p4,rfl,_,rfl⟩ (dC.cons (vD f1.1 rx1) (dC.cons (vD f2.1 ry1) .nil))) (uc accl xl' yl' ds es (by simpa using e1) (by simpa using e2) (λj hj=>hp (j+1) (by simpa using hj)) rx2 ry2 f1.2 f2.2)
theorem SE.zip{sc:Scope}{e1 e2:Expr}{a b:DE}{p1 p2 q1 pos:Pos}(kc:dk C)(hl:nF sc.names "list" .globalImplicit)(hz:nF sc.names "zip" .globalImplicit)(hvl:Gb C "list" (.type "list"))(hvz:Gb C "zip" (.type "zip"))(ha:SE C n sc e1 a)(hb:SE C n sc e2 b)(hs:bt [e1,e2]=true):
  SE C n sc (.Call (.Name "list" p1) [.Call (.Name "zip" p2) [e1,e2] [] q1] [] pos) (.zip a b):=.mk λρ lx r l h=>by
 refine nG λkG=>?_;obtain⟨⟨x,l1⟩,d1,h1⟩:=eg h
 refine a7 (eg h1) λds d2 h2=>?_
 obtain⟨⟨y,l2⟩,d3,h3⟩:=eg h2
 refine a7 (eg h3) λes d4 h4=>?_
 refine en (cb h4) λg h5=>?_
 refine kG ?_
 cases h5
 simp only[aI]at g
 refine oG g λg1 g2 g3=>?_
 refine oG (of_decide_eq_true g1) λg1 g4 g5=>?_
 intro A env ok okb og μ s R E S
 refine ca (eN kc E S.wd hl hvl ?_ (by decide+kernel))
 show ar _ _ (dY pos (.type "list") [] [(false,_)] []) _ _ _
 refine di (first:=[]) cV.type rfl (db (cR ?_))
 show ar C.M _ (eval (.Call (.Name "zip" p2) [e1,e2] [] q1) env) _ _ _
 refine ca (eN kc E S.wd hz hvz ?_ (by decide+kernel))
 refine xE (first:=[]) (Q:=λrs l'=>rs=[x,y]/\l'=l2) cV.type R E S hs ((ha.run _ _ _ _ d1).to ((hb.run _ _ _ _ d3).to ⟨rfl,rfl⟩)) λrs l' vs s₁ q S1 sa gg av=>?_
 refine en q λq1 q2=>?_
 subst q1 q2
 refine ml (pG av) λv1 v2 hX=>?_;obtain rfl:=hX.1;refine oG hX λ_ r1 r2=>?_
 refine ml (Rd.list_inv (r1.rd S1.sub (kK d2))) λla xs hX=>?_;obtain rfl:=hX.1;refine wb hX λ_ _ lla rxs=>?_
 refine ml (Rd.list_inv (r2.rd S1.sub (kK d4))) λlb ys hX=>?_;obtain rfl:=hX.1;refine(λllb rys=>?_) hX.2.2.1 hX.2.2.2
 have hx:xs.size=ds.length:=by simpa using rxs.length
 have hy:ys.size=es.length:=by simpa using rys.length
 have a1:la < s₁.heap.objs.size:=by obtain⟨_,e⟩:=lla;exact aC e
 have a2:lb < s₁.heap.objs.size:=by obtain⟨_,e⟩:=llb;exact aC e
 refine bR (call_zip_2 lla.isList llb.isList λh' z1 z2 z3 z4 z5 z6 hk hT hZ=>?_)
 have g0:bG s₁ {s₁ with heap:=h'}:=.of_keep (t:=s₁.toks) (ai _) hZ hk
 refine gH ⟨(S1.grow0 g0).wd,?_⟩
 refine C9 (s0:=s₁) R.hh (zipApart_new a1 a2) (by exact eu (J4 [Qe Q1 Q2,Qe Q2 Q3,Qe Q0 Q3] Q0 Q1 1 [.negSucc 0,.negSucc 0,1] Qt hy g4 hx) (J4 [Qe Q0 Q2,Qe Q2 Q3,Qe Q1 Q3] Q0 Q1 1 [1,1,.negSucc 0] Qt hy g4 hx)) (by exact J2 [Ql (Qs (Qn 0) 1) Q1,Qe Q0 Q1] (Qs (Qn 0) 1) Q0 1 [1,.negSucc 0] Qt g5 hx) (by exact J2 [Qe Q0 Q1,Ql Q1 (Qn 4096)] Q0 (Qn 4096) 1 [1,1] Qt hx g1) z1 ⟨.inl ⟨rfl,z1⟩,z2,Y2 _ _ z3,z4,z5,lla.isList.at λo e=>hk _ o e,llb.isList.at λo e=>hk _ o e⟩
  ⟨aF _ _,aF _ _,ai _,aF _ _⟩ g0 rfl λs' acc Sx gz hSx hlx hp=>?_
 have rx:=rxs.grow0 gz
 have ry:=rys.grow0 gz
 refine⟨.dat (.list (Ay ds es)),l',⟨rfl,rfl⟩,Rd.list hlx (S1.okf Sx hSx) (uc _ xs.toList ys.toList ds es (by simp only[cA];rw[hp.1,hx]) g4.symm (λj hj=>?_) rx ry g2 g3),sa,S1.lxr.grow0 gz,gg.trans0 gz⟩
 obtain⟨T,x',y',p1,p2,p3,p4,_⟩:=hp.2 j (by exact J3 [Ql (Qs Q0 1) Q2,Qe Q1 Q2] (Qs Q0 1) Q1 1 [1,.negSucc 0] Qt hj hx)
 exact Y3 T x' y' ⟨by simpa using p1,by simpa using p2,by simpa using p3,p4⟩
end
theorem A5{α:Type}{cmp:Nat->Nat->(Bool->ab->Prop)->ab->Prop}{n:Nat}{lt:Nat->Nat->Bool}{G:α->ab->Prop}{s:ab}(hc:∀(i j:Nat) (C:Bool->ab->Prop),i < n->j < n->i≠j->C (lt i j) s->cmp i j C s)(t:KasT α):
  ∀(a:α),yC n lt t=some a->G a s->t.kasWp cmp G s:=by
 induction t with
 |ret a=>exact λb e h=>by cases e;exact h
 |ask i j k ih=>
  intro b e h
  refine(λg e=>?_) (cb e).1 (cb e).2
  refine(λg12 g3=>?_) (Bool.and_eq_true_iff.mp g).1 (Bool.and_eq_true_iff.mp g).2
  refine(λg1 g2=>?_) (Bool.and_eq_true_iff.mp g12).1 (Bool.and_eq_true_iff.mp g12).2
  exact hc i j _ (of_decide_eq_true g1) (of_decide_eq_true g2) (bne_iff_ne.mp g3) (ih (lt i j) b e h)
section
variable{C:Cx}{A:Around}{s:ab}{n:Nat}
inductive ER(h:Heap)(v:Value)(p:Int × Int):Prop where
 |mk (a:Addr) (t u:Tok) (e:v=.ref a) (x:h.IsTuple a #[.int p.1 t,.int p.2 u])
abbrev qY(h:Heap)(vs:List Value)(ps:List (Int × Int)):Prop:=cW (ER h) vs ps
theorem qY.keep{h h':Heap}{vs:List Value}{ps:List (Int × Int)}(x:qY h vs ps)(k:∀b o,o.cls=.type "tuple"->h.get? b=some o->h'.get? b=some o):qY h' vs ps:=
 gQ (λ_ _ r=>by refine nG λkG=>?_;obtain⟨a,t,u,e1,o,hX⟩:=r;refine kG ?_;refine(λe2 e3 r=>?_) hX.1 hX.2.1 hX.2.2;exact⟨a,t,u,e1,o,k _ _ e3 e2,e3,r⟩) x
theorem qY.get{h:Heap}{vs:List Value}{ps:List (Int × Int)}(x:qY h vs ps):∀{i:Nat},i < ps.length->ER h (vs.getD i ez) (ps.getD i (0,0)):=by
 induction x with
 |nil=>exact λe=>absurd e (et _)
 |cons a _ ih=>exact λ{i} e=>by cases i with
  |zero=>exact a
  |succ i=>exact ih (e9 e)
theorem CT{l:List (Int × Int)}:∀{i j:Nat},EU l=true->j < l.length->i < j->(l.getD i (0,0)).1≠(l.getD j (0,0)).1:=by
 induction l with
 |nil=>exact λ_ h=>absurd h (et _)
 |cons x r ih=>
  intro i j ho h2 h3
  refine(λh4 h5=>?_) (Bool.and_eq_true_iff.mp (show(r.all (λy=>decide (y.1≠x.1))&&EU r)=true from ho)).1 (Bool.and_eq_true_iff.mp (show(r.all (λy=>decide (y.1≠x.1))&&EU r)=true from ho)).2
  cases j with
  |zero=>exact absurd h3 (et _)
  |succ j=>
   have hj:j < r.length:=e9 h2
   cases i with
   |zero=>exact λq=>of_decide_eq_true (List.all_eq_true.mp h4 _ (show r.getD j (0,0)∈r by rw[bA,aD hj];exact uR hj)) q.symm
   |succ i=>exact ih h5 hj (e9 h3)
theorem Ex{vs:List Value}{ps:List (Int × Int)}(X:qY s.heap vs ps)(hd:EU ps=true){i j:Nat}{K:Bool->ab->Prop}(hi:i < ps.length)(hj:j < ps.length)(hij:i≠j)(h:K (decide ((ps.getD i (0,0)).1 < (ps.getD j (0,0)).1)) s):
  kas_ask C.prog C.w A (tuples' true) vs i j K s:=by
 have hne:((ps.getD i (0,0)).1==(ps.getD j (0,0)).1)=false:=(Nat.lt_or_gt_of_ne hij).elim (λq=>beq_eq_false_iff_ne.mpr (CT hd hj q)) λq=>beq_eq_false_iff_ne.mpr (CT hd hi q).symm
 refine nG λkG=>?_;obtain⟨a,t,u,e1,o1,e2,e3,n1,e4⟩:=X.get hi
 obtain⟨b,t',u',f1,o2,f2,f3,n2,f4⟩:=X.get hj
 refine kG ?_
 unfold kas_ask
 rw[e1,f1]
 refine kat_lt e2 e4 f2 f4 (kat_cons (wpAny_eqBool_int ?_))
 rw[hne]
 exact kat_no (oneLt_int h)
theorem Bw{h:Heap}{vs:List Value}{ps:List (Int × Int)}(x:qY h vs ps):∃fs,KatTups h vs fs/\fs.length=ps.length/\∀f∈fs,∃i t,f=Value.int i t:=by
 induction x with
 |nil=>exact⟨[],.nil,rfl,λf m=>nomatch m⟩
 |cons a _ ih=>
  refine nG λkG=>?_;obtain⟨a,t,u,rfl,o1,e2,e3,n1,e4⟩:=a
  obtain⟨fs,hX⟩:=ih;refine kG ?_;refine(λh1 h2 h3=>?_) hX.1 hX.2.1 hX.2.2
  exact⟨_::fs,.cons e2 e3 e4 rfl h1,congrArg (· +1) h2,λf m=>(List.mem_cons.mp m).elim (λq=>Y2 _ _ q) (h3 f)⟩
theorem sK{a:Addr}{vs:List Value}{ps qs:List (Int × Int)}{k:Nat}{P:PySem.Fin->ab->Prop}{E:Value->ab->Prop}(ho:s.heap.get? a=some (gU "list" vs.toArray k))(X:qY s.heap vs ps)(hd:EU ps=true)(h2:2<=ps.length)(h32:ps.length<=32)(hq:rO ps=some qs)
  (h:∀p:List Nat,p.length=ps.length->(∀i∈p,i < ps.length)->qs=p.map (λi=>ps.getD i (0,0))->P (.done (.ret .none)) {s with heap:=sortedHeap s.heap a vs (p.map λi=>vs.getD i ez).toArray}):
  ar C.M A (Builtin.«list.sort» ⟨[.ref a],[]⟩) P E s:=by
 have hvl:vs.length=ps.length:=(fk X).symm
 refine a7 (eg hq) λpr hpr hq=>?_
 refine en (cb hq) λhg hq=>?_
 rw[aI,jo,beq_iff_eq]at hg
 rw[list_sort_plain]
 have ha:a < s.heap.objs.size:=aC ho
 refine aa (listItems_at ho rfl ?_)
 refine aa (listUpdate_at ho rfl ?_ (by rw[td,sW];exact J2 [Ql Q1 (Qn 32),Qe Q0 Q1] Q0 (Qn 16777216) 1 [1,1] Qt h32 hvl) (bH _))
 obtain⟨e1,ho1⟩:∃e1,(s.heap.update a (aS λ_=>(#[]:Array Value))).get? a=some (gU "list" #[] e1):=⟨_,get?_update_seq ho λ_=>#[]⟩
 refine aa (seqEpoch_at ho1 rfl ?_)
 refine aa (wpAny_newTuple ?_ (by show vs.length<=_;rw[sW];exact J2 [Ql Q1 (Qn 32),Qe Q0 Q1] Q0 (Qn 16777216) 1 [1,1] Qt h32 hvl))
 refine aa (wpAny_newList ?_ (bH _))
 refine bg ?_
 have ho6:(((s.heap.update a (aS λ_=>(#[]:Array Value))).push (gU "tuple" vs.toArray 0)).push (gU "list" #[] 0)).get? a=some (gU "list" #[] e1):=aA _ (aA _ ho1)
 have X6:qY (((s.heap.update a (aS λ_=>(#[]:Array Value))).push (gU "tuple" vs.toArray 0)).push (gU "list" #[] 0)) vs ps:=X.keep λb o hc e=>aA _ (aA _ ((cy _ _ (λq=>by rw[<-q,ho]at e;cases e;exact absurd hc (by dsimp only;decide))).trans e))
 show ar C.M A _ P E {s with heap:=((s.heap.update a (aS λ_=>(#[]:Array Value))).push (gU "tuple" vs.toArray 0)).push (gU "list" #[] 0)}
 dsimp only
 have hn2:¬vs.toArray.size < 2:=by rw[td];exact nA (J2 [Ql (Qn 2) Q1,Qe Q0 Q1] (Qn 2) Q0 1 [1,.negSucc 0] Qt h2 hvl)
 rw[if_neg hn2,if_neg hn2]
 refine jH (Bw X6) λfs t1 t2 t3=>?_
 refine aa (kat_kind (T:=.type "int") t1 (by exact ay (ay (ny 1) h2) (aJ t2.symm)) (λv m=>by obtain⟨i,t,rfl⟩:=t3 v m;exact Looks.of_pure rfl) (by decide) ?_)
 refine aa (al (kat_run (ks:=vs) (vs:=vs) (Q:=λst' s'=>s'={s with heap:=((s.heap.update a (aS λ_=>(#[]:Array Value))).push (gU "tuple" vs.toArray 0)).push (gU "list" #[] 0)}/\arrOf st'=pr.map (kas_item (vs.toArray.zip vs.toArray))/\failedOf st'=none)
  (G:=λp s'=>p=pr/\s'={s with heap:=((s.heap.update a (aS λ_=>(#[]:Array Value))).push (gU "tuple" vs.toArray 0)).push (gU "list" #[] 0)}) rfl (by exact Nat.not_lt.mp ‹_›) (by exact J2 [Ql Q1 (Qn 32),Qe Q0 Q1] (Qs Q0 1) (Qn 64) 1 [1,1] Qt h32 hvl) (λp st' s' a1 a2 a3 a4=>⟨a4.2,a4.1▸a2,a3⟩) ?_) ?_ λ_ _ e=>e)
 ·rw[hvl]
  exact A5 (λi j K hi hj hij hk=>Ex X6 hd hi hj hij hk) _ _ hpr ⟨rfl,rfl⟩
 ·rintro⟨⟨⟩,st'⟩ s' ⟨rfl,har,hf⟩
  dsimp only
  have hout:=kat_snds (ks:=vs) (vs:=vs) rfl har
  rw[hout]
  refine aa (seqEpoch_at ho6 rfl ?_)
  refine aa (listUpdate_at ho6 rfl ?_ (bH _) (by rw[td,af,cA,hg.2,sW];exact bo))
  rw[hf]
  simp only[bne_self_eq_false,cY,if_false]
  exact aq (h pr.toList (by rw[cA,hg.2]) (λi m=>of_decide_eq_true (hg.1 i m)) (ao hq).symm)
theorem AT{ok:Addr->Prop}{h:Heap}{v:Value}{d:D}{Q:Int × Int->Prop}(r:Rd ok h v d)(e:Ok (G5 d) Q):∃p,ER h v p/\Q p:=by
 refine nG λkG=>?_;obtain⟨l,e1,q1⟩:=(Ok.bind e).eq
 refine a7 ((Ok.bind q1).eq) λa e2 q2=>?_
 refine a7 ((Ok.bind q2).eq) λb e3 q3=>?_
 refine en (Ok.iff q3) λg q4=>?_
 refine a7 ((Ok.bind q4).eq) λi e4 q5=>?_
 refine a7 ((Ok.bind q5).eq) λj e5 q6=>?_
 obtain⟨l1,rfl⟩:=List.head?_eq_some_iff.mp e2
 refine cU (List.head?_eq_some_iff.mp e3) λl2 hl=>?_
 obtain rfl:=(hl:l1=b::l2)
 obtain rfl:=(List.isEmpty_iff.mp g:l2=[])
 obtain rfl:=pI e1
 obtain rfl:=Va.dat.inj (dB e4)
 obtain rfl:=Va.dat.inj (dB e5)
 obtain⟨t,xs,rfl,ht,rx⟩:=Rd.tuple_inv r
 obtain⟨x1,l1,hx,rx1,ry⟩:=rx.uncons
 obtain⟨x2,l2,rfl,rx2,rz⟩:=ry.uncons
 obtain⟨t1,rfl⟩:=Rd.int_inv rx1
 obtain⟨t2,rfl⟩:=Rd.int_inv rx2
 obtain rfl:=rz.unnil
 obtain rfl:=(Array.toList_inj.mp hx:xs=#[.int i t1,.int j t2])
 refine kG ?_
 exact⟨(i,j),⟨t,t1,t2,rfl,ht⟩,q6⟩
theorem wS{ok:Addr->Prop}{h:Heap}{vs:List Value}{ds:List D}(r:dC ok h vs ds):∀{Q:List (Int × Int)->Prop},Ok (pP ds) Q->∃ps,qY h vs ps/\Q ps:=by
 induction r with
 |nil=>exact λq=>⟨[],.nil,q⟩
 |cons a _ ih=>exact λq=>by refine a7 (AT a (Ok.bind q)) λp x q=>?_;exact by refine a7 (ih (Ok.map q)) λps xs q=>?_;exact⟨p::ps,.cons x xs,q⟩
theorem Ew{ok:Addr->Prop}{h:Heap}{vs:List Value}{ps:List (Int × Int)}(X:qY h vs ps){p:List Nat}:(∀i∈p,i < ps.length)->dC ok h (p.map λi=>vs.getD i ez) ((p.map λi=>ps.getD i (0,0)).map λq=>.tuple [.int q.1,.int q.2]):=by
 induction p with
 |nil=>exact λ_=>.nil
 |cons i p ih=>exact λhp=>by obtain⟨a,t,u,e1,e2⟩:=X.get (hp i (.head _));exact .cons (by show Rd ok h (vs.getD i ez) _;rw[e1];exact Rd.tuple e2 (.cons Rd.int (.cons Rd.int .nil))) (ih λj m=>hp j (.tail _ m))
theorem wC{ok:Addr->Prop}{la:Addr}{xs:Array Value}{ps qs:List (Int × Int)}{P:Value->ab->Prop}(lla:dj s.heap la xs)(X:qY s.heap xs.toList ps)(hok:EU ps=true)(h2:2<=ps.length)(h32:ps.length<=32)(hq:rO ps=some qs)
  (h:∀s' ys,bG s s'->dj s'.heap (s.heap.objs.size+1) ys->dC ok s'.heap ys.toList (qs.map λp=>.tuple [.int p.1,.int p.2])->P (.ref (s.heap.objs.size+1)) s'):ar C.M A (call (.builtin "sorted") [.ref la]) P bJ s:=by
 have hl:s.heap.IsList la xs.toList.toArray:=by rw[Array.toArray_toList];exact lla.isList
 refine bR (Calls.call_function_entry kind_sorted plain_sorted entry_sorted (args_sorted1 _) ?_)
 unfold Builtin.«sorted»
 refine aa (m:=checkCount "sorted" 1 1 _) (aq ?_)
 have hz:xs.toList.length<=sizeLine:=by rw[<-fk X,sW];exact bo
 refine aa (collect_list hl ?_ hz)
 refine aa (wpAny_newList ?_ hz)
 have hsz:((s.heap.push (gU "list" #[] 0)).update s.heap.objs.size (aS (· ++xs.toList.toArray))).objs.size=s.heap.objs.size+1:=by rw[Heap.size_update,size_push']
 have hoL:(((s.heap.push (gU "list" #[] 0)).update s.heap.objs.size (aS (· ++xs.toList.toArray))).push (gU "list" xs.toList.toArray 0)).get? (s.heap.objs.size+1)=some (gU "list" xs.toList.toArray 0):=hsz▸aB _ rfl
 have keep:∀b o,s.heap.get? b=some o->(((s.heap.push (gU "list" #[] 0)).update s.heap.objs.size (aS (· ++xs.toList.toArray))).push (gU "list" xs.toList.toArray 0)).get? b=some o:=λb o e=>
  aA _ ((cy _ _ (cq (aC e))).trans (aA _ e))
 show ar _ _ _ _ _ {s with heap:=((s.heap.push (gU "list" #[] 0)).update s.heap.objs.size (aS (· ++xs.toList.toArray))).push (gU "list" xs.toList.toArray 0)}
 rw[hsz]
 refine aa (bg (dF slot_list_sort ⟨_,hoL,rfl⟩ entry_list_sort (sK hoL (X.keep λb o _ e=>keep b o e) hok h2 h32 hq λpm k1 k2 k3=>⟨_,rfl,?_⟩) (args_list_sort _)))
 refine aq ⟨_,rfl,λhT hZ=>?_⟩
 refine cU (sortedAll_at s.heap xs.toList (pm.map λi=>xs.toList.getD i ez).toArray) λee he=>?_
 exact h {s with heap:=sortedAll s.heap xs.toList (pm.map λi=>xs.toList.getD i ez).toArray} _ (.of_keep (t:=s.toks) (ai _) hZ λb o e=>BJ e) ⟨ee,he⟩ (k3▸Ew (X.keep λb o _ e=>BJ e) k2)
theorem SE.sortP{sc:Scope}{e:Expr}{a:DE}{p pos:Pos}(kc:dk C)(hx:nF sc.names "sorted" .globalImplicit)(hv:Gb C "sorted" (.builtin "sorted"))(ha:SE C n sc e a)(hs:bt [e]=true):SE C n sc (.Call (.Name "sorted" p) [e] [] pos) (.sortP a):=.of λρ lx Q h=>by
 refine Ev.call kc hx hv cV.builtin (ha.ok (Q:=λr l=>dS C n (.builtin "sorted") [r] l Q) ((Ok.bind h).mono λp q=>?_)) hs (by decide+kernel)
 refine vH (P:=λr=>dS C n (.builtin "sorted") [r] p.2 Q) (Ok.bind q) λds q=>λA ok okb s vs R w av=>?_
 refine cU (jq av) λv hX=>?_;obtain rfl:=hX.1;refine(λrv=>?_) hX.2
 refine ml (Rd.list_inv rv) λla xs hX=>?_;obtain rfl:=hX.1;refine wb hX λ_ _ lla rxs=>?_
 refine a7 (wS rxs (Ok.bind q)) λps X q=>?_
 refine en (Ok.iff q) λg q=>?_
 refine a7 ((Ok.map q).eq) λqs e4 q=>?_
 refine en (Bool.and_eq_true_iff.mp g) λg1 g2=>?_
 obtain⟨g2,g3⟩:=of_decide_eq_true g2
 exact wC lla X g1 g2 g3 e4 λs' ys g0 l r=>.of0 q (Rd.list l (w.okf _ (a8 _)) r) w.lxr g0
end
theorem iq:(aE 3).names=[(ad "a",NameKind.local),("x",NameKind.local),("lo",NameKind.local),("hi",NameKind.local),("key",NameKind.local),("bisect_right",pB)]:=by decide+kernel
theorem Dn:∃t o p1 p2 p3 q1 q2 q3 q4 q5 q6 w1 w2 w3 w4 w5 w6,bh 3=[.If t [.Assign [.Name "lo" p1] (.Call (.Name "bisect_right" q1) [.Name "a" q2,.Name "x" q3,.Name "lo" q4,.Name "hi" q5] [] q6) p2] o p3,.Expr (.Call (.Attribute (.Name "a" w1) "insert" w2) [.Name "lo" w3,.Name "x" w4] [] w5) w6]/\(w2.endLine==w5.line)=true/\
  ∀{C:Cx} {n:Nat},SB C (n+2) (aE 3) t (DT.cmp .Is (DE.nm 4) (DE.k .none)):=by
 refine Y6 _ _ _ _ _ _ ⟨_,_,_,_,_,_,_,_,_,_,_,rfl,rfl,λ{C n}=>?_⟩
 show SB C (n+2) ⟨_,_,_,_,_⟩ _ _
 repeat' first
  |with_reducible first|exact SE.none|apply SB.cmp|apply SC.one|apply SE.nm (by(repeat constructor);first|done|fail)
  |exact Or.inl rfl|exact Or.inr rfl
  |((with_reducible show _=_);first|decide+kernel|exact rfl|with_unfolding_all exact rfl)
  |((with_reducible show ∀_:Env,_);intros;rfl)
  |((with_reducible first|show _<=_|show x3 _|show ∀x∈_,_);decide+kernel)
structure sT(C:Cx)(fN:Addr)(fd:FuncData):Prop where
 kc:dk C
 at_:qW C fN fd (bh 3)
 sc:fd.scope=aE 3
 binds:∀s vals,Wd C s->vals.length=2->∃t,ik s fd ⟨vals,[]⟩ ((["a","x","lo","hi","key"]:List Str).zip (vals++[.int 0 t,.none,.none]))
 gb:Gb C "insort_right" (.ref fN)
 keeps:cV C (.ref fN)
theorem iA:eP (aE 3).names 0 "a" .local:=by rw[iq];exact .here
theorem iX:eP (aE 3).names 1 "x" .local:=by rw[iq];exact .there .here
theorem iL:eP (aE 3).names 2 "lo" .local:=by rw[iq];exact .there (.there .here)
theorem iH:eP (aE 3).names 3 "hi" .local:=by rw[iq];exact .there (.there (.there .here))
theorem iK:eP (aE 3).names 4 "key" .local:=by rw[iq];exact .there (.there (.there (.there .here)))
theorem kB:nF (aE 3).names "bisect_right" .globalImplicit:=by rw[iq];exact .there (.there (.there (.there (.there .here))))
theorem Dp{xs:Array Value}{k:Int}{y:Value}(h0:0<=k)(h1:k<=xs.size):((λxs:Array Value=>have k:=if k < 0 then(k+((xs.size:Nat):Int)).toNat else min k.toNat xs.size;(xs.extract 0 k).push y++xs.extract k) xs).toList=xs.toList.take k.toNat++y::xs.toList.drop k.toNat:=by
 show((xs.extract 0 (if k < 0 then(k+((xs.size:Nat):Int)).toNat else min k.toNat xs.size)).push y++xs.extract (if k < 0 then(k+((xs.size:Nat):Int)).toNat else min k.toNat xs.size)).toList=_
 rw[if_neg (Int.not_lt.mpr h0),fq (by exact Int.toNat_le.mpr h1)]
 have:List.take (xs.size - k.toNat) (BF k.toNat xs.toList)=BF k.toNat xs.toList:=fb (by rw[eS];exact ai _)
 simp[Array.toList_extract,this]
section
variable{C:Cx}{A:Around}{s s₀:ab}{n:Nat}{ok okb:Addr->Prop}{lx:Lx}{env:Env}{og:Nat->List Addr}{μ:Str->Option Value}{b:Addr}{vs:Array Value}{v:Int}{t:Tok}{Q:Int->Lx->Prop}{P:Flow->ab->Prop}
theorem FW{w1 w2 w3 w4 w5 w6:Pos}{kI:Int}{u1 u2 u3:LV}(hline:(w2.endLine==w5.line)=true)(E:aY (aE 3) env)(S:St C (aE 3) env [.raw (.ref b),.raw (.int v t),.dat (.int kI),u1,u2,u3] lx ok okb og μ s)(l:dj s.heap b vs)(h0:0<=kI)(h1:kI<=vs.size)(hz:vs.size<=4096)
  (h:∀s' vs',aH (λc=>c=b) cx s s'->dj s'.heap b vs'->vs'.toList=vs.toList.take kI.toNat++ .int v t::vs.toList.drop kI.toNat->P .next s'):ar C.M A (exec (.Expr (.Call (.Attribute (.Name "a" w1) "insert" w2) [.Name "lo" w3,.Name "x" w4] [] w5) w6) env) P bJ s:=by
 refine cU (id l) λnn hb=>?_
 refine jK (PySem.Call_method2 rfl rfl hline (eL E S (iA.at rfl) (.inl rfl) (S.vars 0 "a" .local _ iA.get rfl).2 (by decide+kernel) ?_)) (by unfold gW;rw[E.scope];rfl) rfl
 refine Y2 ("list") ("list.insert") ⟨F.plainAttrs_list,F.slot_list_insert,F.type_list_insert,⟨_,hb,rfl⟩,λc q=>by cases q;exact⟨_,hb,rfl⟩,qM rfl (db (cR (x:=eval (.Name "lo" w3) env) (dG (js E S (iL.at rfl) (.inl rfl) rfl λv8 rv8 _=>?_) (by decide+kernel))))⟩
 obtain⟨t8,rfl⟩:=Rd.int_inv rv8
 refine cR (x:=eval (.Name "x" w4) env) (eL E S (iX.at rfl) (.inl rfl) (S.vars 1 "x" .local _ iX.get rfl).2 (by decide+kernel) (gH ?_))
 refine call_meets F.slot_list_insert ⟨_,hb,rfl⟩ F.entry_list_insert (F.args_list_insert_3 _ _ _) (PySem.AutoListH.list_insert_list_int_val_1 b vs nn kI t8 (.int v t) (by unfold dn;simp;exact⟨dA (by decide) h0,ly (dA h1 (Int.ofNat_le.mpr hz)) (by decide)⟩) (ah hz (by decide))) ⟨hb,?_⟩
 exact h _ _ (ju hb _) (jT hb _) (Dp h0 h1)
theorem FX{f:DF}{ds:List D}{tt:Expr}{o:List Stmt}{p1 p2 p3 q1 q2 q3 q4 q5 q6:Pos}(kc:dk C)(htest:SB C (n+2) (aE 3) tt (DT.cmp .Is (DE.nm 4) (DE.k .none)))(u:i6 C (n+2) "bisect_right" f)(R:bj (n+2) A)(E:aY (aE 3) env)(S:St C (aE 3) env [.raw (.ref b),.raw (.int v t),.dat (.int 0),.dat .none,.dat .none,.un] lx okb okb (λ_=>[]) μ s)
  (rl:Rd okb s.heap (.ref b) (.list ds))(hf:l7 (f [.dat (.list ds),.dat (.int v),.dat (.int 0),.dat .none] lx) λr l=>Ok (dM r) λk=>Q k l)
  (h:∀kI l1 og' μ' s₁ s',Q kI l1->St C (aE 3) env [.raw (.ref b),.raw (.int v t),.dat (.int kI),.dat .none,.dat .none,.un] l1 okb okb og' μ' s'->bV lx l1->aH (W lx) cx s s₁->aH (Af env "lo") cx s₁ s'->P .next s'):
  ar C.M A (exec (.If tt [.Assign [.Name "lo" p1] (.Call (.Name "bisect_right" q1) [.Name "a" q2,.Name "x" q3,.Name "lo" q4,.Name "hi" q5] [] q6) p2] o p3) env) P bJ s:=by
 refine wpAny_If ((htest.ok (Q:=λc l=>c=true/\l=lx) (.of (ke (aG rfl) rfl rfl) ⟨rfl,rfl⟩)).go R E S λc s₃ lx' q S3 sa3 g3=>?_)
 refine nG λkG=>?_;obtain rfl:=q.1;obtain rfl:=q.2
 refine kG ?_
 rw[if_pos rfl]
 have rl3:Rd okb s₃.heap (.ref b) (.list ds):=rl.grow g3 λa o _ q=>S.lxok a o (cC q)
 refine jH u.ex λvb hgb hkeep hfn=>?_
 refine bW (cJ (ca (eN kc E S3.wd kB hgb ?_ (by decide+kernel))) rfl)
 show ar _ _ (dY _ vb [] [(false,_),(false,_),(false,_),(false,_)] []) _ _ _
 refine di (first:=[]) hkeep rfl (db (cR (x:=eval (.Name "a" q2) env) (eL E S3 (iA.at rfl) (.inl rfl) (S3.vars 0 "a" .local _ iA.get rfl).2 (by decide+kernel) (cR (x:=eval (.Name "x" q3) env) (eL E S3 (iX.at rfl) (.inl rfl) (S3.vars 1 "x" .local _ iX.get rfl).2 (by decide+kernel) ?_)))))
 refine cR (x:=eval (.Name "lo" q4) env) (dG (js E S3 (iL.at rfl) (.inl rfl) rfl λv4 rv4 _=>cR (x:=eval (.Name "hi" q5) env) (dG (js E S3 (iH.at rfl) (.inl rfl) rfl λv5 rv5 _=>gH ⟨S3.wd,?_⟩) (by decide+kernel))) (by decide+kernel))
 refine al (hfn.ok hf A okb okb s₃ [.ref b,.int v t,v4,v5] R S3.wx (.cons rl3 (.cons Rd.int (.cons rv4 (.cons rv5 .nil))))) (λv6 s₆ h₆=>?_) λ_ _ x=>x
 refine nG λkG=>?_;obtain⟨r6,lx6,q6,rv6,sa6,l6,g6⟩:=h₆
 refine a7 (Ok.eq q6) λkI e6 q6=>?_
 obtain rfl:=dB e6
 obtain⟨t6,rfl⟩:=Rd.int_inv rv6
 refine kG ?_
 refine gc (lv:=.dat (.int kI)) (as:=[]) E (S3.grow g6 sa6 l6) (iL.at rfl) (.inl rfl) ⟨rfl,_,rfl,Rd.int⟩ (λb m=>nomatch m) bx (λj b _ m=>nomatch m) λs₇ S7 g7=>iY ?_
 exact h kI lx6 _ _ s₆ s₇ q6 S7 sa6 (g3.trans1 g6) g7
inductive GO(C:Cx)(lx:Lx)(b:Addr)(vs:Array Value)(v:Int)(t:Tok)(Q:Int->Lx->Prop)(s s':ab):Prop where
 |mk (kI:Int) (l1:Lx) (s₁:ab) (vs':Array Value) (q:Q kI l1) (g1:aH (W lx) cx s s₁) (sa:bV lx l1) (l:nN C l1 s₁.heap) (g2:aH (λc=>c=b) cx s₁ s') (lst:dj s'.heap b vs') (e:vs'.toList=vs.toList.take kI.toNat++ .int v t::vs.toList.drop kI.toNat)
theorem FV{fN:Addr}{fd:FuncData}{f:DF}{is:List Int}(I:sT C fN fd)(u:i6 C (n+2) "bisect_right" f)(R:bj (n+3) A)(w:Wx C ok okb lx s)(hb:okb b)(l:dj s.heap b vs)(r:dC ok s.heap vs.toList (is.map .int))
  (hf:l7 (f [.dat (.list (is.map .int)),.dat (.int v),.dat (.int 0),.dat .none] lx) λr l=>Ok (dM r) λk=>(0<=k/\k<=is.length)/\Q k l)(hz:is.length<=4096):
  ar C.M A (call (.ref fN) [.ref b,.int v t]) (λr s'=>r=.none/\GO C lx b vs v t Q s s') bJ s:=by
 refine cU (I.binds s [.ref b,.int v t] w.wd rfl) λtk hbind=>?_
 refine i9 (su (n:=n+2) (okc:=okb) (rs:=[.raw (.ref b),.raw (.int v t),.dat (.int 0),.dat .none,.dat .none]) (is:=[0,1,2,3,4]) (ps:=["a","x","lo","hi","key"]) (len:=6) I.kc I.at_ (by rw[I.sc];exact .cons iA (.inl rfl) (.cons iX (.inl rfl) (.cons iL (.inl rfl) (.cons iH (.inl rfl) (.cons iK (.inl rfl) .nil))))) (by rw[I.sc,iq];rfl) hbind R w rfl w.sub (λ_ o=>o)
  (List.forall_mem_cons.mpr ⟨λ_ e=>(by cases e),List.forall_mem_cons.mpr ⟨λ_ e=>(by cases e),List.forall_mem_cons.mpr ⟨λ_ e=>(by cases e),List.forall_mem_cons.mpr ⟨λ_ e=>(by cases e),List.forall_mem_cons.mpr ⟨λ_ e=>(by cases e),λ_ m=>by cases m⟩⟩⟩⟩⟩) (.cons ⟨rfl,rfl⟩ (.cons ⟨rfl,rfl⟩ (.cons ⟨rfl,_,rfl,Rd.int⟩ (.cons ⟨rfl,_,rfl,Rd.none⟩ (.cons ⟨rfl,_,rfl,Rd.none⟩ .nil))))) λenv μ s₂ E hcode S2 B2 g2 hfr=>?_)
 rw[I.sc]at E S2
 refine nG λkG=>?_;obtain⟨tt,o,p1,p2,p3,q1,q2,q3,q4,q5,q6,w1,w2,w3,w4,w5,w6,hbody,hline,htest⟩:=Dn
 refine kG ?_
 rw[hbody]
 have hb2:b < s.heap.objs.size:=let⟨_,e⟩:=l;aC e
 have rl2:Rd okb s₂.heap (.ref b) (.list (is.map .int)):=(Rd.list l hb (r.mono λa _ o=>w.sub a o)).grow g2 λa _ ⟨vs,n,e⟩=>Nat.not_le.mpr (aC e)
 refine bW (FX I.kc htest u R.deeper E S2 rl2 hf λkI l1 og' μ' s₅ s₇ q S7 sa g5 g7=>?_)
 have g27:aH (W lx) cx s s₇:=((g2.mono (W':=W lx) (Wg':=cx) (λb w=>.inr w) (λ_ w=>w.elim)).trans1 g5).trans g7 (λb w=>.inr (hfr b w.frw)) (λ_ w=>w.elim)
 have hsz:vs.size=is.length:=r.length.trans (af ..)
 refine bW (FW hline E S7 (dj.grow g27 (λq=>w.lxok b hb (cC q)) l) q.1.1 (hsz▸q.1.2) (hsz▸hz) λs' vs' g8 l8 e8=>iY ⟨rfl,kI,l1,s₇,vs',q.2,g27,sa,S7.lxr,g8,l8,e8⟩)
end
section
variable{C:Cx}{A:Around}{s s₀:ab}{n:Nat}{sc:Scope}{ok okb:Addr->Prop}{lx:Lx}{env:Env}{ρ:List LV}{og:Nat->List Addr}{μ:Str->Option Value}{i:Nat}{x:Str}{k:az}{p1 p2 p3 p4 p5 p6 pos:Pos}{kn:Nat}{e t2:Expr}{fN:Addr}{fd:FuncData}{f:DF}
theorem Dq{is:List Int}{Q:Value->ab->Prop}{P:Int->Int->Lx->Prop}(I:sT C fN fd)(b:d5 sc.names ρ i x k (.own (is.map .int)))(hk:jW k)(hd:(x==("__debug__":Str))=false)(hx:nF sc.names "insort_right" .globalImplicit)(u:i6 C (n+2) "bisect_right" f)(hs:bt [.Name x p1,e]=true)(hz:is.length<=4096)
  (ha:Ev C (n+3) sc e ρ lx λr l=>Ok (dM r) λv=>l7 (f [.dat (.list (is.map .int)),.dat (.int v),.dat (.int 0),.dat .none] l) λq l1=>Ok (dM q) λk=>(0<=k/\k<=is.length)/\P v k l1)
  (R:bj (n+3) A)(E:aY sc env)(S:St C sc env ρ lx ok okb og μ s)(B:cZ ρ)
  (h:∀v k l1 s',P v k l1->St C sc env (ρ.set i (.own ((is.map .int).take k.toNat++ .int v::(is.map .int).drop k.toNat))) l1 ok okb og μ s'->kh env lx l1 ok okb ok okb og og s s'->Q .none s'):
  ar C.M A (eval (.Call (.Name "insort_right" p2) [.Name x p1,e] [] p3) env) Q bJ s:=by
 refine BG (S.ownAt b) λb' _ f1 f2 _ _=>?_
 refine ca (eN I.kc E S.wd hx I.gb ?_ (by decide+kernel))
 refine nG λkG=>?_;obtain⟨q1,q2⟩:=bq (env:=env) hs
 refine en (bq (env:=env) q2) λq3 _=>?_
 refine kG ?_
 rw[q1,q3]
 show ar _ _ (dY p3 (.ref fN) [] [(false,_),(false,eval e env)] []) _ _ _
 refine di (first:=[]) I.keeps rfl (db (cR (x:=eval (.Name x p1) env) (eL E S b hk f1 hd (cR (ha.go R E S λv s₁ r l1 q rv S1 sa g=>gH ⟨S1.wd,?_⟩)))))
 refine nG λkG=>?_;obtain⟨xv,e1,q⟩:=Ok.eq q
 obtain rfl:=dB e1
 obtain⟨t,rfl⟩:=Rd.int_inv rv
 refine BG (S1.ownAt b) λb2 vs f3 f4 l r=>?_
 cases f1.symm.trans f3
 refine kG ?_
 have ob:=S1.owns i b' (f4▸.head _)
 refine al (FV I u R S1.wx ob.1 l r q hz) (λw s₂ h₂=>?_) λ_ _ x=>x
 refine nG λkG=>?_;obtain⟨rfl,kI,l2,s₁',vs',q,g1,sa1,lr,g2,lst,hv⟩:=h₂
 have S2:=S1.grow g1 sa1 lr
 have nok:∀c,ok c->(∃vs,dj s₁'.heap c vs)->¬c=b':=λc o _ q=>ob.2.1 (q▸o)
 refine BG (S2.ownAt b) λ_ vs2 f5 _ l5 r5=>?_
 cases f1.symm.trans f5
 refine kG ?_
 have hvs:vs=vs2:=by refine cU l λ_ a1=>?_;exact by obtain⟨_,a2⟩:=l5;exact(Data.seq.inj (congrArg fW (ao ((g1.heap b' _ (λq=>S1.lxok b' ob.1 (cC q)) a1).symm.trans a2)))).1
 obtain⟨S3,c3⟩:=S2.mut (ds':=(is.map .int).take kI.toNat++ .int xv::(is.map .int).drop kI.toNat) E B b f1 g2 lst (by
  rw[hv,hvs]
  have r6:dC ok s₂.heap vs2.toList (is.map .int):=r5.grow g2 nok
  exact(r6.take _).append (.cons Rd.int (r6.drop _)))
 exact h xv kI l2 s₂ q S3 ((kh.of_grow (g.trans1 (sa.W▸g1)) (sa.trans sa1)).trans c3)
theorem S1.insIf{body:List Stmt}{a:DE}{t:DT}{d:DS}(I:sT C fN fd)(b:eP sc.names i x k)(hk:jW k)(hd:(x==("__debug__":Str))=false)(hx:nF sc.names "insort_right" .globalImplicit)(u:EC C n f)(ha:SE C n sc e a)(hs:bt [.Name x p1,e]=true)(ht:SB C n sc t2 t)(hb:SS C n sc body d):
  S1 C n sc (.If (.BoolOp .Or [.Compare (.Call (.Name "insort_right" p2) [.Name x p1,e] [] p3) [.IsNot] [.Constant .none kn p4] p5,t2] p6) body [] pos) (.insIf i f a t d):=.of λρ lx P h=>by
 refine nG λkG=>?_;obtain⟨m,rfl,u2⟩:=u.ex
 refine a7 (oR (Ok.bind h)) λds e0 h1=>?_
 refine a7 ((Ok.bind h1).eq) λis e1 h2=>?_
 obtain rfl:=o4 e1
 refine en (Ok.iff' h2) λhz h3=>?_
 refine kG ?_
 intro A env ok okb og μ s R E S B
 have hE:=ha.ok (Q:=λr l=>Ok (dM r) λv=>l7 (f [.dat (.list (is.map .int)),.dat (.int v),.dat (.int 0),.dat .none] l) λq l1=>Ok (dM q) λk=>(0<=k/\k<=is.length)/\BH (DS.ite t d DS.nil (ρ.set i (.own ((is.map .int).take k.toNat++ .int v::(is.map .int).drop k.toNat))) l1) P)
  ((Ok.bind h3).mono λp q=>(Ok.bind q).mono λv q=>(Ok.bind q).mono λw q=>(Ok.bind q).mono λk q=>Ok.iff' q)
 refine wpAny_If (isTrue_or (rA (Dq I (b.at e0) hk hd hx u2 hs hz hE R E S B λv k l1 s' q S' c=>uM (PySem.isNot_none (gG ?_))) rfl))
 rw[if_neg (by decide)]
 have B2:cZ (ρ.set i (.own ((is.map .int).take k.toNat++ .int v::(is.map .int).drop k.toNat))):=B.set λd e=>by cases e
 generalize ρ.set i (.own ((is.map .int).take k.toNat++ .int v::(is.map .int).drop k.toNat))=ρ2 at q S' B2
 have q:Ok ((t ρ2 l1).bind λp=>if p.1=true then d ρ2 p.2 else DS.nil ρ2 p.2) (λp=>P p.1 p.2.1 p.2.2):=q
 refine isTrue_or ((ht.ok (Q:=λc l=>BH (if c=true then d ρ2 l else DS.nil ρ2 l) P) (Ok.bind q)).go R E S' λz s₂ l2 q2 S2 sa2 g2=>?_)
 have c2:=c.trans (.of_grow g2 sa2)
 cases z with
 |true=>exact(hb.ok q2).here R E S2 B2 c2
 |false=>exact isTrue_or_nil ((nO.nil (C:=C) (n:=m+3) (sc:=sc) q2).here R E S2 B2 c2)
end
section
variable{C:Cx}{n:Nat}{sc:Scope}{A:Around}{ρ:List LV}{lx:Lx}{env:Env}{ok okb:Addr->Prop}{og:Nat->List Addr}{μ:Str->Option Value}{s s':ab}{i:Nat}{x:Str}{k:az}
theorem St.mutG{lv lv':LV}{as:List Addr}(E:aY sc env)(S:St C sc env ρ lx ok okb og μ s)(B:cZ ρ)(a:d5 sc.names ρ i x k lv)(g:aH (λc=>c∈og i) cx s s')(hv:jf (λc=>ok c/\c ∉ as) okb lx s'.heap lv' (μ x) as)
  (has:∀c∈as,c∈og i\/s.heap.objs.size<=c/\c < s'.heap.objs.size)(hn:as.Nodup):
  St C sc env (ρ.set i lv') lx (λc=>ok c/\c ∉ as) okb (λj=>if j=i then as else og j) μ s'/\kh env lx lx ok okb (λc=>ok c/\c ∉ as) okb og (λj=>if j=i then as else og j) s s':=by
 have hb:=S.owns i
 have ob:=(S.vars i x k _ a.get.1 a.get.2).objs
 have nok:∀c,ok c->(∃vs,dj s.heap c vs)->¬c∈og i:=λc o _ m=>(hb c m).2.1 o
 have nfr:∀c,i8 env c->¬c∈og i:=λc w m=>by refine a7 (ob c m) λo e p=>?_;exact S.frPlain w e p
 have lt:∀c∈og i,c < s.heap.objs.size:=λc m=>by refine a7 (ob c m) λo e p=>?_;exact aC e
 have k1:∀c,c < s.heap.objs.size->ok c->ok c/\c ∉ as:=λc e o=>⟨o,λm=>(has c m).elim (λm=>(hb c m).2.1 o) λq=>absurd e (Nat.not_lt.mpr q.1)⟩
 refine⟨{
  wd:=S.wd.grow g λc m=>(hb c m).2.2
  okf:=λc e=>⟨(S.okf.grow g) c e,λm=>(has c m).elim (λm=>absurd (ay (lt c m) g.size) (Nat.not_lt.mpr e)) λq=>absurd q.2 (Nat.not_lt.mpr e)⟩
  sub:=λc o=>S.sub c o.1
  len:=by rw[dL];exact S.len
  ns:=by refine a7 S.ns λm n r=>?_;exact⟨m,Ns.at n λo=>g.heap _ o (nfr _ (.inl rfl)),r⟩
  cell:=λy e=>by refine a7 (S.cell y e) λc e1 e2=>?_;exact⟨c,e1,IsCell.at e2 λo=>g.heap _ o (nfr _ (.inr ⟨y,e1⟩))⟩
  cellx:=λy c e=>by refine cU (S.cellx y c e) λv e2=>?_;exact⟨v,IsCell.at e2 λo=>g.heap _ o (nfr _ (.inr ⟨y,e⟩))⟩
  vars:=λj y k' lv'' f1 f2=>by
   by_cases hj:j=i
   ·subst hj
    cases ao (a.get.1.symm.trans f1)
    rw[dT (by rw[S.len];exact(List.getElem?_eq_some_iff.mp a.get.1).1)]at f2
    rw[if_pos rfl,<-ao f2]
    exact hv
   ·rw[bU (Ne.symm hj)]at f2
    have hn:∀d,lv''≠ .bor d:=λd q=>B j d (q▸f2)
    rw[if_neg hj]
    exact((S.vars j y k' lv'' f1 f2).nobor (okb':=ok) hn).move (okb':=ok) g .refl nok nok k1 (λ_ _ o=>o) (λc m q=>hj (S.ownx j i c m q))|>.nobor hn
  owns:=λj c m=>by
   by_cases hj:j=i
   ·rw[if_pos hj]at m
    exact(has c m).elim (λq=>⟨(hb c q).1,λo=>o.2 m,(hb c q).2.2⟩) λq=>⟨S.sub c (S.okf c q.1),λo=>o.2 m,(S.apart q.1).2.2⟩
   ·rw[if_neg hj]at m
    exact⟨(S.owns j c m).1,λo=>(S.owns j c m).2.1 o.1,(S.owns j c m).2.2⟩
  ownd:=λj=>by
   by_cases hj:j=i
   ·rw[if_pos hj];exact hn
   ·rw[if_neg hj];exact S.ownd j
  ownx:=λj j' c m m'=>by
   have key:∀j,j≠i->c∈og j->c∈as->False:=λj hj m m'=>(has c m').elim (λq=>hj (S.ownx j i c m q)) λq=>(S.owns j c m).2.1 (S.okf c q.1)
   by_cases hj:j=i
   ·by_cases hj':j'=i
    ·rw[hj,hj']
    ·rw[if_pos hj]at m;rw[if_neg hj']at m';exact(key j' hj' m' m).elim
   ·by_cases hj':j'=i
    ·rw[if_neg hj]at m;rw[if_pos hj']at m';exact(key j hj m m').elim
    ·rw[if_neg hj]at m;rw[if_neg hj']at m';exact S.ownx j j' c m m'
  lxr:=S.lxr.part λc o w e=>g.heap c o (λm=>S.lxok c (hb c m).1 w) e
  lxok:=S.lxok
  lxf:=S.lxf
  lx0:=S.lx0
  fr0:=S.fr0},.refl,λ_ o=>o.1,k1,λ_ o=>o,λ_ _ o=>o,λj c m=>?_,g.mono (λc m=>.inl (.inr (.inr ⟨i,m⟩))) (λ_ w=>w.elim)⟩
 by_cases hj:j=i
 ·rw[if_pos hj]at m;exact(has c m).imp (λq=>⟨i,q⟩) (·.1)
 ·rw[if_neg hj]at m;exact .inl ⟨j,m⟩
inductive Ja(ok:Addr->Prop)(h:Heap)(u:Option Value)(as:List Addr)(dss:List (List D)):Prop where
 |mk (b:Addr) (bs:List Addr) (vs:Array Value) (e1:u=some (.ref b)) (e2:as=b::bs) (l:dj h b vs) (ev:vs.toList=bs.map fm) (o:vX ok h bs dss)
theorem St.own2At{dss:List (List D)}(S:St C sc env ρ lx ok okb og μ s)(a:d5 sc.names ρ i x k (.own2 dss)):Ja ok s.heap (μ x) (og i) dss:=
 by refine Kw (S.vars i x k _ a.get.1 a.get.2) λb bs vs e1 e2 l ev o=>?_;exact⟨b,bs,vs,e1,e2,l,ev,o⟩
abbrev gR(ok:Addr->Prop)(h:Heap)(b:Addr)(ds:List D):Prop:=∃vs,dj h b vs/\dC ok h vs.toList ds
theorem gR.grow{ok ok':Addr->Prop}{W:Addr->Prop}{b:Addr}{ds:List D}(r:gR ok s.heap b ds)(g:aH W cx s s')(hb:¬W b)(hok:∀c,ok c->(∃vs,dj s.heap c vs)->¬W c)(k1:∀c,c < s.heap.objs.size->ok c->ok' c):gR ok' s'.heap b ds:=
 by refine a7 r λvs l r=>?_;exact⟨vs,dj.grow g hb l,r.move g hok k1⟩
theorem vX.set{h h':Heap}{ok ok':Addr->Prop}{bs:List Addr}{dss:List (List D)}{b:Addr}{ds':List D}(O:vX ok h bs dss):∀{j:Nat},bs.Nodup->bs[j]? =some b->(∀c∈bs,c≠b->∀ds,gR ok h c ds->gR ok' h' c ds)->gR ok' h' b ds'->vX ok' h' bs (dss.set j ds'):=by
 induction O with
 |nil=>exact λ_ e=>nomatch e
 |cons a q ih=>
  intro j hn hb hk hr
  refine(λn1 n2=>?_) (List.nodup_cons.mp hn).1 (List.nodup_cons.mp hn).2
  cases j with
  |zero=>
   obtain rfl:=ao hb
   exact .cons hr (eH q λc ds m r=>hk c (.tail _ m) (λe=>n1 (e▸m)) ds r)
  |succ j=>exact .cons (hk _ (.head _) (λe=>n1 (e▸aU hb)) _ a) (ih n2 hb (λc m=>hk c (.tail _ m)) hr)
end
section
variable{C:Cx}{n:Nat}{sc:Scope}{A:Around}{ρ ρ':List LV}{lx lx' lx₀:Lx}{env:Env}{ok okb:Addr->Prop}{og:Nat->List Addr}{μ:Str->Option Value}{s s' s₀:ab}{i:Nat}{x r:Str}{k:az}{Da it b:Addr}{bs outs:List Addr}{outd:List (List D)}
theorem xn{h:Heap}{vs:List Value}{ds:List D}(r:dC okb h vs ds):ds.all jw=true->dC ok h vs ds:=by
 induction r with
 |nil=>exact λ_=>.nil
 |cons a _ ih=>exact λe=>by refine(λe1 e2=>?_) (Bool.and_eq_true_iff.mp e).1 (Bool.and_eq_true_iff.mp e).2;exact .cons (vD e1 a) (ih e2)
theorem qj{α β:Type}{R:α->β->Prop}{l:List α}{m:List β}(q:cW R l m){a:α}:a∈l->∃b,R a b:=by
 induction q with
 |nil=>exact λm=>nomatch m
 |cons r _ ih=>exact λm=>(List.mem_cons.mp m).elim (λe=>⟨_,e▸r⟩) ih
structure jC(C:Cx)(sc:Scope)(env:Env)(Da it b:Addr)(bs:List Addr)(lx₀:Lx)(ok okb:Addr->Prop)(s₀:ab)(outs:List Addr)(outd:List (List D))(ρ:List LV)(lx:Lx)(s:ab):Prop where
 sa:bV lx₀ lx
 st:∃μ,St C sc env ρ lx ok okb (λ_=>[]) μ s
 acc:∃ys,dj s.heap Da ys/\ys.toList=outs.map fm
 outr:cW (gR xN s.heap) outs outd
 keep:∀c∈b::bs,∀o,s₀.heap.get? c=some o->s.heap.get? c=some o
 off:∀c,c=Da\/c∈outs\/c∈b::bs->c≠it/\¬i8 env c/\¬LW lx₀ c
 nda:Da ∉ outs/\Da ∉ b::bs
 gr:aH (λc=>W lx₀ c\/s₀.heap.objs.size<=c) cx s₀ s
def Jq(env:Env)(r:Str)(it:Addr)(lx₀:Lx)(c:Addr):Prop:=c=it\/Af env r c\/W lx₀ c
theorem jC.step(x:jC C sc env Da it b bs lx₀ ok okb s₀ outs outd ρ lx s)(g:aH (Jq env r it lx₀) cx s s')(st:∃μ,St C sc env ρ' lx' ok okb (λ_=>[]) μ s')(sa:bV lx₀ lx')(hfr:∀c,Jq env r it lx₀ c->W lx₀ c\/s₀.heap.objs.size<=c):jC C sc env Da it b bs lx₀ ok okb s₀ outs outd ρ' lx' s':=by
 have no:∀c,c=Da\/c∈outs\/c∈b::bs->¬Jq env r it lx₀ c:=λc m w=>by refine oG (x.off c m) λh1 h2 h3=>?_;exact w.elim h1 λw=>w.elim (λw=>h2 w.frw) λw=>h3 (cC w)
 exact⟨sa,st,by obtain⟨ys,hX⟩:=x.acc;refine(λl e=>?_) hX.1 hX.2;exact⟨ys,dj.grow g (no _ (.inl rfl)) l,e⟩,eH x.outr λc ds m r=>r.grow g (no _ (.inr (.inl m))) (λ_ w=>w.elim) λ_ _ w=>w,
  λc m o e=>g.heap _ o (no _ (.inr (.inr m))) (x.keep c m o e),x.off,x.nda,x.gr.trans g (λc w=>.inl (hfr c w)) (λ_ w=>w.elim)⟩
def lR(C:Cx)(n:Nat)(sc:Scope)(r:Str)(ir:Nat)(ρc:List LV)(elt:Expr)(ifs:List Expr)(st:List D->Lx->Option (Option (List D) × Lx)):Prop:=
 ∀(A:Around) (env:Env) (ok okb:Addr->Prop) (μ:Str->Option Value) (s:ab) (ds:List D) (b:Addr) (lx:Lx) (Q:Option (List D)->Lx->Prop) (P:Value->ab->Prop) (P0:ab->Prop),bj n A->aY sc env->St C sc env (ρc.set ir (.bor (.list ds))) lx ok okb (λ_=>[]) μ s->μ r=some (.ref b)->gR xN s.heap b ds->l7 (st ds lx) Q->
  (∀b' ds' lx' s',Q (some ds') lx'->(b'=b\/s.heap.objs.size<=b')->gR xN s'.heap b' ds'->St C sc env (ρc.set ir (.bor (.list ds))) lx' ok okb (λ_=>[]) μ s'->bV lx lx'->aH (W lx) cx s s'->P (.ref b') s')->
  (∀lx' s',Q none lx'->St C sc env (ρc.set ir (.bor (.list ds))) lx' ok okb (λ_=>[]) μ s'->bV lx lx'->aH (W lx) cx s s'->P0 s')->
  ar C.M A (forIn ifs true λc r=>if r=true then do let ok <-mh c env (eval c env);pure (cO ok)else pure (cO r)) (λc s₁=>if c=true then ar C.M A (eval elt env) P bJ s₁ else P0 s₁) bJ s
inductive vV(C:Cx)(sc:Scope)(env:Env)(Da it b:Addr)(bs:List Addr)(vs:Array Value)(lx₀:Lx)(ok okb:Addr->Prop)(s₀:ab)(ir:Nat)(ρc:List LV)(st:List D->Lx->Option (Option (List D) × Lx))(P:List (List D)->Lx->Prop)(k:Nat)(s:ab):Prop where
 |mk (j:Nat) (rb:List Addr) (rd outd:List (List D)) (outs:List Addr) (ρ:List LV) (lx:Lx) (len:k=rd.length) (hb:bs.drop j=rb) (rr:cW (gR xN s₀.heap) rb rd) (q:l7 (nJ st rd lx) λo l=>P (outd++o) l) (hi:s.heap.IsListIter it b j)
   (x:jC C sc env Da it b bs lx₀ ok okb s₀ outs outd ρ lx s) (hρ:∀lv,ρ.set ir lv=ρc.set ir lv) (hir:ir < ρ.length) (hbz:outs.length+rd.length<=4096) (nd:(outs++rb).Nodup) (src:∀c∈outs,c∈bs\/s₀.heap.objs.size<=c)
inductive Lm(C:Cx)(sc:Scope)(env:Env)(Da it b:Addr)(bs:List Addr)(lx₀:Lx)(ok okb:Addr->Prop)(s₀:ab)(P:List (List D)->Lx->Prop)(s:ab):Prop where
 |mk (outd:List (List D)) (outs:List Addr) (ρ:List LV) (lx:Lx) (p:P outd lx) (x:jC C sc env Da it b bs lx₀ ok okb s₀ outs outd ρ lx s) (nd:outs.Nodup) (src:∀c∈outs,c∈bs\/s₀.heap.objs.size<=c)
section
variable{vs:Array Value}{ir:Nat}{ρc:List LV}{st:List D->Lx->Option (Option (List D) × Lx)}{P:List (List D)->Lx->Prop}{elt:Expr}{ifs:List Expr}
theorem vV.row{c:Addr}{ds:List D}(x:jC C sc env Da it b bs lx₀ ok okb s₀ outs outd ρ lx s)(m:c∈bs)(r:gR xN s₀.heap c ds):gR xN s.heap c ds:=
 r.grow x.gr (λw=>w.elim (λw=>(x.off c (.inr (.inr (.tail _ m)))).2.2 (cC w)) λq=>by refine a7 r λ_ l _=>?_;exact by refine cU l λ_ e=>?_;exact absurd (aC e) (Nat.not_lt.mpr q)) (λ_ w=>w.elim) λ_ _ w=>w
theorem jC.push{b':Addr}{ds':List D}{Q:Value->ab->Prop}(x:jC C sc env Da it b bs lx₀ ok okb s₀ outs outd ρ lx s)(hn:Da≠b')(ho:b'≠it/\¬i8 env b'/\¬LW lx₀ b')(hD:s₀.heap.objs.size<=Da)(nok:¬okb Da)(n0:C.h₀.get? Da=none/\Da≠C.tab)(r:gR xN s.heap b' ds')(hz:outs.length<=sizeLine)
  (h:∀s',jC C sc env Da it b bs lx₀ ok okb s₀ (outs++[b']) (outd++[ds']) ρ lx s'->(∀c,c≠Da->∀o,s.heap.get? c=some o->s'.heap.get? c=some o)->s'.heap.objs.size=s.heap.objs.size->Q .none s'):ar C.M A (call (.builtin "list.append") [.ref Da,.ref b']) Q bJ s:=by
 refine a7 x.acc λys la ey=>?_
 refine cU x.st λμ S=>?_
 have hl:ys.size=outs.length:=(congrArg fX ey).trans (af ..)
 refine wpAny_list_append_plain (hsz:=hl▸hz) la λh' hl' hs'=>?_
 refine cU la λnn hDa=>?_
 have g1:aH (λc=>c=Da) cx s {s with heap:=h'}:=aH.same (t:=s.toks) hs' hDa (λq=>absurd q.1 (by dsimp only;decide)) rfl (ai _)
 have offD:=x.off Da (.inl rfl)
 exact h _ ⟨x.sa,⟨μ,S.moveQ g1 (λa o _ q=>nok (q▸o)) (λ_ _ m=>nomatch m) λc e=>e▸⟨offD.2.1,x.sa.LW▸offD.2.2,n0⟩⟩,⟨_,hl',by rw[fH,ey,aQ];rfl⟩,
  qi (eH x.outr λc ds m r=>r.grow g1 (λq=>x.nda.1 (q▸m)) (λ_ w=>w.elim) λ_ _ w=>w) (r.grow g1 (λq=>hn q.symm) (λ_ w=>w.elim) λ_ _ w=>w),
  λc m o e=>g1.heap _ o (λq=>x.nda.2 (q▸m)) (x.keep c m o e),λc m=>m.elim (λq=>x.off c (.inl q)) λm=>m.elim (λm=>(List.mem_append.mp m).elim (λm=>x.off c (.inr (.inl m))) λm=>List.mem_singleton.mp m▸ho) λm=>x.off c (.inr (.inr m)),
  ⟨λm=>(List.mem_append.mp m).elim x.nda.1 λm=>hn (List.mem_singleton.mp m),x.nda.2⟩,x.gr.trans g1 (λc w=>.inl (.inr (w▸hD))) (λ_ w=>w.elim)⟩ (λc hc o e=>(hs'.2 c hc).trans e) hs'.1
section
variable{vs:Array Value}{ir:Nat}{ρc:List LV}{st:List D->Lx->Option (Option (List D) × Lx)}{P:List (List D)->Lx->Prop}{elt:Expr}{ifs:List Expr}{k:Nat}{K:Nat}
theorem Cy{t:Sem PySem.Fin}{cd:Code}{j:Nat}{c:Addr}{rb:List Addr}{ds:List D}{rd:List (List D)}(Rm:bj n A)(E:aY sc env)(hrow:lR C n sc r ir ρc elt ifs st)(hD:s₀.heap.objs.size<=Da)(nok:¬okb Da)(n0:C.h₀.get? Da=none/\Da≠C.tab)(hit:it < s.heap.objs.size)(hitl:¬LW lx₀ it)(hbz:outs.length+(rd.length+1)<=4096)
  (ht:t=((do let _ <-call (.builtin "list.append") [.ref Da,<-eval elt env]) >>= λ_=>again cd))(hfr:∀c,Jq env r it lx₀ c->W lx₀ c\/s₀.heap.objs.size<=c)
  (x:jC C sc env Da it b bs lx₀ ok okb s₀ outs outd (ρc.set ir (.bor (.list ds))) lx s)(hμ:∃μ,St C sc env (ρc.set ir (.bor (.list ds))) lx ok okb (λ_=>[]) μ s/\μ r=some (.ref c))(hb:bs.drop j=c::rb)(rr:gR xN s₀.heap c ds)(rrs:cW (gR xN s₀.heap) rb rd)(q:l7 (nJ st (ds::rd) lx) λo l=>P (outd++o) l)(hi:s.heap.IsListIter it b (j+1))(hir:ir < ρc.length)
  (nd:(outs++c::rb).Nodup)(src:∀c∈outs,c∈bs\/s₀.heap.objs.size<=c):
  ar C.M A (forIn ifs true λc r=>if r=true then do let ok <-mh c env (eval c env);pure (cO ok)else pure (cO r))
   (λb' s₃=>if b'=true then ar C.M A t (λfin s₄=>fin=.again cd/\∃m,m < rd.length+1/\vV C sc env Da it b bs vs lx₀ ok okb s₀ ir ρc st P m s₄) bJ s₃ else ∃m,m < rd.length+1/\vV C sc env Da it b bs vs lx₀ ok okb s₀ ir ρc st P m s₃) bJ s:=by
 refine a7 hμ λμ S hc=>?_
 have mc:c∈bs:=List.mem_of_mem_drop (hb▸.head _:c∈bs.drop j)
 have hrb:bs.drop (j+1)=rb:=by rw[<-pC,hb];rfl
 have q:Ok (st ds lx) λp=>l7 ((nJ st rd p.2).map λq=>(p.1.toList++q.1,q.2)) λo l=>P (outd++o) l:=Ok.bind q
 have okw:∀{l s'},bV lx l->aH (W lx) cx s s'->aH (Jq env r it lx₀) cx s s':=λsa g=>g.mono (λb w=>.inl (.inr (.inr (x.sa.W▸w)))) (λ_ w=>w.elim)
 have itk:∀{s'},aH (W lx) cx s s'->s'.heap.IsListIter it b (j+1):=λg=>by refine a7 hi λo e r=>?_;exact⟨o,g.heap _ o (λw=>hitl (x.sa.LW▸cC w)) e,r⟩
 have hρ:∀lv,(ρc.set ir (.bor (.list ds))).set ir lv=ρc.set ir lv:=λlv=>List.set_set ..
 have hir':ir < (ρc.set ir (.bor (.list ds))).length:=by rw[dL];exact hir
 have nd1:(outs++rb).Nodup:=List.Nodup.sublist (List.Sublist.append_left (List.sublist_cons_self c rb) outs) nd
 have zz:s₀.heap.objs.size<=s.heap.objs.size:=x.gr.size
 have fresh:∀b',s.heap.objs.size<=b'->b' ∉ outs++rb:=λb' hb' m=>(List.mem_append.mp m).elim (λm=>by refine xQ (qj x.outr m) λ_ _ l _=>?_;exact by refine cU l λ_ e=>?_;exact absurd (aC e) (Nat.not_lt.mpr hb')) λm=>by refine xQ (qj rrs m) λ_ _ l _=>?_;exact by refine cU l λ_ e=>?_;exact absurd (ay (aC e) zz) (Nat.not_lt.mpr hb')
 have offc:=x.off c (.inr (.inr (.tail _ mc)))
 have hDl:Da < s.heap.objs.size:=by refine a7 x.acc λ_ l _=>?_;exact by refine cU l λ_ e=>?_;exact aC e
 refine al (hrow A env ok okb μ s ds c lx (λa l=>l7 ((nJ st rd l).map λq=>(a.toList++q.1,q.2)) λo l=>P (outd++o) l) (λv s₂=>ar C.M A (call (.builtin "list.append") [.ref Da,v]) (λ_ s'=>∃m,m < rd.length+1/\vV C sc env Da it b bs vs lx₀ ok okb s₀ ir ρc st P m s') bJ s₂) (λs'=>∃m,m < rd.length+1/\vV C sc env Da it b bs vs lx₀ ok okb s₀ ir ρc st P m s') Rm E S hc (vV.row x mc rr) q
  (λb' ds' lx' s' q' hb' rw' S' sa g=>?_) λlx' s' q' S' sa g=>?_) (λb' s₃ h=>?_) λ_ _ x=>x
 ·have x1:=x.step (okw sa g) ⟨μ,S'⟩ (x.sa.trans sa) hfr
  have hb2:(Da≠b'/\b'≠it/\¬i8 env b'/\¬LW lx₀ b')/\(outs++b'::rb).Nodup/\(b'∈bs\/s₀.heap.objs.size<=b'):=hb'.elim (λe=>e▸⟨⟨λe=>x.nda.2 (e▸.tail _ mc),offc⟩,nd,.inl mc⟩) λhz=>
   have ap:=S.apart hz
   ⟨⟨aK (ay hDl hz),cq (ay hit hz),ap.1,x.sa.LW▸ap.2.1⟩,pU (List.nodup_cons.mpr ⟨fresh b' hz,nd1⟩),.inr (ah zz hz)⟩
  refine x1.push hb2.1.1 hb2.1.2 hD nok n0 rw' (ah (ah (aF _ _) hbz) (by decide)) λs'' x2 kp zs=>⟨rd.length,bC _,j+1,rb,rd,outd++[ds'],outs++[b'],_,lx',rfl,hrb,rrs,(Ok.map q').mono λp h=>by show P (outd++[ds']++p.1) p.2;rw[aR];exact h,by refine a7 (itk g) λo e r=>?_;exact⟨o,kp _ (x.off Da (.inl rfl)).1.symm o e,r⟩,x2,hρ,hir',?_,?_,λd m=>(List.mem_append.mp m).elim (src d) λm=>List.mem_singleton.mp m▸hb2.2.2⟩
  ·rw[au];show outs.length+1+_<=_;exact J2 [Ql (Qa Q0 (Qs Q1 1)) (Qn 4096)] (Qa (Qs Q0 1) Q1) (Qn 4096) 1 [1] Qt hbz
  ·rw[aR];exact hb2.2.1
 ·exact⟨rd.length,bC _,j+1,rb,rd,outd,outs,_,lx',rfl,hrb,rrs,Ok.map q',itk g,x.step (okw sa g) ⟨μ,S'⟩ (x.sa.trans sa) hfr,hρ,hir',by exact bf ‹_›,nd1,src⟩
 ·cases b' with
  |false=>exact h
  |true=>exact ht▸aa (aa (al h (λv s₄ h=>aa (al h (λ_ s₅ h=>aq (aq ⟨rfl,h⟩)) λ_ _ x=>x.elim)) λ_ _ x=>x.elim))
end
structure I9(C:Cx)(sc:Scope)(env:Env)(r:Str)(Da it b:Addr)(bs:List Addr)(vs:Array Value)(lx₀:Lx)(okb:Addr->Prop)(s₀:ab):Prop where
 E:aY sc env
 hD:s₀.heap.objs.size<=Da
 nok:¬okb Da
 n0:C.h₀.get? Da=none/\Da≠C.tab
 it0:¬i8 env it/\¬LW lx₀ it/\C.h₀.get? it=none/\it≠C.tab
 fr:∀c,Jq env r it lx₀ c->W lx₀ c\/s₀.heap.objs.size<=c
 lb:dj s₀.heap b vs
 ev:vs.toList=bs.map fm
 okbs:∀c∈bs,okb c
theorem jC.draw(Z:I9 C sc env r Da it b bs vs lx₀ okb s₀)(x:jC C sc env Da it b bs lx₀ ok okb s₀ outs outd ρ lx s){j:Nat}(hi:s.heap.IsListIter it b j)(g:aH (λc=>c=it) cx s s'):jC C sc env Da it b bs lx₀ ok okb s₀ outs outd ρ lx s':=by
 refine nG λkG=>?_;obtain⟨μ,S⟩:=x.st
 obtain⟨o,hX⟩:=hi;refine kG ?_;refine(λe hc _=>?_) hX.1 hX.2.1 hX.2.2
 exact x.step (g.mono (λb w=>.inl (.inl w)) (λ_ w=>w.elim)) ⟨μ,S.moveQ g (by rintro a _ ⟨ws,n,el⟩ q;exact absurd (hc.symm.trans (congrArg ii (ao (e.symm.trans (q▸el)))):qH "list_iterator"=.type "list") (by decide)) (λ_ _ m=>nomatch m) λc w=>w▸⟨Z.it0.1,x.sa.LW▸Z.it0.2.1,Z.it0.2.2⟩⟩ x.sa Z.fr
theorem Cw{k0 ir:Nat}{ρc:List LV}{st:List D->Lx->Option (Option (List D) × Lx)}{P:List (List D)->Lx->Prop}{elt:Expr}{ifs:List Expr}{t:Sem PySem.Fin}{e:Expr}{depth:Nat}{p rp:Pos}{R:mj->ab->Prop}(Rm:bj n A)(Z:I9 C sc env r Da it b bs vs lx₀ okb s₀)(heq:pw e depth (.ref it) (.ref Da) env=fe p (.Name r rp) ifs t env (.ref it) (.compLoop e depth (.ref it) (.ref Da) env))(hf:(oL e depth (.ref it) (.ref Da) env).isFrame=false)(hu:A.under (.compLoop e depth (.ref it) (.ref Da) env)=A)
  (ht:t=((do let _ <-call (.builtin "list.append") [.ref Da,<-eval elt env]) >>= λ_=>again (.compLoop e depth (.ref it) (.ref Da) env)))(hrow:lR C n sc r ir ρc elt ifs st)(nr:eP sc.names ir r .local)(hirc:ir < ρc.length)
  (hR:∀s,Lm C sc env Da it b bs lx₀ ok okb s₀ P s->R (.ok .next) s)(I:vV C sc env Da it b bs vs lx₀ ok okb s₀ ir ρc st P k0 s):eB C.M A (.compLoop e depth (.ref it) (.ref Da) env) R s:=by
 refine ux (vV C sc env Da it b bs vs lx₀ ok okb s₀ ir ρc st P) heq hf hu (λk s I=>?_) k0 I
 refine nG λkG=>?_;obtain⟨j,rb,rd,outd,outs,ρ,lx,rfl,hb,rr,q,hi,x,hρ,hir,hbz,nd,src⟩:=I
 have lbs:dj s.heap b vs:=Z.lb.at (x.keep b (.head _))
 refine jH (id hi) λo e0 hc hd=>?_
 refine kG ?_
 cases rr with
 |nil=>
  have hj:vs[j]? =none:=by rw[<-a9,Z.ev,aW,oJ (jj (List.length_drop.symm.trans (congrArg fX hb)))];rfl
  refine bR (wpAny_pyNext_list_end Rm.hh hi lbs.isList hj λh' hx' hle hz=>?_)
  exact hR _ ⟨outd,outs,ρ,lx,by have q:P (outd++[]) lx:=q;rw[aO]at q;exact q,x.draw Z hi (aH.ext (t:=s.toks) hx' hz e0 (λq=>nomatch hc.symm.trans q.1) rfl (ai _)),by rw[aO]at nd;exact nd,src⟩
 |cons rc rrs=>
  rename_i c ds rb rd
  have hj:bs[j]? =some c:=by rw[<-nU j,<-fc,hb];rfl
  have hx:vs[j]? =some (.ref c):=by rw[<-a9,Z.ev,aW,hj];rfl
  have mc:c∈bs:=aU hj
  refine bR (wpAny_pyNext_list_item hi lbs.isList hx λh' hn' hs' hle hz=>?_)
  have x1:=x.draw Z hi (aH.same (t:=s.toks) hs' e0 (λq=>nomatch hc.symm.trans q.1) rfl (ai _))
  replace hn':({s with heap:=h'}:ab).heap.IsListIter it b (j+1):=hn'
  revert x1 hn';refine gen (({s with heap:=h'}:ab)) ?_;intro s₁ x1 hn'
  refine nG λkG=>?_;obtain⟨o',ho2,hc2,hd2⟩:=id hn'
  refine cU x1.st λμ1 S1=>?_
  refine kG ?_
  have rw1:=vV.row x1 mc rc
  have rd1:Rd okb s₁.heap (.ref c) (.list ds):=by refine a7 rw1 λws l r=>?_;exact Rd.list l (Z.okbs c mc) (r.mono λ_ _ w=>w.elim)
  refine mU (c:="list_iterator") ho2 hc2 (by decide) (oA (gc (lv:=.bor (.list ds)) (as:=[]) Z.E S1 (nr.at (aD hir)) (.inl rfl) ⟨rfl,_,rfl,rd1⟩ (λ_ m=>nomatch m) bx (λ_ _ _ m=>nomatch m) λs₂ S2 g2=>?_))
  rw[vk,hρ]at S2
  have x2:jC C sc env Da it b bs lx₀ ok okb s₀ outs outd (ρc.set ir (.bor (.list ds))) lx s₂:=x1.step (g2.mono (λb w=>.inl (.inr (.inl w))) (λ_ w=>w.elim)) ⟨_,S2⟩ x.sa Z.fr
  have nit:¬Af env r it:=λw=>Z.it0.1 w.frw
  exact Cy Rm Z.E hrow Z.hD Z.nok Z.n0 (aC (g2.heap _ _ nit ho2)) Z.it0.2.1 hbz ht Z.fr x2 ⟨_,S2,if_pos rfl⟩ hb rc rrs q ⟨o',g2.heap _ _ nit ho2,hc2,hd2⟩ hirc nd src
end
end
section
variable{C:Cx}{n:Nat}{sc sc':Scope}{A:Around}{ρ ρc:List LV}{lx:Lx}{env:Env}{ok okb:Addr->Prop}{og:Nat->List Addr}{μ:Str->Option Value}{s s':ab}{i ir:Nat}{x r:Str}{k:az}{dss:List (List D)}{st:List D->Lx->Option (Option (List D) × Lx)}{P:List (List D)->Lx->Prop}{elt:Expr}{ifs:List Expr}
theorem AU{h:Heap}{bs:List Addr}(o:vX ok h bs dss):(dss.all λds=>ds.all jw)=true->cW (gR xN h) bs dss:=by
 induction o with
 |nil=>exact λ_=>.nil
 |cons a _ ih=>exact λe=>by refine en (Bool.and_eq_true_iff.mp e) λe1 e2=>?_;exact by obtain⟨vs,hX⟩:=a;refine(λl r=>?_) hX.1 hX.2;exact .cons ⟨vs,l,xn r e1⟩ (ih e2)
inductive KC(C:Cx)(lx:Lx)(as:List Addr)(P:List (List D)->Lx->Prop)(s:ab)(Da Cl:Addr)(s':ab):Prop where
 |mk (outd:List (List D)) (outs:List Addr) (lx':Lx) (m:Str->Option Value) (ys:Array Value) (p:P outd lx') (hD:s.heap.objs.size<=Da) (hC:s.heap.objs.size<=Cl) (ne:Cl≠Da) (nc:Cl ∉ outs) (hm:s'.heap.Ns Cl m) (sa:bV lx lx') (l:nN C lx' s'.heap) (g:aH (W lx) cx s s') (la:dj s'.heap Da ys) (ey:ys.toList=outs.map fm)
   (rows:cW (gR xN s'.heap) outs outd) (nd:(Da::outs).Nodup) (src:∀c∈outs,c∈as\/s.heap.objs.size<=c)
theorem CN{scope:Scope}{pos rp xp:Pos}{RR:Value->Addr->mj->ab->Prop}(R:bj n A)(E:aY sc env)(S:St C sc env ρ lx ok okb og μ s)(a:d5 sc.names ρ i x k (.own2 dss))(hk:jW k)(hd:(x==("__debug__":Str))=false)(hfl:(dss.all λds=>ds.all jw)=true)(hz:dss.length<=4096)
  (hsc':(sc.names.map (·.1)).Nodup->fj sc scope=sc')(hnd:(scope.names.map (·.1)).Nodup)(hkind:scope.kind=.function)(hcap:ki sc.names ρ scope.names ρc)(hxf:(r,aL) ∉ scope.names)(nr:eP sc'.names ir r .local)(hrow:lR C n sc' r ir ρc elt ifs st)(q:l7 (nJ st dss lx) P)
  (hRR:∀Da Cl s',KC C lx (og i) P s Da Cl s'->RR (.ref Da) Cl (.ok .next) s'):
  ∃cl,qG scope env=pure cl/\ar C.M A (eval (.Name x xp) env) (λx' s₁=>ar C.M A (sX x') (λit s₂=>ar C.M A (newList []) (λacc s₃=>ar C.M A (gV scope env.globals cl [] env.qual none .none (some env)) (λcenv s₄=>
   eB C.M A (.compStart (.ListComp elt [⟨.Name r rp,.Name x xp,ifs,0⟩] scope pos) 0 it acc {cenv with scope:=oB scope env}) (RR acc cenv.locals) s₄) bJ s₃) bJ s₂) bJ s₁) bJ s:=by
 obtain rfl:=hsc' E.nodup
 obtain⟨cl,e1,I⟩:=lZ λx m=>let⟨j,lv,a⟩:=hcap.free m;let⟨c,e,_⟩:=S.cell x (cS E.nodup a.get.1);⟨c,e⟩
 refine nG λkG=>?_;obtain⟨b,bs,vs,f1,f2,lb,ev,o⟩:=S.own2At a
 refine kG ?_
 refine⟨cl,e1,eL E S a hk f1 hd (wpAny_pyIter_list lb.isList ?_)⟩
 have g1:bG s {s with heap:=s.heap.push {cls:=.type "list_iterator",data:=.fields #[.ref b,.int 0 0]}}:=bB
 have hi2:(s.heap.push {cls:=.type "list_iterator",data:=.fields #[.ref b,.int 0 0]}).IsListIter s.heap.objs.size b 0:=⟨_,aB _ rfl,rfl,rfl⟩
 have hz2:(s.heap.push {cls:=.type "list_iterator",data:=.fields #[.ref b,.int 0 0]}).objs.size=s.heap.objs.size+1:=aZ ..
 replace hi2:({s with heap:=s.heap.push {cls:=.type "list_iterator",data:=.fields #[.ref b,.int 0 0]}}:ab).heap.IsListIter s.heap.objs.size b 0:=hi2
 replace hz2:({s with heap:=s.heap.push {cls:=.type "list_iterator",data:=.fields #[.ref b,.int 0 0]}}:ab).heap.objs.size=s.heap.objs.size+1:=hz2
 revert g1 hi2 hz2;refine gen (({s with heap:=s.heap.push {cls:=.type "list_iterator",data:=.fields #[.ref b,.int 0 0]}}:ab)) ?_;intro s₂ g1 hi2 hz2
 have S2:=S.grow0 g1
 refine cI (hd:=by size_fits) ?_
 refine xh (s₂.heap.objs.size) ?_;intro Da hD
 refine xh (({s₂ with heap:=s₂.heap.push {cls:=.type "list",dict:=none,data:=.seq ([]:List Value).toArray}}:ab)) ?_;intro s₃ hs3
 have g3:bG s₂ s₃:=hs3▸bB
 have hz3:s₃.heap.objs.size=Da+1:=by rw[<-hs3,<-hD];exact aZ ..
 have hD3:dj s₃.heap Da #[]:=by rw[<-hs3,<-hD];exact⟨_,aB _ rfl⟩
 clear hs3
 refine mK λcenv h' hc1 hc2 hc3 hc4 hcf hk hns=>?_
 rw[hz3]at hc2 hns
 refine nG λkG=>?_;obtain⟨h₁,hz1,cf⟩:=hcf
 refine kG ?_
 rw[hz3]at hz1
 have hz4:Da+1<=h'.objs.size:=bf hns.lt
 refine xh (({s₃ with heap:=h'}:ab)) ?_;intro s₄ hs4
 have g4:bG s₃ s₄:=hs4▸.of_keep (t:=s₃.toks) (ai _) (hz3▸hz4) hk
 obtain rfl:=(show s₄.heap=h' by rw[<-hs4])
 clear hs4
 have g24:bG s₂ s₄:=g3.trans0 g4
 have F:=sC E S2 hnd hkind hcap I hD hz1 cf g24 hz4 hns hc2 hc3 hc4
 have g04:bG s s₄:=g1.trans0 g24
 have hDs:s.heap.objs.size < Da:=by exact J3 [Qe Q2 (Qs Q0 1),Qe Q2 Q1] (Qs Q0 1) Q1 1 [.negSucc 0,1] Qt hz2 hD
 have nfr:∀b,i8 {cenv with scope:=oB scope env} b->Da+1<=b\/i8 env b:=λb w=>w.elim (λe=>.inl (aJ (e.trans F.loc).symm)) λ⟨x,e⟩=>(F.cells x b e).elim (λq=>.inr (.inr ⟨x,q.1⟩)) λq=>.inl (bD q)
 revert F nfr;refine gen (({cenv with scope:=oB scope env}:Env)) ?_;intro cenv' F nfr
 rw[hc2]
 have apI:=S.apart (b:=s.heap.objs.size) (ai _)
 have apD:=S.apart (b:=Da) (bf hDs)
 have ltb:∀c∈b::bs,c < s.heap.objs.size:=λc m=>gu λq=>(S.owns i c (f2▸m)).2.1 (S.okf c q)
 have nfb:∀c∈b::bs,¬i8 env c:=λc m w=>let⟨o,e,p⟩:=(S.vars i x k _ a.get.1 a.get.2).objs c (f2▸m);S.frPlain w e p
 have Z:I9 C (fj sc scope) cenv' r Da s.heap.objs.size b bs vs lx (λa=>okb a/\a≠Da) s:=⟨F.E,bf hDs,λo=>o.2 rfl,apD.2.2,⟨λw=>(nfr _ w).elim (λq=>absurd (ay hDs (bD q)) (fw _)) apI.1,apI.2⟩,
  λc w=>w.elim (λq=>.inr (aJ q.symm)) λw=>w.elim (λw=>.inr (w.elim (λq=>ah (bf hDs) (bD (aJ (q.trans F.loc).symm))) λq=>(F.cells r c q).elim (λq=>absurd q.2 hxf) λq=>ah (bf hDs) (ah (aF _ 2) q))) .inl,
  lb,ev,λc m=>⟨(S.owns i c (f2▸.tail _ m)).1,aK (Nat.lt_trans (ltb c (.tail _ m)) hDs)⟩⟩
 have x0:jC C (fj sc scope) cenv' Da s.heap.objs.size b bs lx (λa=>ok a/\a≠Da) (λa=>okb a/\a≠Da) s [] [] ρc lx s₄:=⟨.refl,F.st,⟨#[],hD3.at λo e=>g4.keep0 _ _ e,rfl⟩,.nil,λc m o e=>g04.keep0 _ _ e,
  λc m=>m.elim (λq=>q▸⟨cq hDs,λw=>(nfr _ w).elim (λe=>Nat.not_succ_le_self _ e) apD.1,apD.2.1⟩) λm=>m.elim (λm=>nomatch m) λm=>⟨aK (ltb c m),λw=>(nfr _ w).elim (λe=>absurd (Nat.lt_trans (ltb c m) hDs) (Nat.not_lt.mpr (bD e))) (nfb c m),S.lxok c (S.owns i c (f2▸m)).1⟩,
  ⟨dw,λm=>absurd (ltb _ m) (Nat.not_lt.mpr (bf hDs))⟩,g04.of0⟩
 refine nG λkG=>?_;obtain⟨oi,ei,hci,hdi⟩:=hi2
 refine kG ?_
 have hi4:s₄.heap.IsListIter s.heap.objs.size b 0:=⟨oi,g24.keep0 _ _ ei,hci,hdi⟩
 have hirc:ir < ρc.length:=let⟨_,S⟩:=F.st;by rw[S.len];exact(List.getElem?_eq_some_iff.mp nr.get).1
 refine ot R (g:=⟨.Name r rp,.Name x xp,ifs,0⟩) (okI:=λ_=>False) (pg:=cx) (pr:=λc=>c=s.heap.objs.size) rfl rfl rfl rfl rfl (λA' s' Q' R' k' h'=>wpAny_pyIter_listiter (it:=s.heap.objs.size) (l:=b) (i:=0) ⟨oi,k'.obj rfl (g24.keep0 _ _ ei),hci,hdi⟩ h')
  (Cw (P:=P) R Z (ph ..) rfl rfl rfl hrow nr hirc (λs' p=>?_) ⟨0,bs,dss,[],[],ρc,lx,rfl,lu,AU o hfl,q,hi4,x0,λ_=>rfl,hirc,ah (aJ (cE _)) hz,(List.nodup_cons.mp (f2▸S.ownd i)).2,λ_ m=>nomatch m⟩)
 refine nG λkG=>?_;obtain⟨outd,outs,ρ',lx',qP,xe,nd,src⟩:=p
 obtain⟨μ',S'⟩:=xe.st
 obtain⟨m,hm,_⟩:=S'.ns
 obtain⟨ys,la,ey⟩:=xe.acc
 refine kG ?_
 exact hRR Da (Da+1) s' ⟨outd,outs,lx',m,ys,qP,bf hDs,cm (bf hDs),eR _,λm=>(xe.off _ (.inr (.inl m))).2.1 (.inl F.loc.symm),F.loc▸hm,xe.sa,S'.lxr,xe.gr.mono (λc w=>w) (λ_ w=>w.elim),la,ey,xe.outr,List.nodup_cons.mpr ⟨xe.nda.1,nd⟩,λc m=>(src c m).imp (λq=>f2▸.tail _ q) id⟩
theorem gT.ownComp{scope:Scope}{pos rp xp cpos p:Pos}{P:Fl->List LV->Lx->Prop}(a:d5 sc.names ρ i x .local (.own2 dss))(hd:(x==("__debug__":Str))=false)(hfl:(dss.all λds=>ds.all jw)=true)(hz:dss.length<=4096)
  (hsc':(sc.names.map (·.1)).Nodup->fj sc scope=sc')(hnd:(scope.names.map (·.1)).Nodup)(hkind:scope.kind=.function)(hcap:ki sc.names ρ scope.names ρc)(hxf:(r,aL) ∉ scope.names)(nr:eP sc'.names ir r .local)(hrow:lR C n sc' r ir ρc elt ifs st)(q:l7 (nJ st dss lx) λo l=>P .nxt (ρ.set i (.own2 o)) l)
  (hsw:∀env,aY sc env->kq (.ListComp elt [⟨.Name r rp,.Name x xp,ifs,0⟩] scope cpos) (some (.Name x p)) pos.line env=pure true):gT C n sc (.Assign [.Name x p] (.ListComp elt [⟨.Name r rp,.Name x xp,ifs,0⟩] scope cpos) pos) ρ lx P:=λA env ok okb og μ s R E S B=>by
 rw[exec_Assign_Name_used x p _ pos (hsw env E)]
 refine aa (cu (aa ?_))
 show ar _ A (do let _ <-v6 (.ListComp elt [⟨.Name r rp,.Name x xp,ifs,0⟩] scope cpos) scope env (xV [⟨.Name r rp,.Name x xp,ifs,0⟩] cpos) (newList []) (eX [⟨.Name r rp,.Name x xp,ifs,0⟩]) (firstIter [⟨.Name r rp,.Name x xp,ifs,0⟩] env) (some (nQ (.Name x p) env))) _ _ s
 have hnames:∀y∈scope.names,y.2=.local->scope.names.lookup y.1=some .local:=λy m e=>by refine cU (List.mem_iff_getElem?.mp m) λ_ hi=>?_;exact e▸cS hnd hi
 have hout:∀Da Cl s',KC C lx (og i) (λo l=>P .nxt (ρ.set i (.own2 o)) l) s Da Cl s'->compPost C.M A bJ (some (nQ (.Name x p) env)) (λ_ s'=>i7 C sc env lx ok okb og s P .next s') (.ref Da) Cl (.ok .next) s':=by
  intro Da Cl s' p
  refine nG λkG=>?_;obtain⟨outd,outs,lx',m,ys,q,hD,hC,hne,nc,hm,sa,l,g,la,ey,rows,nd,src⟩:=p
  refine kG ?_
  have S1:=S.grow g sa l
  have apC:=S.apart hC
  have hDl:Da < s'.heap.objs.size:=by refine cU la λ_ e=>?_;exact aC e
  have has:∀c∈Da::outs,c∈og i\/s.heap.objs.size<=c/\c < s'.heap.objs.size:=λc mc=>(List.mem_cons.mp mc).elim (λe=>e▸.inr ⟨hD,hDl⟩) λmc=>(src c mc).imp id λh=>⟨h,by refine xQ (qj rows mc) λ_ _ l _=>?_;exact by refine cU l λ_ e=>?_;exact aC e⟩
  refine oA (m9 (lv:=.own2 outd) (as:=Da::outs) E S a (.inl rfl) has nd sa l g ⟨Da,outs,ys,rfl,rfl,la,ey,gQ (λ_ _ r=>by refine a7 r λvs l r=>?_;exact⟨vs,l,r.mono λ_ _ w=>w.elim⟩) rows⟩ λs'' S'' c gx=>?_)
  have hm2:s''.heap.Ns Cl m:=Ns.at hm λo=>gx.heap _ o λw=>apC.1 w.frw
  have okC:ok Cl/\Cl ∉ Da::outs:=⟨S.okf Cl hC,λm=>(List.mem_cons.mp m).elim hne nc⟩
  exact⟨m,hm2,λh' hs'=>.at q trivial (S''.moveP (fQ (t:=s''.toks) (W:=λb=>b=Cl) hm2 hs' rfl (ai _)) (λb vs q l=>pS hm2 l q) (λb w=>w▸⟨okC,apC.1,sa.LW.symm▸apC.2.1,apC.2.2⟩)) (B.set λd e=>by cases e)
   (c.transP (fQ (t:=s''.toks) (W:=λb=>b=Cl) hm2 hs' rfl (ai _)) (λb w=>w▸hC) (λ_ w=>w.elim))⟩
 refine a7 (CN (RR:=λacc Cl r' s'=>compPost C.M A bJ (some (nQ (.Name x p) env)) (λ_ s'=>i7 C sc env lx ok okb og s P .next s') acc Cl r' s') (pos:=cpos) (rp:=rp) (xp:=xp) R E S a (.inl rfl) hd hfl hz hsc' hnd hkind hcap hxf nr hrow q hout) λcl e1 run=>?_
 exact aa (al (oH (g:=⟨.Name r rp,.Name x xp,ifs,0⟩) (gs:=[]) rfl (λ_=>rfl) e1 hkind hnames run) (λ_ s' hq=>aq (aq hq)) λ_ _ x=>x.elim)
end
section
variable{C:Cx}{n:Nat}{sc:Scope}{A:Around}{ρ ρc:List LV}{lx:Lx}{env:Env}{ok okb:Addr->Prop}{og:Nat->List Addr}{μ:Str->Option Value}{s s':ab}{i ir j:Nat}{x r:Str}{k:az}{dss:List (List D)}{ds ds':List D}{elt:Expr}{ifs:List Expr}{gens:List bF}{p apos p1 pos lp sp sp2:Pos}
theorem oS{Q:List (List D)->Prop}(h:Ok (own2At ρ i) Q):∃dss,ρ[i]? =some (.own2 dss)/\Q dss:=by
 refine a7 ((Ok.bind h).eq) λlv e h=>?_
 cases lv with
 |own2 dss=>exact⟨dss,e,h⟩
 |_=>exact h.elim
theorem S1.new2(b:eP sc.names i x k)(hk:jW k):S1 C n sc (.Assign [.Name x p] (.List [] lp) pos) (.new2 i):=.of λρ lx P h=>λA env ok okb og μ s R E S B=>by
 refine(λhi q=>?_) (Ok.iff' h).1 (Ok.iff' h).2
 refine cJ (wh (iW ⟨bH _,?_⟩)) rfl
 exact m9 (lv:=.own2 []) (as:=[s.heap.objs.size]) E S (b.at (aD hi)) hk (λc m=>by rw[List.mem_singleton.mp m];exact .inr ⟨ai _,by show _ < (s.heap.push _).objs.size;rw[aZ];exact bC _⟩) (List.nodup_cons.mpr ⟨dw,bx⟩) .refl (S.lxr.grow0 bB) bB.of0
  ⟨_,[],#[],rfl,rfl,⟨_,aB _ rfl⟩,rfl,.nil⟩ λs' S' c _=>.at q trivial S' (B.set λd e=>by cases e) c
theorem Fs{scope':Scope}{cpos':Pos}{f:List LV->Lx->Option (List D × Lx)}(hf:ED C n sc scope' elt gens f)(hnd:(scope'.names.map (·.1)).Nodup)(hkind:scope'.kind=.function)(hxf:∀x∈jA gens,(x,aL) ∉ scope'.names)(hs:∀env x,ba (iC gens) env x=pure x)(ha:eX gens=false):
  lR C n sc r ir ρc (.ListComp elt gens scope' cpos') [] (Fu ir f ρc):=λA env ok okb μ s ds b lx Q P P0 R E S hμ rw1 q emit skip=>by
 refine aq (a:=true) ?_
 rw[if_pos rfl,jx ha]
 refine nG λkG=>?_;obtain⟨sc2,h1,h2⟩:=hf
 obtain⟨ρ2,hX⟩:=h1 (Q:=λout l=>out.all jw=true/\Q (some out) l) ((Ok.bind q).mono λp h=>Ok.iff h);refine kG ?_;refine(λhc k=>?_) hX.1 hX.2
 exact pf R E S h2 hnd hkind hc hxf (hs env) k λDa Cl s' p=>by obtain⟨m,hm⟩:=p.ns;exact⟨m,hm,λh' hs'=>by refine nG λkG=>?_;obtain⟨out,_,lx',ys,q,hD,sa,l,g,la,ra⟩:=p.drop S hs';refine kG ?_;exact emit Da out lx' _ q.2 (.inr hD) ⟨ys,la,xn ra q.1⟩ (S.grow g sa l) sa g⟩
theorem Fp{rp rp3 cpos':Pos}(nr:eP sc.names ir r .local)(hd:(r==("__debug__":Str))=false):lR C (n+2) sc r ir ρc (.Name r rp) [.Compare (.Name r rp3) [.NotEq] [.List [] lp] cpos'] rowF:=λA env ok okb μ s ds b lx Q P P0 R E S hμ rw1 q emit skip=>by
 have hir:ir < (ρc.set ir (.bor (.list ds))).length:=by rw[S.len];exact(List.getElem?_eq_some_iff.mp nr.get).1
 have hg:(ρc.set ir (.bor (.list ds)))[ir]? =some (.bor (.list ds)):=dT (by rw[dL]at hir;exact hir)
 have t:SB C (n+2) sc (.Compare (.Name r rp3) [.NotEq] [.List [] lp] cpos') (.cmp .NotEq (.nm ir) (.list .nil)):=SB.cmp (SE.nm nr (.inl rfl) hd) (SE.list SL.nil rfl) rfl
 have q1:l7 (DT.cmp .NotEq (.nm ir) (.list .nil) (ρc.set ir (.bor (.list ds))) lx) λc l=>Q (if c=true then some ds else none) l:=by
  refine a7 ((Ok.map q).eq) λc e q=>?_
  have e1:DE.nm ir (ρc.set ir (.bor (.list ds))) lx=some (.bor (.list ds),lx):=by unfold DE.nm;rw[hg];rfl
  unfold DT.cmp
  rw[e1,ac,show DE.list DL.nil (ρc.set ir (.bor (.list ds))) lx=some (.dat (.list []),lx)from rfl,ac,e]
  exact q
 refine al (zH (Q:=λc l=>Q (if c=true then some ds else none) l) R E [_] lx s S ((t.ok q1).mono λc l q=>by cases c<;>exact q)) (λc s₁ h=>?_) λ_ _ x=>x
 obtain⟨lx',q,sa,l,g⟩:=h
 have S1:=S.grow g sa l
 have hb:okb b:=by
  refine nG λkG=>?_;obtain⟨_,v,e,rv⟩:=S.vars ir r _ _ nr.get hg
  cases hμ.symm.trans e
  obtain⟨a,vs,e,o,_⟩:=rv.list_inv
  refine kG ?_
  exact Value.ref.inj e▸o
 cases c with
 |true=>exact eL E S1 (nr.at hg) (.inl rfl) hμ hd (emit b ds lx' s₁ q (.inl rfl) (rw1.grow g (λw=>S.lxok b hb (cC w)) (λ_ w=>w.elim) λ_ _ w=>w) S1 sa g)
 |false=>exact skip lx' s₁ q S1 sa g
theorem S1.rows{kd:tN}{ns ns':List (Str × az)}{g c:Bool}{m:List (Str × Const)}{cs:List (Option Nat)}{rp xp cpos:Pos}{st:List LV->List D->Lx->Option (Option (List D) × Lx)}(b:eP sc.names i x .local)(hd:(x==("__debug__":Str))=false)(hc:jg sc.names ns cs ns')(nr:eP ns' ir r .local)
  (hrow:∀ρc,lR C n ⟨kd,ns',g,c,m⟩ r ir ρc elt ifs (st ρc))(hl:(p.line==cpos.line)=true)(hn:(ns.any λ(n,k)=>n==x&&(k== .local||k== .cell))=false)(hnd:(ns.map (·.1)).Nodup)(hkind:kd=.function)(hxf:(ns.any λq=>q==(r,aL))=false):
  S1 C n sc (.Assign [.Name x p] (.ListComp elt [⟨.Name r rp,.Name x xp,ifs,0⟩] ⟨kd,ns,g,c,m⟩ cpos) pos) (wL i cs st):=.of λρ lx P h=>by
 refine a7 (oS (Ok.bind h)) λdss e0 h1=>?_
 refine en (Ok.iff h1) λgg h2=>?_
 refine en (Bool.and_eq_true_iff.mp gg) λg1 g2=>?_
 refine a7 (vL hc (Ok.bind h2)) λρc hcap h3=>?_
 exact gT.ownComp (b.at e0) hd g2 (of_decide_eq_true g1) (vM hc) hnd hkind hcap (λm=>bY (hxf.symm.trans (List.any_eq_true.mpr ⟨_,m,beq_self_eq_true _⟩))) nr (hrow ρc) (Ok.map h3) (rI b hl hn)
inductive KB(ok:Addr->Prop)(h:Heap)(u:Option Value)(as:List Addr)(j:Nat)(ds:List D):Prop where
 |mk (b c:Addr) (vs ws:Array Value) (e1:u=some (.ref b)) (l:dj h b vs) (ev:vs[j]? =some (.ref c)) (ec:as[j+1]? =some c) (lc:dj h c ws) (rc:dC ok h ws.toList ds)
theorem St.rowAt(S:St C sc env ρ lx ok okb og μ s)(a:d5 sc.names ρ i x k (.own2 dss))(e:dss[j]? =some ds):KB ok s.heap (μ x) (og i) j ds:=by
 refine nG λkG=>?_;obtain⟨b,bs,vs,e1,e2,l,ev,o⟩:=S.own2At a
 obtain⟨c,ec,ws,lc,rc⟩:=xG o e
 refine kG ?_
 exact⟨b,c,vs,ws,e1,l,by rw[<-a9,ev,aW,ec];rfl,by rw[e2];exact ec,lc,rc⟩
theorem St.rowSet{c:Addr}{ws:Array Value}(E:aY sc env)(S:St C sc env ρ lx ok okb og μ s)(B:cZ ρ)(a:d5 sc.names ρ i x k (.own2 dss))(hc:(og i)[j+1]? =some c)(g:aH (λd=>d=c) cx s s')(l:dj s'.heap c ws)(r:dC ok s'.heap ws.toList ds'):
  St C sc env (ρ.set i (.own2 (dss.set j ds'))) lx (λd=>ok d/\d ∉ og i) okb (λj=>if j=i then og i else og j) μ s'/\kh env lx lx ok okb (λd=>ok d/\d ∉ og i) okb og (λj=>if j=i then og i else og j) s s':=by
 have mc:c∈og i:=aU hc
 have nk:∀d,ok d->ok d/\d ∉ og i:=λd o=>⟨o,λm=>(S.owns i d m).2.1 o⟩
 obtain⟨b,bs,vs,e1,e2,lb,ev,o⟩:=S.own2At a
 have nd:=List.nodup_cons.mp (e2▸S.ownd i)
 have hc':bs[j]? =some c:=by rw[e2]at hc;exact hc
 refine St.mutG E S B a (g.mono (λd w=>.inl (w▸mc)) (λ_ w=>w.elim)) ?_ (λd m=>.inl m) (S.ownd i)
 exact Y3 b bs vs ⟨e1,e2,dj.grow g (λq=>nd.1 (q▸aU hc')) lb,ev,vX.set o nd.2 hc' (λd m hd ds r=>gR.grow r g hd (λc' o _ q=>(S.owns i c mc).2.1 (q▸o)) λd _ o=>nk d o) ⟨ws,l,r.mono λd _ o=>nk d o⟩⟩
theorem S1.app2e(b:eP sc.names i x k)(hk:jW k)(hd:(x==("__debug__":Str))=false)(hline:(apos.endLine==p1.line)=true):S1 C n sc (.Expr (.Call (.Attribute (.Name x p) "append" apos) [.List [] lp] [] p1) pos) (.app2e i):=.of λρ lx P h=>λA env ok okb og μ s R E S B=>by
 refine a7 (oS (Ok.bind h)) λdss e0 h=>?_
 refine en (Ok.iff' h) λhz q=>?_
 refine nG λkG=>?_;obtain⟨b',bs,vs,e1,e2,l,ev,o⟩:=S.own2At (b.at e0)
 refine cU (id l) λnn hb=>?_
 refine kG ?_
 have hvs:vs.size=dss.length:=(congrArg fX ev).trans ((af ..).trans (fk o).symm)
 refine jK (dt rfl rfl hline (eL E S (b.at e0) hk e1 hd ⟨"list","list.append",F.plainAttrs_list,F.slot_list_append,F.type_list_append,⟨_,hb,rfl⟩,λc q=>by cases q;exact⟨_,hb,rfl⟩,km (wh (iW ⟨bH _,?_⟩))⟩)) (by unfold gW;rw[E.scope,E.kind];rfl) rfl
 have gp:bG s {s with heap:=s.heap.push {cls:=.type "list",data:=.seq ([]:List Value).toArray}}:=bB
 have hn:=aB s.heap (o:={cls:=.type "list",data:=.seq ([]:List Value).toArray}) rfl
 have hzn:(s.heap.push {cls:=.type "list",data:=.seq ([]:List Value).toArray}).objs.size=s.heap.objs.size+1:=aZ ..
 have hb2:IsL (s.heap.push {cls:=.type "list",data:=.seq ([]:List Value).toArray}) b' vs nn:=aA _ hb
 have g':aH (λc=>c=b') cx s {s with heap:=(s.heap.push {cls:=.type "list",data:=.seq ([]:List Value).toArray}).update b' (aS λxs=>xs.push (.ref s.heap.objs.size))}:=(gp.of0 (W:=λc=>c=b')).trans1 (ju (s:={s with heap:=s.heap.push {cls:=.type "list",data:=.seq ([]:List Value).toArray}}) hb2 _)
 have hl':=jT hb2 λxs=>xs.push (.ref s.heap.objs.size)
 have hn':((s.heap.push {cls:=.type "list",data:=.seq ([]:List Value).toArray}).update b' (aS λxs=>xs.push (.ref s.heap.objs.size))).get? s.heap.objs.size=_:=(cy _ _ (aK (aC hb))).trans hn
 refine⟨vs,nn,rP hz hvs,hb2,?_⟩
 generalize(s.heap.push {cls:=.type "list",data:=.seq ([]:List Value).toArray}).update b' (aS λxs=>xs.push (.ref s.heap.objs.size))=h' at g' hl' hn'
 have nd:=List.nodup_cons.mp (e2▸S.ownd i)
 have mb:∀c∈b'::bs,c∈og i:=λc m=>e2▸m
 have ltb:∀c∈b'::bs,c≠s.heap.objs.size:=λc m q=>(S.owns i c (mb c m)).2.1 (S.okf c (aJ q.symm))
 have k1:∀c,c < s.heap.objs.size->ok c->ok c/\c ∉ b'::(bs++[s.heap.objs.size]):=λc e o=>⟨o,λm=>(List.mem_cons.mp m).elim (λq=>(S.owns i c (mb c (q▸.head _))).2.1 o) λm=>(List.mem_append.mp m).elim (λm=>(S.owns i c (mb c (.tail _ m))).2.1 o) λm=>aK e (List.mem_singleton.mp m)⟩
 obtain⟨S',c'⟩:=St.mutG (lv':=.own2 (dss++[[]])) (as:=b'::(bs++[s.heap.objs.size])) E S B (b.at e0) (g'.mono (λc w=>.inl (w▸mb _ (.head _))) (λ_ w=>w.elim))
  ⟨b',bs++[s.heap.objs.size],_,e1,rfl,hl',by rw[fH,ev,aQ];rfl,qi (eH o λc ds m r=>gR.grow r g' (λq=>nd.1 (q▸m)) (λc o _ q=>(S.owns i b' (mb _ (.head _))).2.1 (q▸o)) k1) ⟨#[],⟨_,hn'⟩,.nil⟩⟩
  (λc m=>(List.mem_cons.mp m).elim (λq=>.inl (mb c (q▸.head _))) λm=>(List.mem_append.mp m).elim (λm=>.inl (mb c (.tail _ m))) λm=>.inr (by rw[List.mem_singleton.mp m];exact⟨ai _,aC hn'⟩))
  (List.nodup_cons.mpr ⟨λm=>(List.mem_append.mp m).elim nd.1 λm=>ltb b' (.head _) (List.mem_singleton.mp m),pU (l:=bs) (m:=[]) (by rw[aO];exact List.nodup_cons.mpr ⟨λm=>ltb _ (.tail _ m) rfl,nd.2⟩)⟩)
 exact .at q trivial S' (B.set λd e=>by cases e) c'
end
section
variable{C:Cx}{n:Nat}{sc:Scope}{A:Around}{ρ ρc:List LV}{lx:Lx}{env:Env}{ok okb:Addr->Prop}{og:Nat->List Addr}{μ:Str->Option Value}{s s':ab}{i ir j:Nat}{x r:Str}{k:az}{dss:List (List D)}{ek ej ex:Expr}{ak aj ax:DE}{p apos p1 pos lp sp sp2:Pos}
theorem zo{K:Nat × List D->Lx->Prop}{Q:Value->ab->Prop}(R:bj n A)(E:aY sc env)(S:St C sc env ρ lx ok okb og μ s)(b:d5 sc.names ρ i x k (.own2 dss))(hk:jW k)(hd:(x==("__debug__":Str))=false)(h1:Ev C n sc ek ρ lx λr l=>Ok (lB dss r) λkd=>K kd l)
  (h:∀kd l c ws s₁,K kd l->St C sc env ρ l ok okb og μ s₁->bV lx l->aH (W lx) cx s s₁->(og i)[kd.1+1]? =some c->dj s₁.heap c ws->dC ok s₁.heap ws.toList kd.2->Q (.ref c) s₁):ar C.M A (eval (.Subscript (.Name x p) ek sp) env) Q bJ s:=by
 refine nG λkG=>?_;obtain⟨b',_,_,e1,_,_,_,_⟩:=S.own2At b
 refine kG ?_
 refine Subscript_ (eL E S b hk e1 hd (h1.go R E S λv s₁ r l q rv S1 sa g=>?_))
 refine nG λkG=>?_;obtain⟨kv,e2,q⟩:=(Ok.bind q).eq
 obtain rfl:=dB e2
 obtain⟨t,rfl⟩:=Rd.int_inv rv
 obtain⟨hg,q⟩:=Ok.iff' q
 obtain⟨ds,e3,q⟩:=(Ok.map q).eq
 obtain⟨b2,c,vs,ws,f1,lb,ev,ec,lc,rc⟩:=S1.rowAt b e3
 cases e1.symm.trans f1
 refine kG ?_
 exact lA lb.isList.typeIs slot_list_getitem.lookup (wpAny_getItem_list lb.isList hg.1 (by exact ts hg.2 (by decide)) ev (h (kv.toNat,ds) l c ws s₁ q S1 sa g ec lc rc))
theorem S1.app2(b:eP sc.names i x k)(hk:jW k)(hd:(x==("__debug__":Str))=false)(ha:SE C n sc ek ak)(hx:SE C n sc ex ax)(hs:bt [ex]=true)(hline:(apos.endLine==p1.line)=true):
  S1 C n sc (.Expr (.Call (.Attribute (.Subscript (.Name x p) ek sp) "append" apos) [ex] [] p1) pos) (.app2 i ak ax):=.of λρ lx P h=>λA env ok okb og μ s R E S B=>by
 refine a7 (oS (Ok.bind h)) λdss e0 h1=>?_
 refine jK (dt rfl (by rw[(bq hs).1];rfl) hline (zo R E S (b.at e0) hk hd (ha.ok (Q:=λr l=>Ok (lB dss r) λkd=>l7 (ax ρ l) λq l=>Ok (dM q) λxv=>kd.2.length<=4096/\P .nxt (ρ.set i (.own2 (dss.set kd.1 (kd.2++[aw xv])))) l)
  ((Ok.bind h1).mono λp h=>(Ok.bind h).mono λkd h=>(Ok.bind h).mono λq h=>(Ok.bind h).mono λxv h=>Ok.iff' h)) λkd l c ws s₁ q S1 sa g ec lc rc=>?_)) (by unfold gW;rw[E.scope,E.kind];rfl) rfl
 refine cU (id lc) λnn hc=>?_
 refine Y2 ("list") ("list.append") ⟨F.plainAttrs_list,F.slot_list_append,F.type_list_append,⟨_,hc,rfl⟩,λc q=>by cases q;exact⟨_,hc,rfl⟩,km ((hx.ok q).go R E S1 λv s₂ r l2 q rv S2 sa2 g2=>?_)⟩
 refine jH (Ok.eq q) λxv e2 hz q2=>?_
 refine nG λkG=>?_;obtain rfl:=dB e2
 obtain⟨t,rfl⟩:=Rd.int_inv rv
 have mc:=S1.owns i c (aU ec)
 have nW:¬W l c:=λw=>S1.lxok c mc.1 (cC w)
 have lc2:=dj.grow g2 nW lc
 have rc2:dC ok s₂.heap ws.toList kd.2:=rc.grow g2 λa o _ w=>S1.lxok a (S1.sub a o) (cC w)
 refine cU (id lc2) λn2 hc2=>?_
 have g3:=ju hc2 (aS λxs=>xs.push (.int xv t))
 refine en (St.rowSet (ds':=kd.2++[.int xv]) E S2 B (b.at e0) ec g3 (jT hc2 λxs=>xs.push (.int xv t)) (by rw[fH];exact(rc2.grow g3 λa o _ q=>mc.2.1 (q▸o)).append (.cons Rd.int .nil))) λS3 c3=>?_
 refine kG ?_
 exact Y2 ws n2 ⟨rP hz rc2.length,hc2,.at q2 trivial S3 (B.set λd e=>by cases e) ((kh.of_grow (g.trans1 (sa.W▸g2)) (sa.trans sa2)).trans c3)⟩
theorem wG{c:Addr}{ws:Array Value}{q:Int}{t:Tok}{v:Value}{Q:Unit->ab->Prop}(hl:dj s.heap c ws)(h0:0<=q)(h1:q < 2 ^ 63)(hn:q.toNat < ws.size)(hQ:Q () {s with heap:=s.heap.update c (aS (·.setIfInBounds q.toNat v))}):ar C.M A (setItem (.ref c) (.int q t) v) Q bJ s:=by
 refine cU (id hl) λnn ho=>?_
 have hT:=hl.isList.typeIs
 unfold setItem
 try with_reducible refine bg ?_
 first|refine aa (aq ?_)|skip
 refine aa (wpAny_sequenceKey hT (by decide) ?_)
 refine aa (c9 (name:=ad "__setitem__") hT slot_list_setitem (dF slot_list_setitem hT entry_list_setitem ?_ (args_list_setitem _ _ _)))
 show ar _ _ (Builtin.List.listSubscript? (.int q t) >>= _) _ _ s
 refine aa (wpAny_listSubscript_int (by unfold dn;simp;exact⟨dA (by decide) h0,ij h1 (by decide)⟩) ?_)
 obtain⟨j,rfl⟩:=Int.eq_ofNat_of_zero_le h0
 show ar _ _ ((seqItemAt c j >>= λr=>pure (r.map (j, ·))) >>= _) _ _ s
 refine aa (aa (wpAny_seqItemAt ho rfl (aq ?_)))
 rw[bn (show j < ws.size from hn)]
 show ar _ _ (setSeqItemAt c j v >>= _) _ _ s
 refine aa (wpAny_setSeqItemAt ho rfl ?_)
 first
  |exact aa (aq (aq ⟨.none,rfl,aq hQ⟩))
  |exact aq ⟨.none,rfl,aq hQ⟩
theorem S1.set2(b:eP sc.names i x k)(hk:jW k)(hd:(x==("__debug__":Str))=false)(ha:SE C n sc ek ak)(hj:SE C n sc ej aj)(hx:SE C n sc ex ax):
  S1 C n sc (.Assign [.Subscript (.Subscript (.Name x p) ek sp) ej sp2] ex pos) (.set2 i ak aj ax):=.of λρ lx P h=>λA env ok okb og μ s R E S B=>by
 refine a7 (oS (Ok.bind h)) λdss e0 h1=>?_
 refine wpAny_Assign_Subscript ((hx.ok (Q:=λr l=>Ok (dM r) λxv=>l7 (ak ρ l) λr l=>Ok (lB dss r) λkd=>l7 (aj ρ l) λr l=>Ok (dM r) λj=>(0<=j/\j < 4096/\j.toNat < kd.2.length)/\P .nxt (ρ.set i (.own2 (dss.set kd.1 (kd.2.set j.toNat (.int xv))))) l)
  ((Ok.bind h1).mono λp h=>(Ok.bind h).mono λxv h=>(Ok.bind h).mono λq h=>(Ok.bind h).mono λkd h=>(Ok.bind h).mono λr h=>(Ok.bind h).mono λj h=>Ok.iff' h)).go R E S λv s₁ r l1 q rv S1 sa1 g1=>?_) (by cases ex<;>rfl)
 refine a7 (Ok.eq q) λxv e1 q2=>?_
 refine nG λkG=>?_;obtain rfl:=dB e1
 obtain⟨tx,rfl⟩:=Rd.int_inv rv
 refine kG ?_
 refine zo R E S1 (b.at e0) hk hd (ha.ok q2) λkd l2 c ws s₂ q S2 sa2 g2 ec lc rc=>(hj.ok q).go R E S2 λv2 s₃ r l3 q rv S3 sa3 g3=>?_
 refine jH (Ok.eq q) λjv e2 hg q3=>?_
 refine nG λkG=>?_;obtain rfl:=dB e2
 obtain⟨tj,rfl⟩:=Rd.int_inv rv
 have mc:=S1.owns i c (aU ec)
 have lc3:=dj.grow g3 (λw=>S2.lxok c mc.1 (cC w)) lc
 have rc3:dC ok s₃.heap ws.toList kd.2:=rc.grow g3 λa o _ w=>S2.lxok a (S2.sub a o) (cC w)
 have hz:ws.size=kd.2.length:=rc3.length
 refine cU (id lc3) λnn hc=>?_
 have g4:=ju hc (aS (·.setIfInBounds jv.toNat (.int xv tx)))
 obtain⟨S4,c4⟩:=St.rowSet (ds':=kd.2.set jv.toNat (.int xv)) E S3 B (b.at e0) ec g4 (jT hc (·.setIfInBounds jv.toNat (.int xv tx))) (by
  rw[Array.toList_setIfInBounds]
  exact EA Rd.int (rc3.grow g4 λa o _ q=>mc.2.1 (q▸o)) _)
 refine kG ?_
 exact wG lc3 hg.1 (by exact ts hg.2.1 (by decide)) (hz▸hg.2.2) (.at q3 trivial S4 (B.set λd e=>by cases e) ((kh.of_grow ((g1.trans1 (sa1.W▸g2)).trans1 ((sa1.trans sa2).W▸g3)) ((sa1.trans sa2).trans sa3)).trans c4))
end
theorem Dy:∃elts x1 tp t1 t2 t3 y1 y2 y3 a3 a4,nq elts x1 tp t1 t2 t3 y1 y2 y3 a3 a4 (bh 7)/\∀{C:Cx} {N:Nat},tL C (N+2) (aE 7) (.Tuple elts x1 tp) t1 t2 t3 y1 y2 y3 a3 a4:=by
 refine Y6 _ _ _ _ _ _ ⟨_,_,_,_,_,.mk,λ{C N}=>?_⟩
 show tL C (N+2) ⟨_,_,_,_,_⟩ _ _ _ _ _ _ _ _ _
 constructor
 all_goals repeat' first
  |with_reducible first|exact SE.int|exact SE.str|exact SE.bool|exact SE.none|exact EV.nil|apply wc.nm (by(repeat constructor);first|done|fail) (by first|exact .inl rfl|exact .inr rfl)|apply wc.tup|apply EV.cons (by(repeat constructor);first|done|fail) (by first|exact .inl rfl|exact .inr rfl)|apply S1.asg (by(repeat constructor);first|done|fail) (by first|exact .inl rfl|exact .inr rfl)|exact SS.nil|apply SS.cons|exact SL.nil|apply SE.nm (by(repeat constructor);first|done|fail)|apply SE.bin|apply SE.cut|apply SE.item|apply SE.tupX|apply SE.cmp|apply SE.neg|apply SE.ite|apply SE.join|apply SE.index|apply SE.list|apply SL.cons|apply SB.cmp|apply SB.and|apply SB.or|apply SB.val|apply SO.of|exact SO.no|apply SC.one|apply SC.more
  |exact Or.inl rfl|exact Or.inr rfl
  |((with_reducible show _=_);first|decide+kernel|exact rfl|with_unfolding_all exact rfl)
  |((with_reducible show ∀_:Env,_);intros;rfl)
  |((with_reducible first|show _<=_|show x3 _|show ∀x∈_,_);decide+kernel)
structure EK(C:Cx)(a:Addr)(fd:FuncData):Prop where
 G:Ag C a fd (bh 7)
 sc:fd.scope=aE 7
 gb:Gb C "_iter_escaped_chars" (.ref a)
 binds:∀s v,Wd C s->ik s fd ⟨[v],[]⟩ [("addr",v)]
structure GP(C:Cx)(K:Frag)(n:Nat)(fT fP fG fN:Addr)(fdG fdN:FuncData):Prop where
 kc:dk C
 k:fv C K
 mT:fD C K "get_token" fT
 hT:kg C n (.ref fT) fTok
 mP:fD C K "push_token" fP
 hP:kg C n (.ref fP) fPush
 gen:EK C fG fdG
 ins:sT C fN fdN
 list:Gb C "list" (.type "list")
 zip:Gb C "zip" (.type "zip")
 sorted:Gb C "sorted" (.builtin "sorted")
 enum:Gb C "enumerate" (.type "enumerate")
theorem F0{C:Cx}{K:Frag}{n:Nat}{fT fP fG fN:Addr}{fdG fdN:FuncData}(H:GP C K (n+5) fT fP fG fN fdG fdN)(hn:n+5<=200):gS C (n+5)where
 tok:=λb hk hd hl=>SE.tok H.k H.mT H.hT b hk hd hl
 line:=λb hk hd=>SE.line H.k b hk hd
 push:=λb hk hd ha hs hl=>SE.push H.k H.mP H.hP b hk hd ha hs hl
 gen:=λhx ha hs=>by refine nG λkG=>?_;obtain⟨_,_,_,_,_,_,_,_,_,_,_,hb,F⟩:=Dy;refine kG ?_;exact SI.genOf H.kc hn H.gen.G hb (H.gen.sc▸F) H.enum H.gen.gb H.gen.binds hx ha hs (by decide+kernel)
 zip:=λhl hz ha hb hs=>SE.zip H.kc hl hz H.list H.zip ha hb hs
 sortP:=λhx ha hs=>SE.sortP H.kc hx H.sorted ha hs
 insIf:=λb hk hd hx u ha hs ht hb=>S1.insIf H.ins b hk hd hx u ha hs ht hb
 new2:=λb hk=>S1.new2 b hk
 comp2:=λb hd hc nr hf a1 a2 a3 a4 a5 b1 b2 b3 b4 b5=>S1.rows b hd hc nr (λρc=>Fs hf a1 a2 a3 a4 a5) b1 b2 b3 b4 b5
 fil2:=λb hd hc nr hr b1 b2 b3 b4 b5=>S1.rows b hd hc nr (λρc=>Fp nr hr) b1 b2 b3 b4 b5
 app2e:=λb hk hd hl=>S1.app2e b hk hd hl
 app2:=λb hk hd ha hx hs hl=>S1.app2 b hk hd ha hx hs hl
 set2:=λb hk hd ha hj hx=>S1.set2 b hk hd ha hj hx
inductive fx(P:cg)(a c:Addr)(body:List Stmt)(sc:Scope)(g:Bool)(ps:List Str):Prop where
 |mk (o:Obj) (fd:FuncData) (oc:Obj) (vs:Array Value) (t:Tok) (e1:(hd.heap_1 P).lookup a=some o) (e2:o.data=.func fd) (e3:fd.code=.ref c) (e4:(hd.heap_1 P).lookup c=some oc) (e5:oc.data=.fields vs) (e6:vs[1]? =some (.str fd.qualname t)) (b1:fd.scope.isCoroutine=false) (b2:fd.scope.isGenerator=g)
   (b3:fd.body=.stmts body) (b4:fd.scope=sc) (b5:fd.scope.kind=.function) (b6:fd.globals=mainGlobals) (b7:fd.builtins=eY) (b8:fd.closure=[]) (b9:∀vals:List Value,vals.length=ps.length->nw fd ⟨vals,[]⟩=pure (ps.zip vals))
noncomputable def eF(P:cg)(a:Addr):Obj:=((hd.heap_1 P).lookup a).getD {cls:=.type "int",data:=.fields #[]}
noncomputable def iR(o:Obj):FuncData:=match o.data with
 |.func fd=>fd
 |_=>default
noncomputable def AD(o:Obj):Array Value:=match o.data with
 |.fields vs=>vs
 |_=>#[]
noncomputable def Jy(v:Option Value):Tok:=match v with
 |some (.str _ t)=>t
 |_=>0
theorem jZ{α:Type}{l:List α}(h:l.length=1):∃a,l=[a]:=by
 cases l with
 |nil=>exact by cases h
 |cons a l=>cases l with
  |nil=>exact⟨a,rfl⟩
  |cons b l=>exact by cases h
theorem jU{α:Type}{l:List α}{n:Nat}(h:l.length=n+1):∃a r,l=a::r/\r.length=n:=by
 cases l with
 |nil=>exact by cases h
 |cons a l=>exact Y2 a l ⟨rfl,s8 h⟩
theorem fx.at(P:cg)(a c:Addr)(body:List Stmt)(sc:Scope)(g:Bool)(ps:List Str)(e1:(hd.heap_1 P).lookup a=some (eF P a))(e2:(eF P a).data=.func (iR (eF P a)))(e3:(iR (eF P a)).code=.ref c)(e4:(hd.heap_1 P).lookup c=some (eF P c))(e5:(eF P c).data=.fields (AD (eF P c)))
  (e6:(AD (eF P c))[1]? =some (.str (iR (eF P a)).qualname (Jy (AD (eF P c))[1]?)))(b:(iR (eF P a)).scope.isCoroutine=false/\(iR (eF P a)).scope.isGenerator=g/\(iR (eF P a)).globals=mainGlobals/\(iR (eF P a)).builtins=eY/\(iR (eF P a)).closure=[])(b3:(iR (eF P a)).body=.stmts body)(b4:(iR (eF P a)).scope=sc)
  (b5:(iR (eF P a)).scope.kind=.function)(b9:∀vals:List Value,vals.length=ps.length->nw (iR (eF P a)) ⟨vals,[]⟩=pure (ps.zip vals)):fx P a c body sc g ps:=.mk _ _ _ _ _ e1 e2 e3 e4 e5 e6 b.1 b.2.1 b3 b4 b5 b.2.2.1 b.2.2.2.1 b.2.2.2.2 b9
theorem JL(P:cg):fx P 28 27 (dD 0) (cv 0) false ["self","fp"]:=
 .at P 28 27 _ _ _ _ rfl rfl rfl rfl rfl rfl ⟨rfl,rfl,rfl,rfl,rfl⟩ rfl rfl rfl λvals h=>by
  obtain⟨a,v1,rfl,h1⟩:=jU h
  obtain⟨b,rfl⟩:=jZ h1
  rfl
theorem G1(P:cg):fx P 35 34 (dD 1) (cv 1) false ["self"]:=
 .at P 35 34 _ _ _ _ rfl rfl rfl rfl rfl rfl ⟨rfl,rfl,rfl,rfl,rfl⟩ rfl rfl rfl λvals h=>by
  obtain⟨a,rfl⟩:=jZ h
  rfl
theorem G0(P:cg):fx P 42 41 (dD 2) (cv 2) false ["self"]:=
 .at P 42 41 _ _ _ _ rfl rfl rfl rfl rfl rfl ⟨rfl,rfl,rfl,rfl,rfl⟩ rfl rfl rfl λvals h=>by
  obtain⟨a,rfl⟩:=jZ h
  rfl
theorem GZ(P:cg):fx P 49 48 (dD 3) (cv 3) false ["self","token"]:=
 .at P 49 48 _ _ _ _ rfl rfl rfl rfl rfl rfl ⟨rfl,rfl,rfl,rfl,rfl⟩ rfl rfl rfl λvals h=>by
  obtain⟨a,v1,rfl,h1⟩:=jU h
  obtain⟨b,rfl⟩:=jZ h1
  rfl
theorem JH(P:cg):fx P 90 89 (bh 7) (aE 7) true ["addr"]:=
 .at P 90 89 _ _ _ _ rfl rfl rfl rfl rfl rfl ⟨rfl,rfl,rfl,rfl,rfl⟩ rfl rfl rfl λvals h=>by
  obtain⟨a,rfl⟩:=jZ h
  rfl
theorem JG(P:cg):fx P 97 96 (bh 8) (aE 8) false ["addr"]:=
 .at P 97 96 _ _ _ _ rfl rfl rfl rfl rfl rfl ⟨rfl,rfl,rfl,rfl,rfl⟩ rfl rfl rfl λvals h=>by
  obtain⟨a,rfl⟩:=jZ h
  rfl
theorem HP(P:cg):fx P 104 103 (bh 9) (aE 9) false ["addr"]:=
 .at P 104 103 _ _ _ _ rfl rfl rfl rfl rfl rfl ⟨rfl,rfl,rfl,rfl,rfl⟩ rfl rfl rfl λvals h=>by
  obtain⟨a,rfl⟩:=jZ h
  rfl
theorem HO(P:cg):fx P 111 110 (bh 11) (aE 11) false ["text"]:=
 .at P 111 110 _ _ _ _ rfl rfl rfl rfl rfl rfl ⟨rfl,rfl,rfl,rfl,rfl⟩ rfl rfl rfl λvals h=>by
  obtain⟨a,rfl⟩:=jZ h
  rfl
theorem HN(P:cg):fx P 116 115 (bh 12) (aE 12) false ["script"]:=
 .at P 116 115 _ _ _ _ rfl rfl rfl rfl rfl rfl ⟨rfl,rfl,rfl,rfl,rfl⟩ rfl rfl rfl λvals h=>by
  obtain⟨a,rfl⟩:=jZ h
  rfl
theorem HM(P:cg):fx P 123 122 (bh 13) (aE 13) false ["told","names"]:=
 .at P 123 122 _ _ _ _ rfl rfl rfl rfl rfl rfl ⟨rfl,rfl,rfl,rfl,rfl⟩ rfl rfl rfl λvals h=>by
  obtain⟨a,v1,rfl,h1⟩:=jU h
  obtain⟨b,rfl⟩:=jZ h1
  rfl
theorem HL(P:cg):fx P 130 129 (bh 14) (aE 14) false ["told","names","lexer"]:=
 .at P 130 129 _ _ _ _ rfl rfl rfl rfl rfl rfl ⟨rfl,rfl,rfl,rfl,rfl⟩ rfl rfl rfl λvals h=>by
  obtain⟨a,v1,rfl,h1⟩:=jU h
  obtain⟨b,v2,rfl,h2⟩:=jU h1
  obtain⟨c,rfl⟩:=jZ h2
  rfl
theorem HK(P:cg):fx P 137 136 (bh 15) (aE 15) false ["told","names","picks","turned"]:=
 .at P 137 136 _ _ _ _ rfl rfl rfl rfl rfl rfl ⟨rfl,rfl,rfl,rfl,rfl⟩ rfl rfl rfl λvals h=>by
  obtain⟨a,v1,rfl,h1⟩:=jU h
  obtain⟨b,v2,rfl,h2⟩:=jU h1
  obtain⟨c,v3,rfl,h3⟩:=jU h2
  obtain⟨d,rfl⟩:=jZ h3
  rfl
theorem HJ(P:cg):fx P 142 141 (bh 16) (aE 16) false ["arcs"]:=
 .at P 142 141 _ _ _ _ rfl rfl rfl rfl rfl rfl ⟨rfl,rfl,rfl,rfl,rfl⟩ rfl rfl rfl λvals h=>by
  obtain⟨a,rfl⟩:=jZ h
  rfl
theorem HI(P:cg):fx P 147 146 (bh 17) (aE 17) false ["arcs"]:=
 .at P 147 146 _ _ _ _ rfl rfl rfl rfl rfl rfl ⟨rfl,rfl,rfl,rfl,rfl⟩ rfl rfl rfl λvals h=>by
  obtain⟨a,rfl⟩:=jZ h
  rfl
theorem HH(P:cg):fx P 152 151 (bh 18) (aE 18) false ["arcs"]:=
 .at P 152 151 _ _ _ _ rfl rfl rfl rfl rfl rfl ⟨rfl,rfl,rfl,rfl,rfl⟩ rfl rfl rfl λvals h=>by
  obtain⟨a,rfl⟩:=jZ h
  rfl
theorem HG(P:cg):fx P 157 156 (bh 19) (aE 19) false ["numbers"]:=
 .at P 157 156 _ _ _ _ rfl rfl rfl rfl rfl rfl ⟨rfl,rfl,rfl,rfl,rfl⟩ rfl rfl rfl λvals h=>by
  obtain⟨a,rfl⟩:=jZ h
  rfl
theorem HF(P:cg):fx P 162 161 (bh 20) (aE 20) false ["arcs"]:=
 .at P 162 161 _ _ _ _ rfl rfl rfl rfl rfl rfl ⟨rfl,rfl,rfl,rfl,rfl⟩ rfl rfl rfl λvals h=>by
  obtain⟨a,rfl⟩:=jZ h
  rfl
theorem HE(P:cg):fx P 167 166 (bh 21) (aE 21) false ["script"]:=
 .at P 167 166 _ _ _ _ rfl rfl rfl rfl rfl rfl ⟨rfl,rfl,rfl,rfl,rfl⟩ rfl rfl rfl λvals h=>by
  obtain⟨a,rfl⟩:=jZ h
  rfl
noncomputable def Bj(prog:Program)(w:BE)(s:ab)(mg mb:Str->Option Value):Cx:=⟨prog,w,s.heap,106,s.os,mg,mb,52,sR⟩
structure ix(C:Cx)(P:cg):Prop where
 kin:(hd.heap_1 P).In C.h₀
 tab:C.tab=106
 ht:C.h₀.get? 106=some (jn #[])
theorem mJ(P:cg):∀p∈hd.heap_1 P,p.1≠106:=by
 have h:(hd.heap_1 P).all (λp=>p.1 != 106)=true:=rfl
 exact λp m=>bne_iff_ne.mp (List.all_eq_true.mp h p m)
inductive jD(C:Cx)(a c:Addr)(body:List Stmt)(sc:Scope)(ps:List Str):Prop where
 |mk (fd:FuncData) (at_:qW C a fd body) (sc:fd.scope=sc) (cd:fd.code=.ref c) (b:∀s vals,vals.length=ps.length->ik s fd ⟨vals,[]⟩ (ps.zip vals))
theorem fx.here{C:Cx}{P:cg}{a c:Addr}{body:List Stmt}{sc:Scope}{ps:List Str}(G:ix C P)(r:fx P a c body sc false ps)(hn:(sc.names.map (·.1)).Nodup):jD C a c body sc ps:=by
 obtain⟨o,fd,oc,vs,t,e1,e2,e3,e4,e5,e6,b1,b2,b3,b4,b5,b6,b7,b8,b9⟩:=r
 exact⟨fd,⟨G.tab▸mJ P _ (fB e1),⟨o,G.kin _ _ e1,e2⟩,b1,b2,b3,b5,b6,b7,b8,Y4 c oc vs t ⟨e3,G.tab▸mJ P _ (fB e4),G.kin _ _ e4,e5,e6⟩,b4▸hn⟩,b4,e3,λs vals h=>.of_eq (b9 vals h)⟩
section
variable{C:Cx}{P:cg}
theorem yz(G:ix C P)(hl:C.lexC=52):fv C (hd.heap_1 P)where
 inn:=G.kin
 tab:=G.tab▸mJ P
 ga:=by rw[hl];rfl
 gn:=by rw[hl];rfl
 dict:=by rw[hl];rfl
 sa:=by rw[hl];rfl
 po:=by rw[hl];rfl
 own:=by
  intro x hx
  rw[hl]
  rcases List.mem_cons.mp hx with rfl|hx
  ·rfl
  rcases List.mem_cons.mp hx with rfl|hx
  ·rfl
  rcases List.mem_cons.mp hx with rfl|hx
  ·rfl
  rcases List.mem_cons.mp hx with rfl|hx
  ·rfl
  rcases List.mem_cons.mp hx with rfl|hx
  ·rfl
  exact by cases hx
theorem yw(G:ix C P)(hl:C.lexC=52){name:Str}{f c:Addr}{body:List Stmt}{sc:Scope}{ps:List Str}(H:jD C f c body sc ps)(h1:findIn (hd.heap_1 P) (.ref 52) name=some (some (.ref f)))(h2:typeIn (hd.heap_1 P) (.ref f)=some (.type "function"))(h3:specialIn (hd.heap_1 P) (.ref f) "__get__"=some (some (.builtin "function.__get__")))(h4:takesIn (hd.heap_1 P) (.ref f)=some false)
  (h5:copiedNames.contains name=false)(h6:name≠"lineno"/\name≠"instream"/\name≠"whitespace"/\name≠"pushback"):fD C (hd.heap_1 P) name f:=
 by obtain⟨fd,F,_,_,_⟩:=H;exact by obtain⟨o,ho,hd⟩:=F.obj;exact⟨hl▸h1,h2,h3,h4,h5,h6,cV.func F.na ho hd⟩
theorem JS(G:ix C P)(hl:C.lexC=52)(H:jD C 35 34 (dD 1) (cv 1) ["self"]):fD C (hd.heap_1 P) "_read_char" 35:=yw G hl H rfl rfl rfl rfl (by decide+kernel) (by decide+kernel)
theorem H2(G:ix C P)(hl:C.lexC=52)(H:jD C 42 41 (dD 2) (cv 2) ["self"]):fD C (hd.heap_1 P) "get_token" 42:=yw G hl H rfl rfl rfl rfl (by decide+kernel) (by decide+kernel)
theorem FI(G:ix C P)(hl:C.lexC=52)(H:jD C 49 48 (dD 3) (cv 3) ["self","token"]):fD C (hd.heap_1 P) "push_token" 49:=yw G hl H rfl rfl rfl rfl (by decide+kernel) (by decide+kernel)
end
section
variable{C:Cx}{P:cg}
noncomputable def kC(P:cg):Array DictEntry:=match(hd.heap_1 P).lookup 3 with
 |some ⟨_,_,.dict es _,_⟩=>es
 |_=>#[]
theorem C3(G:ix C P)(g:C.h₀.Ns mainGlobals C.mg)(x:Str):C.mg x=Aj (kC P) x:=by
 refine nG λkG=>?_;obtain⟨o,es,ep,e1,e2,e3,e4⟩:=g
 have h:∃n,(hd.heap_1 P).lookup 3=some {cls:=.type "dict",data:=.dict (kC P) n}:=⟨_,rfl⟩
 obtain⟨n,h⟩:=h
 obtain rfl:=ao ((G.kin 3 _ h).symm.trans e1)
 refine kG ?_
 cases e2
 exact(e4 x).symm
theorem fi(G:ix C P)(g:C.h₀.Ns mainGlobals C.mg){x:Str}{v:Value}(h:Aj (kC P) x=some v):Gb C x v:=.inl ((C3 G g x).trans h)
theorem o6(G:ix C P)(g:C.h₀.Ns mainGlobals C.mg){x:Str}{v:Value}(hb:C.mb x=mr x)(h:Aj (kC P) x=none)(h2:mr x=some v):Gb C x v:=.inr ⟨(C3 G g x).trans h,hb.trans h2⟩
theorem LG(G:ix C P)(k:dk C)(hb:∀x:Str,x≠"__name__"->C.mb x=mr x):fE C where
 k:=k
 len:=o6 G k.g (hb _ (by decide+kernel)) rfl (by kernel_rfl)
 sum:=o6 G k.g (hb _ (by decide+kernel)) rfl (by kernel_rfl)
 max:=o6 G k.g (hb _ (by decide+kernel)) rfl (by kernel_rfl)
 min:=o6 G k.g (hb _ (by decide+kernel)) rfl (by kernel_rfl)
 sorted:=o6 G k.g (hb _ (by decide+kernel)) rfl (by kernel_rfl)
 range:=o6 G k.g (hb _ (by decide+kernel)) rfl (by kernel_rfl)
 enumerate:=o6 G k.g (hb _ (by decide+kernel)) rfl (by kernel_rfl)
theorem Ig(G:ix C P)(k:dk C):Gb C "_iter_escaped_chars" (.ref 90):=fi G k.g rfl
theorem Ih(G:ix C P)(k:dk C):Gb C "_netrclex" (.ref 52):=fi G k.g rfl
theorem Ie(G:ix C P)(k:dk C):Gb C "insort_right" (.ref 65):=fi G k.g rfl
end
section
variable{C:Cx}{P:cg}
theorem Ic(G:ix C P)(k:dk C):∃fd,EK C 90 fd:=by
 obtain⟨o,fd,oc,vs,t,e1,e2,e3,e4,e5,e6,b1,b2,b3,b4,b5,b6,b7,b8,b9⟩:=JH P
 exact⟨fd,⟨G.tab▸mJ P _ (fB e1),⟨o,G.kin _ _ e1,e2⟩,b1,b2,b3,b5,b6,b7,b8,Y4 _ oc vs t ⟨e3,G.tab▸mJ P _ (fB e4),G.kin _ _ e4,e5,e6⟩,by rw[b4];rfl⟩,b4,Ig G k,λs v _=>.of_eq (b9 [v] rfl)⟩
theorem JX(G:ix C P)(hl:C.lexC=52):∃fd,EG C (hd.heap_1 P) 28 fd:=by
 obtain⟨fd,at_,sc,_,b⟩:=(JL P).here (C:=C) G (by decide+kernel)
 exact⟨fd,by rw[hl];rfl,by rw[hl];rfl,rfl,at_,sc,b⟩
theorem Kp(G:ix C P)(h:∃bm ob,C.mg "__builtins__"=some (.ref bm)/\bm≠eY/\C.h₀.get? bm=some ob/\ob.cls=.type "module"/\ob.dict=some eY/\ob.data=.plain):C.h₀.BuiltinsAt C.mg C.tab:=by
 refine Lz h λbm ob e1 e2 e3 e4 e5 e6=>?_
 have hne:bm≠C.tab:=λq=>by
  rw[q,G.tab,G.ht]at e3
  rw[<-ao e3]at e6
  exact nomatch e6
 have h3:∃n,(hd.heap_1 P).lookup 3=some {cls:=.type "dict",data:=.dict (kC P) n}:=⟨_,rfl⟩
 refine cU h3 λn h3=>?_
 have hm:bm≠mainGlobals:=λq=>by
  rw[q,show mainGlobals=3 from rfl,G.kin 3 _ h3]at e3
  rw[<-ao e3]at e6
  exact nomatch e6
 exact Y2 bm ob ⟨e1,e2,hm,hne,e3,e4,e5,e6⟩
theorem H7(G:ix C P)(k:dk C)(hl:C.lexC=52)(hlam:C.lamFn=sR)(hb:∀x:Str,x≠"__name__"->C.mb x=mr x)(bi:C.h₀.BuiltinsAt C.mg C.tab):∃fdI fdL,qm C (hd.heap_1 P) 28 111 fdI fdL:=by
 refine nG λkG=>?_;obtain⟨fdI,M⟩:=JX G hl
 obtain⟨fdL,at_,sc,cd,b⟩:=(HO P).here (C:=C) G (by decide+kernel)
 refine kG ?_
 refine Y2 fdI fdL ⟨k,yz G hl,M,at_,sc,λs vals _ h=>b s vals h,⟨_,cd,G.tab▸codeHd_of_K G.kin (by rfl)⟩,bi,o6 G k.g (hb _ (by decide+kernel)) rfl (by kernel_rfl),hl▸Ih G k,?_,λc co q pm ctv=>hlam▸⟨q,pm,ctv,rfl⟩⟩
 exact hl▸λA s Q w h=>by refine nG λkG=>?_;obtain⟨kk,_,l⟩:=keeps_K (K:=hd.heap_1 P) (f:=.ref 52) (M:=C.M) (by rfl) s.heap ((yz G hl).at w);refine kG ?_;exact l.here (h kk)
end
section
variable{C:Cx}{P:cg}{n:Nat}
theorem jD.code{a c:Addr}{body:List Stmt}{sc:Scope}{ps:List Str}{is:List Nat}{g:DS}{len:Nat}(H:jD C a c body sc ps)(b:Bool)(k:dk C)(hp:EW sc.names ps is)(hl:sc.names.length=len)(hi:is.length=ps.length)(hg:SS C n sc body g):dE C (n+1) a (dZ b len is g):=by
 refine nG λkG=>?_;obtain⟨fd,F,rfl,_,hb⟩:=H
 refine kG ?_
 exact Gc b k F hp hl (λs vals _ h=>hb s vals (h.trans hi)) hg
theorem jD.def{a c:Addr}{body:List Stmt}{sc:Scope}{ps:List Str}(H:jD C a c body sc ps):uK C a:=by obtain⟨_,F,_,_,_⟩:=H;exact by obtain⟨o,ho,hd⟩:=F.obj;exact⟨F.na,o,_,ho,hd⟩
theorem HS(G:ix C P)(k:dk C)(hl:C.lexC=52)(hlam:C.lamFn=sR):dE C (n+3) 35 fRd:=
 ((G1 P).here G (by decide+kernel)).code false k (.cons .here (.inl rfl) .nil) rfl rfl (K4.property (yz G hl) (Di k λc co fd h=>hlam▸h))
theorem CI(G:ix C P)(k:dk C)(hl:C.lexC=52):dE C (n+3) 49 fPush:=
 ((GZ P).here G (by decide+kernel)).code false k (.cons .here (.inl rfl) (.cons (.there .here) (.inl rfl) .nil)) rfl rfl (DD.property (yz G hl))
theorem E5(G:ix C P)(k:dk C)(hl:C.lexC=52)(hlam:C.lamFn=sR)(hi:Gb C "iter" (.builtin "iter")):dE C (n+5) 42 fTok:=
 have H:=(G1 P).here (C:=C) G (by decide+kernel)
 (((G0 P).here G (by decide+kernel)).code (g:=Il) false k (.cons .here (.inl rfl) .nil) rfl rfl (Cc (yz G hl) (B8 (n:=n+2) k (yz G hl) (JS G hl H) hi (HS G k hl hlam) H.def JM))).le λrs lx Q h=>Hu h
end
theorem eD{α:Type}{M:Model}{A:Around}{E:Value->ab->Prop}{s:ab}{Q:α->ab->Prop}{c:Bool}{a b:Sem α}(hc:c=false)(h:ar M A b Q E s):ar M A (if c=true then a else b) Q E s:=by
 rw[hc];exact h
theorem nY{α:Type}{M:Model}{A:Around}{E:Value->ab->Prop}{s:ab}{Q:α->ab->Prop}{c:Bool}{a b:Sem α}(hc:c=true)(h:ar M A a Q E s):ar M A (if c=true then a else b) Q E s:=by
 rw[hc];exact h
noncomputable def Et(x:Str):Arg:=⟨x,none,⟨0,0,0,0⟩⟩
noncomputable def Jn(q:Str)(T d:Addr):FuncData:={(default:FuncData)with qualname:=q,params:=⟨[],[Et "a",Et "x",Et "lo",Et "hi"],none,[Et "key"],[],none,[]⟩,defaults:=.ref T,kwdefaults:=.ref d}
abbrev EQ(fd:FuncData)(T d:Addr)(t0:Tok):Prop:=∀s m oT n,s.heap.get? T=some oT->oT.data=.seq #[.int 0 t0,.none] n->s.heap.Ns d m->m "key"=some .none->∀vals:List Value,2<=vals.length->vals.length<=4->ik s fd ⟨vals,[]⟩ ((["a","x","lo","hi","key"]:List Str).zip (vals++[.int 0 t0,.none,.none].drop (vals.length - 2)))
inductive oz(P:cg)(a c T d:Addr)(t0:Tok)(body:List Stmt)(sc:Scope):Prop where
 |mk (o:Obj) (fd:FuncData) (oc:Obj) (vs:Array Value) (t:Tok) (e1:(hd.heap_1 P).lookup a=some o) (e2:o.data=.func fd) (e3:fd.code=.ref c) (e4:(hd.heap_1 P).lookup c=some oc) (e5:oc.data=.fields vs) (e6:vs[1]? =some (.str fd.qualname t)) (b1:fd.scope.isCoroutine=false) (b2:fd.scope.isGenerator=false)
   (b3:fd.body=.stmts body) (b4:fd.scope=sc) (b5:fd.scope.kind=.function) (b6:fd.globals=mainGlobals) (b7:fd.builtins=eY) (b8:fd.closure=[]) (b9:EQ fd T d t0)
section
variable{s:ab}{m:Str->Option Value}{oT:Obj}{n:Nat}{T d:Addr}{t0:Tok}{q:Str}{M:Model}{A:Around}{E:Value->ab->Prop}{Q:List (Str × Value)->ab->Prop}
theorem Ko{v1 v2:Value}(h1:s.heap.get? T=some oT)(h2:oT.data=.seq #[.int 0 t0,.none] n)(h3:s.heap.Ns d m)(h4:m "key"=some .none)(hq:Q [(ad "a",v1),("x",v2),("lo",.int 0 t0),("hi",.none),("key",.none)] s):ar M A (nw (Jn q T d) ⟨[v1,v2],[]⟩) Q E s:=by
 show ar M A (seqItems? (.ref T) >>= _) Q E s
 refine aa (jJ h1 h2 ?_)
 dsimp only[uO,xZ,bK,fX,An]
 refine eD (by rfl) (eD (by rfl) ?_)
 refine aa (fF (a:=[(ad "a",v1),("x",v2),("lo",.int 0 t0),("hi",.none)]) (by rfl) ?_)
 refine aa ?_
 show ar M A (forIn [ad "key"] _ _) _ E s
 rw[cN]
 refine aa (nY (by rfl) (aa (wpAny_nsGet h3 ?_)))
 rw[h4]
 refine aq ?_
 dsimp only
 rw[lq]
 exact aq (eD (by rfl) (aq hq))
theorem Kn{v1 v2 v3:Value}(h1:s.heap.get? T=some oT)(h2:oT.data=.seq #[.int 0 t0,.none] n)(h3:s.heap.Ns d m)(h4:m "key"=some .none)(hq:Q [(ad "a",v1),("x",v2),("lo",v3),("hi",.none),("key",.none)] s):ar M A (nw (Jn q T d) ⟨[v1,v2,v3],[]⟩) Q E s:=by
 show ar M A (seqItems? (.ref T) >>= _) Q E s
 refine aa (jJ h1 h2 ?_)
 dsimp only[uO,xZ,bK,fX,An]
 refine eD (by rfl) (eD (by rfl) ?_)
 refine aa (fF (a:=[(ad "a",v1),("x",v2),("lo",v3),("hi",.none)]) (by rfl) ?_)
 refine aa ?_
 show ar M A (forIn [ad "key"] _ _) _ E s
 rw[cN]
 refine aa (nY (by rfl) (aa (wpAny_nsGet h3 ?_)))
 rw[h4]
 refine aq ?_
 dsimp only
 rw[lq]
 exact aq (eD (by rfl) (aq hq))
theorem Km{v1 v2 v3 v4:Value}(h1:s.heap.get? T=some oT)(h2:oT.data=.seq #[.int 0 t0,.none] n)(h3:s.heap.Ns d m)(h4:m "key"=some .none)(hq:Q [(ad "a",v1),("x",v2),("lo",v3),("hi",v4),("key",.none)] s):ar M A (nw (Jn q T d) ⟨[v1,v2,v3,v4],[]⟩) Q E s:=by
 show ar M A (seqItems? (.ref T) >>= _) Q E s
 refine aa (jJ h1 h2 ?_)
 dsimp only[uO,xZ,bK,fX,An]
 refine eD (by rfl) (eD (by rfl) ?_)
 refine aa (fF (a:=[(ad "a",v1),("x",v2),("lo",v3),("hi",v4)]) (by rfl) ?_)
 refine aa ?_
 show ar M A (forIn [ad "key"] _ _) _ E s
 rw[cN]
 refine aa (nY (by rfl) (aa (wpAny_nsGet h3 ?_)))
 rw[h4]
 refine aq ?_
 dsimp only
 rw[lq]
 exact aq (eD (by rfl) (aq hq))
theorem Kl:EQ (Jn q T d) T d t0:=λs m oT n h1 h2 h3 h4 vals z1 z2=>by
 have h:vals.length=2\/vals.length=3\/vals.length=4:=by omega
 intro M A E Q hq
 rcases h with h|h|h
 ·obtain⟨a,v1,rfl,k1⟩:=jU h
  obtain⟨b,rfl⟩:=jZ k1
  exact Ko h1 h2 h3 h4 hq
 ·obtain⟨a,v1,rfl,k1⟩:=jU h
  obtain⟨b,v2,rfl,k2⟩:=jU k1
  obtain⟨c,rfl⟩:=jZ k2
  exact Kn h1 h2 h3 h4 hq
 ·obtain⟨a,v1,rfl,k1⟩:=jU h
  obtain⟨b,v2,rfl,k2⟩:=jU k1
  obtain⟨c,v3,rfl,k3⟩:=jU k2
  obtain⟨d,rfl⟩:=jZ k3
  exact Km h1 h2 h3 h4 hq
theorem En{fd:FuncData}(h:∀vals,nw fd ⟨vals,[]⟩=nw (Jn q T d) ⟨vals,[]⟩):EQ fd T d t0:=λs m oT n h1 h2 h3 h4 vals z1 z2 M A E Q hq=>by
 rw[h vals]
 exact Kl s m oT n h1 h2 h3 h4 vals z1 z2 M A E Q hq
end
theorem oz.at(P:cg)(a c T d:Addr)(t0:Tok)(body:List Stmt)(sc:Scope)(e1:(hd.heap_1 P).lookup a=some (eF P a))(e2:(eF P a).data=.func (iR (eF P a)))(e3:(iR (eF P a)).code=.ref c)(e4:(hd.heap_1 P).lookup c=some (eF P c))(e5:(eF P c).data=.fields (AD (eF P c)))
  (e6:(AD (eF P c))[1]? =some (.str (iR (eF P a)).qualname (Jy (AD (eF P c))[1]?)))(b:(iR (eF P a)).scope.isCoroutine=false/\(iR (eF P a)).scope.isGenerator=false/\(iR (eF P a)).globals=mainGlobals/\(iR (eF P a)).builtins=eY/\(iR (eF P a)).closure=[])(b3:(iR (eF P a)).body=.stmts body)(b4:(iR (eF P a)).scope=sc)
  (b5:(iR (eF P a)).scope.kind=.function)(b9:∀vals,nw (iR (eF P a)) ⟨vals,[]⟩=nw (Jn (iR (eF P a)).qualname T d) ⟨vals,[]⟩):oz P a c T d t0 body sc:=.mk _ _ _ _ _ e1 e2 e3 e4 e5 e6 b.1 b.2.1 b3 b4 b5 b.2.2.1 b.2.2.2.1 b.2.2.2.2 (En b9)
theorem JK(P:cg):oz P 65 64 57 58 249 (bh 3) (aE 3):=
 .at P 65 64 57 58 249 _ _ rfl rfl rfl rfl rfl rfl ⟨rfl,rfl,rfl,rfl,rfl⟩ rfl rfl rfl λvals=>rfl
theorem JJ(P:cg):oz P 74 73 66 67 262 (bh 4) (aE 4):=
 .at P 74 73 66 67 262 _ _ rfl rfl rfl rfl rfl rfl ⟨rfl,rfl,rfl,rfl,rfl⟩ rfl rfl rfl λvals=>rfl
theorem JI(P:cg):oz P 83 82 75 76 276 (bh 5) (aE 5):=
 .at P 83 82 75 76 276 _ _ rfl rfl rfl rfl rfl rfl ⟨rfl,rfl,rfl,rfl,rfl⟩ rfl rfl rfl λvals=>rfl
section
variable{C:Cx}{P:cg}
inductive pp(C:Cx)(a:Addr)(t0:Tok)(body:List Stmt)(sc:Scope):Prop where
 |mk (fd:FuncData) (at_:qW C a fd body) (sc:fd.scope=sc) (b:∀s (vals:List Value),Wd C s->2<=vals.length->vals.length<=4->ik s fd ⟨vals,[]⟩ ((["a","x","lo","hi","key"]:List Str).zip (vals++[.int 0 t0,.none,.none].drop (vals.length - 2))))
theorem oz.here{a c T d:Addr}{t0:Tok}{body:List Stmt}{sc:Scope}(G:ix C P)(r:oz P a c T d t0 body sc)(hn:(sc.names.map (·.1)).Nodup)(hT:∃o n,(hd.heap_1 P).lookup T=some o/\o.data=.seq #[.int 0 t0,.none] n)(hd':∃h0 k0 n,(hd.heap_1 P).lookup d=some {cls:=.type "dict",data:=.dict #[⟨h0,.str "key" k0,.none⟩] n}):pp C a t0 body sc:=by
 refine nG λkG=>?_;obtain⟨o,fd,oc,vs,t,e1,e2,e3,e4,e5,e6,b1,b2,b3,b4,b5,b6,b7,b8,b9⟩:=r
 refine xQ hT λoT nT f1 f2=>?_
 refine Kz hd' λh0 k0 nd f3=>?_
 refine kG ?_
 have kp:∀{s:ab},Wd C s->∀{x o},(hd.heap_1 P).lookup x=some o->s.heap.get? x=some o:=λw _ _ e=>w.kept _ _ (G.tab▸mJ P _ (fB e)) (G.kin _ _ e)
 refine⟨fd,⟨G.tab▸mJ P _ (fB e1),⟨o,G.kin _ _ e1,e2⟩,b1,b2,b3,b5,b6,b7,b8,Y4 c oc vs t ⟨e3,G.tab▸mJ P _ (fB e4),G.kin _ _ e4,e5,e6⟩,b4▸hn⟩,b4,λs vals w z1 z2=>b9 s (Aj #[⟨h0,.str "key" k0,.none⟩]) oT nT (kp w f1) f2 ⟨_,_,nd,kp w f3,rfl,λe m=>?_,λ_=>rfl⟩ ?_ vals z1 z2⟩
 ·simp at m
  exact Y2 _ _ (by rw[m])
 ·rfl
theorem Ia(G:ix C P)(k:dk C):∃fd,sT C 65 fd:=by
 refine nG λkG=>?_;obtain⟨fd,F,sc,b⟩:=(JK P).here (C:=C) G (by decide+kernel) ⟨_,_,rfl,rfl⟩ ⟨_,_,_,rfl⟩
 refine a7 F.obj λo ho hd'=>?_
 refine kG ?_
 exact⟨fd,k,F,sc,λs vals w h=>⟨249,by have:=b s vals w (aJ h.symm) (h▸by decide);rw[h]at this;exact this⟩,Ie G k,cV.func F.na ho hd'⟩
end
section
variable{C:Cx}{P:cg}{n:Nat}
theorem pp.code{a:Addr}{t0:Tok}{body:List Stmt}{sc:Scope}{len:Nat}{g:DS}(H:pp C a t0 body sc)(b:Bool)(k:dk C)(hp:EW sc.names ["a","x","lo","hi","key"] [0,1,2,3,4])(hl:sc.names.length=len)(hg:SS C n sc body g):dE C (n+1) a (sH b len [0,1,2,3,4] g 4 [.dat (.int 0),.dat .none,.dat .none]):=by
 refine nG λkG=>?_;obtain⟨fd,F,rfl,hb⟩:=H
 refine kG ?_
 refine xm (dv:=[.int 0 t0,.none,.none]) b k F hp hl (λ_ _ _=>.cons Rd.int (.cons Rd.none (.cons Rd.none .nil))) (λs vals w h1 h2=>hb s vals w ?_ h1) hg
 rw[eS]at h2
 simp only[aT,cM]at h2
 omega
theorem pp.use{a:Addr}{t0:Tok}{body:List Stmt}{sc:Scope}{x:Str}{f:DF}(H:pp C a t0 body sc)(hv:Gb C x (.ref a))(h:dE C n a f):i6 C n x f:=by obtain⟨_,F,_,_⟩:=H;exact by obtain⟨_,ho,hd⟩:=F.obj;exact⟨_,hv,cV.func F.na ho hd,h.ok⟩
theorem IU(G:ix C P)(gl:fE C):i6 C (n+3) "bisect_right" fBisR:=
 have H:=(JJ P).here (C:=C) G (by decide+kernel) ⟨_,_,rfl,rfl⟩ ⟨_,_,_,rfl⟩
 H.use (fi G gl.k.g rfl) (H.code true gl.k (.cons .here (.inl rfl) (.cons (.there .here) (.inl rfl) (.cons (.there (.there .here)) (.inl rfl) (.cons (.there (.there (.there .here))) (.inl rfl) (.cons (.there (.there (.there (.there .here)))) (.inl rfl) .nil))))) rfl (qw.property gl))
end
structure eT(C:Cx)(P:cg):Prop where
 G:ix C P
 gl:fE C
 hl:C.lexC=52
 hlam:C.lamFn=sR
 hb:∀x:Str,x≠"__name__"->C.mb x=mr x
 bi:C.h₀.BuiltinsAt C.mg C.tab
section
variable{C:Cx}{P:cg}{n:Nat}
theorem jD.use{a c:Addr}{body:List Stmt}{sc:Scope}{ps:List Str}{x:Str}{f:DF}(H:jD C a c body sc ps)(hv:Gb C x (.ref a))(h:dE C n a f):i6 C n x f:=by obtain⟨_,F,_,_,_⟩:=H;exact by obtain⟨_,ho,hd⟩:=F.obj;exact⟨_,hv,cV.func F.na ho hd,h.ok⟩
theorem Lf(G:ix C P)(gl:fE C):i6 C (n+3) "bisect_left" fBisL:=
 have H:=(JI P).here (C:=C) G (by decide+kernel) ⟨_,_,rfl,rfl⟩ ⟨_,_,_,rfl⟩
 H.use (fi G gl.k.g rfl) (H.code true gl.k (.cons .here (.inl rfl) (.cons (.there .here) (.inl rfl) (.cons (.there (.there .here)) (.inl rfl) (.cons (.there (.there (.there .here))) (.inl rfl) (.cons (.there (.there (.there (.there .here)))) (.inl rfl) .nil))))) rfl (zI.property gl))
theorem Lg(T:eT C P):EC C (n+4) fBisR:=⟨n+1,rfl,IU (n:=n) T.G T.gl⟩
theorem yG(T:eT C P)(hn:n+5<=200):gS C (n+5):=by
 refine cU (Ic T.G T.gl.k) λfdG gen=>?_
 refine cU (Ia T.G T.gl.k) λfdN ins=>?_
 have bi:=λ{x:Str} {v:Value} (h1:x≠"__name__") (h2:Aj (kC P) x=none) (h3:mr x=some v)=>o6 (v:=v) T.G T.gl.k.g (T.hb x h1) h2 h3
 exact F0 ⟨T.gl.k,yz T.G T.hl,H2 T.G T.hl ((G0 P).here T.G (by decide+kernel)),(E5 T.G T.gl.k T.hl T.hlam (bi (by decide+kernel) rfl (by kernel_rfl))).ok,FI T.G T.hl ((GZ P).here T.G (by decide+kernel)),(CI (n:=n+2) T.G T.gl.k T.hl).ok,gen,ins,bi (by decide+kernel) rfl (by kernel_rfl),bi (by decide+kernel) rfl (by kernel_rfl),T.gl.sorted,T.gl.enumerate⟩ hn
theorem Ci(T:eT C P)(hn:n+5<=200):i6 C (n+6) "_strip_quoted_realnames" fStrip:=
 have H:=(JG P).here (C:=C) T.G (by decide+kernel)
 H.use (fi T.G T.gl.k.g rfl) (H.code false T.gl.k (.cons .here (.inl rfl) .nil) rfl rfl (yJ.property (n:=n+3) T.gl (yG T hn)))
end
section
variable{C:Cx}{P:cg}{n:Nat}
theorem IM(T:eT C P)(hn:n+6<=200):i6 C (n+7) "_check_parenthesis" fCheck:=
 have H:=(HP P).here (C:=C) T.G (by decide+kernel)
 H.use (fi T.G T.gl.k.g rfl) (H.code false T.gl.k (.cons .here (by first|exact .inl rfl|exact .inr rfl) .nil) rfl rfl (yM.property (n:=n+4) T.gl (yG (n:=n+1) T (by assumption)) (Ci T (bD hn))))
theorem Ix(T:eT C P):i6 C (n+3) "_law_drawn" fDrawn:=
 have H:=(HN P).here (C:=C) T.G (by decide+kernel)
 H.use (fi T.G T.gl.k.g rfl) (H.code false T.gl.k (.cons .here (by first|exact .inl rfl|exact .inr rfl) .nil) rfl rfl (yL.property (n:=n) T.gl))
theorem JV(T:eT C P)(hn:n+5<=200):i6 C (n+6) "_law_by_line" fLine:=
 have H:=(HL P).here (C:=C) T.G (by decide+kernel)
 H.use (fi T.G T.gl.k.g rfl) (H.code false T.gl.k (.cons .here (by first|exact .inl rfl|exact .inr rfl) (.cons (.there .here) (by first|exact .inl rfl|exact .inr rfl) (.cons (.there (.there .here)) (by first|exact .inl rfl|exact .inr rfl) .nil))) rfl rfl (DJ.property (n:=n+3) T.gl (yG T hn)))
theorem Gs(T:eT C P):i6 C (n+3) "_law_by_choice" fChoice:=
 have H:=(HK P).here (C:=C) T.G (by decide+kernel)
 H.use (fi T.G T.gl.k.g rfl) (H.code false T.gl.k (.cons .here (by first|exact .inl rfl|exact .inr rfl) (.cons (.there .here) (by first|exact .inl rfl|exact .inr rfl) (.cons (.there (.there .here)) (by first|exact .inl rfl|exact .inr rfl) (.cons (.there (.there (.there .here))) (by first|exact .inl rfl|exact .inr rfl) .nil)))) rfl rfl (vA.property (n:=n) T.gl))
theorem FB(T:eT C P)(hn:n+5<=200):i6 C (n+6) "_law_passed" fPassed:=
 have H:=(HJ P).here (C:=C) T.G (by decide+kernel)
 H.use (fi T.G T.gl.k.g rfl) (H.code false T.gl.k (.cons .here (by first|exact .inl rfl|exact .inr rfl) .nil) rfl rfl (vz.property (n:=n+3) T.gl (yG T hn) (Lf (n:=n+2) T.G T.gl) (IU (n:=n+2) T.G T.gl) (Lg (n:=n+1) T)))
theorem HV(T:eT C P):i6 C (n+3) "_law_pairs" fPairs:=
 have H:=(HI P).here (C:=C) T.G (by decide+kernel)
 H.use (fi T.G T.gl.k.g rfl) (H.code false T.gl.k (.cons .here (by first|exact .inl rfl|exact .inr rfl) .nil) rfl rfl (yK.property (n:=n) T.gl))
theorem E8(T:eT C P)(hn:n+5<=200):i6 C (n+6) "_law_tables" fTables:=
 have H:=(HH P).here (C:=C) T.G (by decide+kernel)
 H.use (fi T.G T.gl.k.g rfl) (H.code false T.gl.k (.cons .here (by first|exact .inl rfl|exact .inr rfl) .nil) rfl rfl (vy.property (n:=n+3) T.gl (yG T hn) (IU (n:=n+2) T.G T.gl)))
theorem C6(T:eT C P):i6 C (n+3) "_law_longest" fLongest:=
 have H:=(HG P).here (C:=C) T.G (by decide+kernel)
 H.use (fi T.G T.gl.k.g rfl) (H.code false T.gl.k (.cons .here (by first|exact .inl rfl|exact .inr rfl) .nil) rfl rfl (sn.property (n:=n) T.gl))
theorem JO(T:eT C P)(hn:n+5<=200):i6 C (n+6) "_law_over" fOver:=
 have H:=(HF P).here (C:=C) T.G (by decide+kernel)
 H.use (fi T.G T.gl.k.g rfl) (H.code false T.gl.k (.cons .here (by first|exact .inl rfl|exact .inr rfl) .nil) rfl rfl (DG.property (n:=n+3) T.gl (yG T hn)))
theorem JP(T:eT C P)(hn:n+6<=200):i6 C (n+8) "_law_by_nest" fNest:=
 have H:=(HM P).here (C:=C) T.G (by decide+kernel)
 H.use (fi T.G T.gl.k.g rfl) (H.code false T.gl.k (.cons .here (by first|exact .inl rfl|exact .inr rfl) (.cons (.there .here) (by first|exact .inl rfl|exact .inr rfl) .nil)) rfl rfl (DH.property (n:=n+5) T.gl (IM T hn)))
end
section
variable{C:Cx}{P:cg}
theorem Lb{p:Program}{loose:List Str}{mean:ExcName->Option Value}(T:Top p loose mean C.mg C.mb C.h₀)(G:ix C P):dk C:=
 ⟨T.g,T.b,T.nolimit,by rw[G.tab];decide,by rw[G.tab];decide,by rw[G.tab];decide,⟨_,G.tab▸G.ht⟩⟩
theorem Ht{p:Program}{loose:List Str}{mean:ExcName->Option Value}(T:Top p loose mean C.mg C.mb C.h₀)(G:ix C P)(hl:C.lexC=52)(hlam:C.lamFn=sR):eT C P:=
 ⟨G,LG G (Lb T G) T.builtins,hl,hlam,T.builtins,Kp G T.bmain⟩
theorem FS(T:eT C P):SS C 8 (aE 21) ((bh 21).drop 2) DK.val:=
 DK.property (n:=6) T.gl (yG (n:=3) T (by decide)) (Ci (n:=2) T (by decide)) (JP (n:=0) T (by decide)) (JV (n:=2) T (by decide)) (Gs (n:=5) T) (FB (n:=2) T (by decide)) (HV (n:=5) T) (E8 (n:=2) T (by decide)) (C6 (n:=5) T) (JO (n:=2) T (by decide))
end
theorem B7{w:BE}{s₀ s₁:ab}{mg mb:Str->Option Value}{R:WRecords}{as:List Addr}{e:∀P,as=(hd.heap_1 P).map (·.1)}(p:Program)(G:Ground vw lso R (XL vw []) w s₀ mg mb s₁.heap)(Y:(kmHook hd.heap_1 as e [106]).says w s₁.heap):
  eT (Bj p w s₁ mg mb) w.params:=
 Ht G.T ⟨km_in_of Y,rfl,km_tabs_of Y 106 (List.mem_singleton.mpr rfl)⟩ rfl rfl
theorem zC{w:BE}{s₀ s₁:ab}{mg mb:Str->Option Value}{R:WRecords}{as:List Addr}{e:∀P,as=(hd.heap_1 P).map (·.1)}(p:Program)(G:Ground vw lso R (XL vw []) w s₀ mg mb s₁.heap)(Y:(kmHook hd.heap_1 as e [106]).says w s₁.heap):
  ∃fd c,qW (Bj p w s₁ mg mb) 167 fd (bh 21)/\fd.scope=aE 21/\fd.code=.ref c/\mg "law"=some (.ref 167)/\∀s vals,vals.length=1->ik s fd ⟨vals,[]⟩ ([("script":Str)].zip vals):=by
 have T:=B7 p G Y
 obtain⟨fd,F,e1,e2,hb⟩:=(HE w.params).here T.G (by decide+kernel)
 exact Y2 fd _ ⟨F,e1,e2,(C3 T.G T.gl.k.g "law").trans rfl,λs vals h=>hb s vals h⟩
theorem Hy{C:Cx}{sc:Scope}{env:Env}{ρ:List LV}{lx:Lx}{ok okb:Addr->Prop}{og:Nat->List Addr}{μ:Str->Option Value}{s:ab}{A:Around}{i:Nat}{x:Str}{lv₀ lv:LV}{v:Value}{Q:Unit->ab->Prop}(E:aY sc env)(S:St C sc env ρ lx ok okb og μ {s with toks:=s.toks+1})(a:d5 sc.names ρ i x .local lv₀)
  (hv:jf ok okb lx s.heap lv (some v) [])
  (h:∀s',St C sc env (ρ.set i lv) lx ok okb (λj=>if j=i then []else og j) (λy=>if y=x then some v else μ y) s'->aH (Af env x) cx {s with toks:=s.toks+1} s'->Q () s'):
  ar C.M A (jh env x v) Q bJ s:=by
 have hx:=a.get.1
 have hl:=cS E.nodup hx
 have kx:=E.at hx
 refine a7 S.ns λm hm hmx=>?_
 have to:∀{t s'},aH (Af env x) cx t s'->aH (i8 env) cx t s':=λg=>g.mono (λ_ w=>.inl w.frw) (λ_ w=>w.elim)
 refine gj kx hm (λh' hn' hs'=>?_) (by rw[E.scope,E.kind];rfl)
 have gx:aH (Af env x) cx {s with toks:=s.toks+1} {s with heap:=h',toks:=s.toks+1}:=fQ (s:={s with toks:=s.toks+1}) hm hs' (.inl rfl) (ai _)
 refine h _ (S.stored E hx (to gx) ⟨_,hn',λy hy=>?_⟩ (λy hy=>?_) (λy c e=>by refine cU (S.cellx y c e) λu e2=>?_;exact⟨u,e2.sameBut hs' (jr hm e2)⟩) hv (λ_ m=>nomatch m) bx λ_ _ _ m=>nomatch m) gx
 ·show(if y=x then some v else m y)=_
  rw[hmx y hy]
 ·refine a7 (S.cell y hy) λc e1 e2=>?_
  rw[if_neg λ(q:y=x)=>nomatch hl.symm.trans (show sc.names.lookup x=some .cell from q▸hy)]
  exact⟨c,e1,e2.sameBut hs' (jr hm e2)⟩
theorem Iv{C:Cx}{n:Nat}{A:Around}{ok okb:Addr->Prop}{s:ab}{a:Addr}{fd:FuncData}{body:List Stmt}{x:Str}{r:LV}{v:Value}{R:mj->ab->Prop}(k:dk C)(F:qW C a fd body)(hx:fd.scope.names[0]? =some (x,.local))
  (hb:ik s fd ⟨[v],[]⟩ [(x,v)])(Rm:bj (n+1) A)(w:Wx C ok okb none {s with toks:=s.toks+1})(hnb:∀d,r≠ .bor d)(hca:jf okb okb none s.heap r (some v) [])
  (h:∀env μ s₂,aY fd.scope env->env.code=fd.code->St C fd.scope env ((bb fd.scope.names.length .un).set 0 r) none okb okb (λ_=>[]) μ s₂->cZ ((bb fd.scope.names.length .un).set 0 r)->aH (λb=>s.heap.objs.size<=b) cx {s with toks:=s.toks+1} s₂->(∀b,i8 env b->s.heap.objs.size<=b)->
   ar C.M (A.deeper env) (kj body env) (λf s'=>R (.ok (.ret (match f with|.ret v=>v|_=>.none))) s') bJ s₂):eB C.M A (.call (.ref a) ⟨[v],[]⟩) R s:=by
 refine a7 F.obj λo ho hd=>?_
 refine Kv F.code λc co cvs ct c1 c2 c3 c4 c5=>?_
 refine rB Rm.depth (w.wd.kept _ _ F.na ho) hd F.co F.gen F.body ⟨c,co,cvs,ct,c1,w.wd.kept _ _ c2 c3,c4,c5⟩ (hb _ _ _ _ ?_)
 rw[F.clo]
 simp only[gV,rC,cY,if_false]
 refine aa (BD (aa (sV _ (λname kind cells=>by cases hkc:kind==cG<;>simp[hkc]) _ _ _ _ ?_)))
 have cf:=xz fd.scope.names [] (s.heap.push {cls:=.type "frame",data:=.dict #[]})
 refine xh (({s with heap:=mZ (s.heap.push {cls:=.type "frame",data:=.dict #[]}) fd.scope.names}:ab)) ?_;intro s₁ hs1
 have hz1:(s.heap.push {cls:=.type "frame",data:=.dict #[]}).objs.size=s.heap.objs.size+1:=aZ ..
 rw[show({s with heap:=s.heap.push {cls:=.type "frame",data:=.dict #[]}}:ab).heap.objs.size=s.heap.objs.size+1 from hz1]
 rw[show mZ (s.heap.push {cls:=.type "frame",data:=.dict #[]}) fd.scope.names=s₁.heap by rw[<-hs1],hz1]at cf
 have hns:s₁.heap.Ns s.heap.objs.size (λ_=>none):=hs1▸Ns.at (h:=s.heap.push {cls:=.type "frame",data:=.dict #[]}) ⟨_,#[],0,aB _ rfl,rfl,λe m=>(by simp at m),λx=>rfl⟩ λo e=>fU _ _ _ _ e
 have g01:bG {s with toks:=s.toks+1} {s₁ with toks:=s₁.toks+1}:=hs1▸.of_keep (s:={s with toks:=s.toks+1}) (t:=s.toks+1) (ai _) (by have:=hns.lt;rw[<-hs1]at this;exact bf this) λb o e=>fU _ _ _ _ (aA _ e)
 clear hs1
 have fin:∀env:Env,env.scope=fd.scope->env.locals=s.heap.objs.size->env.globals=fd.globals->env.builtins=fd.builtins->env.code=fd.code->CF fd.scope.names [] (s.heap.push {cls:=.type "frame",data:=.dict #[]}) env.cells s₁.heap->
   ar C.M A.in1 (do
    for (n,v)in [(x,v)]do jh env n v
    pure env) (λenv s₂=>s₂.heap.NoLimit/\eB C.M A (.func body env) R s₂) bJ s₁:=by
  intro env e1 hloc e3 e4 e5 cf
  have lk:∀x c,env.cells.lookup x=some c->s.heap.objs.size<=c/\s₁.heap.IsCell c none:=λx c e=>(cf.lk x c e).elim (λq=>nomatch q) λq=>⟨ah (a8 _) (ah (aJ hz1.symm) q.1),q.2⟩
  have hfr:∀b,i8 env b->s.heap.objs.size<=b:=λb w=>w.elim (λe=>aJ (e.trans hloc).symm) λ⟨x,e⟩=>(lk x b e).1
  have E:aY fd.scope env:=⟨e1,F.kind,e3.trans F.glob,e4.trans F.bi,cf.apart .nil (λ_ _ m=>nomatch m),F.nodup⟩
  have w1:=w.grow0 g01
  have okf:EX okb s₁.heap:=λa e=>w.sub a (w1.okf a e)
  have S0:St C fd.scope env (bb fd.scope.names.length .un) none okb okb (λ_=>[]) (λ_=>none) {s₁ with toks:=s₁.toks+1}:={
   wd:=w1.wd
   okf:=okf
   sub:=λ_ o=>o
   len:=jk ..
   ns:=⟨λ_=>none,hloc.symm▸hns,λ_ _=>rfl⟩
   cell:=λx e=>let⟨c,f1,_,f3⟩:=cf.hit x (gI e);⟨c,f1,f3⟩
   cellx:=λx c e=>⟨_,(lk x c e).2⟩
   vars:=λi x k lv _ e2=>(mt (aU e2)).symm▸rfl
   owns:=λ_ _ m=>nomatch m
   ownd:=λ_=>bx
   ownx:=λ_ _ _ m=>nomatch m
   lxr:=w1.lxr
   lxok:=λb o=>w1.lxok b o
   lxf:=⟨(w.apart (hfr _ (.inl rfl))).1,λx c e=>(w.apart (lk x c e).1).1⟩
   lx0:=w1.lx0
   fr0:=⟨(w.apart (hfr _ (.inl rfl))).2,λx c e=>(w.apart (lk x c e).1).2⟩}
  have B0:cZ ((bb fd.scope.names.length LV.un).set 0 r):=(cZ.rep _).set hnb
  have hr:(bb fd.scope.names.length LV.un)[0]? =some .un:=by
   rw[List.getElem?_replicate,if_pos (List.getElem?_eq_some_iff.mp hx).1]
  refine aa ?_
  rw[cN]
  refine aa (aa (Hy (i:=0) E S0 ⟨hx,hr⟩ (jf.move g01 .refl (λ_ _ _ w=>w) (λ_ _ _ w=>w) (λ_ _ o=>o) (λ_ _ o=>o) (λ_ _ w=>w) hca) λs₂ S2 g2=>aq ?_))
  rw[vk]at S2
  have g3:aH (i8 env) cx {s₁ with toks:=s₁.toks+1} s₂:=g2.mono (λ_ w=>.inl w.frw) (λ_ w=>w.elim)
  refine aq (aq ⟨S2.wd.nolimit k,codeAny_func (al (h env _ s₂ E e5 S2 B0 ((g01.of0.trans1 g3).mono (λb w=>.inl (hfr b w)) (λ_ w=>w.elim)) hfr) (λ_ _ x=>x) λ_ _ x=>x.elim)⟩)
 exact al (fin _ rfl rfl rfl rfl rfl cf) (λ_ _ x=>x) λ_ _ x=>x.elim
theorem LD{w:BE}{s₁:ab}{mg mb:Str->Option Value}(p:Program)(ht:s₁.heap.get? 106=some (jn #[]))(hg:s₁.gens=#[]):Wx (Bj p w s₁ mg mb) (λ_=>True) (λ_=>True) none {s₁ with toks:=s₁.toks+1}where
 wd:=⟨λ_ _ _ e=>e,⟨_,ht⟩,rfl,nR _,.of_eq hg⟩
 okf:=λ_ _=>trivial
 sub:=λ_ _=>trivial
 lxr:=trivial
 lxok:=λ_ _ w=>w.elim
 lx0:=λ_ w=>w.elim
theorem A2{w:BE}{s₀ s₁:ab}{mg mb:Str->Option Value}{R:WRecords}{as:List Addr}{e:∀P,as=(hd.heap_1 P).map (·.1)}(p:Program)(G:Ground vw lso R (XL vw []) w s₀ mg mb s₁.heap)(Y:(kmHook hd.heap_1 as e [106]).says w s₁.heap)(hg:s₁.gens=#[])
  {A:Around}{n:Nat}(Rm:bj (n+1) A){v:Value}{d:D}(hv:Rd (λ_=>True) s₁.heap v d){Rs:mj->ab->Prop}
  (h:∀env μ s₂,aY (aE 21) env->St (Bj p w s₁ mg mb) (aE 21) env ((bb (aE 21).names.length .un).set 0 (.dat d)) none (λ_=>True) (λ_=>True) (λ_=>[]) μ s₂->cZ ((bb (aE 21).names.length .un).set 0 (.dat d))->aH (λb=>s₁.heap.objs.size<=b) cx {s₁ with toks:=s₁.toks+1} s₂->
   ar (kY p w) (A.deeper env) (kj (bh 21) env) (λf s'=>Rs (.ok (.ret (match f with|.ret v=>v|_=>.none))) s') bJ s₂):
  eB (kY p w) A (.call (.ref 167) ⟨[v],[]⟩) Rs s₁:=by
 have T:=B7 p G Y
 refine LA (zC p G Y) λfd c F e1 e2 _ hb=>?_
 have hx:fd.scope.names[0]? =some (("script":Str),.local):=by rw[e1];rfl
 refine Iv (C:=Bj p w s₁ mg mb) (x:="script") T.gl.k F hx (hb s₁ [v] rfl) Rm (LD p T.G.ht hg) (r:=.dat d) (λ_ q=>by cases q) ⟨rfl,_,rfl,hv⟩ λenv μ s₂ E _ S B g _=>?_
 rw[e1]at E S B
 exact h env μ s₂ E S B g
section
variable{C:Cx}{P:cg}{A:Around}{sc:Scope}{env:Env}{s s₁:ab}{n:Nat}{ρ:List LV}{ok okb:Addr->Prop}{og:Nat->List Addr}{μ:Str->Option Value}{a:cH}{t:LexSt}
theorem jf.ofNone{lx:Lx}{h:Heap}{lv:LV}{u:Option Value}{as:List Addr}(x:jf ok okb none h lv u as):jf ok okb lx h lv u as:=by
 cases lv with
 |ci it f live=>exact by refine nG λkG=>?_;obtain⟨_,_,_,hX⟩:=x;refine kG ?_;refine(λ_ _ e _=>?_) hX.1 hX.2.1 hX.2.2.1 hX.2.2.2;exact nomatch e
 |lex=>exact by refine nG λkG=>?_;obtain⟨_,_,_,e,_⟩:=x;refine kG ?_;exact nomatch e
 |_=>exact x
theorem St.adopt{ps:Array Value}(S:St C sc env ρ none ok okb og μ s)(ht:s.heap.get? C.tab=some (jn ps))(ht':∃ps,s₁.heap.get? C.tab=some (jn ps))(g:aH (λb=>b=C.tab) cx s s₁)(l:cn C a t s₁.heap)(hn:∀b,a.all b->s.heap.objs.size<=b):
  St C sc env ρ (some (a,t)) (λc=>ok c/\¬a.all c) (λc=>okb c/\¬a.all c) og μ s₁:=by
 have S1:=S.tabMove ht ht' g
 have nl:∀a,(∃vs,dj s.heap a vs)->¬a=C.tab:=by rintro a ⟨vs,n,l⟩ q;exact absurd (congrArg ii (ao ((q▸l).symm.trans ht))) (by dsimp only;decide)
 have lr:nN C (some (a,t)) s₁.heap:=l
 have old:∀c,c < s.heap.objs.size->¬a.all c:=λc e m=>absurd e (Nat.not_lt.mpr (hn c m))
 have fro:∀c,i8 env c->¬a.all c:=λc w m=>(S.apart (hn c m)).1 w
 exact{
  wd:=S1.wd
  okf:=λc e=>⟨S1.okf c e,λm=>by refine cU (lr.alive (b:=c) m) λ_ q=>?_;exact absurd (aC q) (Nat.not_lt.mpr e)⟩
  sub:=λc o=>⟨S.sub c o.1,o.2⟩
  len:=S.len
  ns:=S1.ns
  cell:=S1.cell
  cellx:=S1.cellx
  vars:=λi y k lv e1 e2=>.ofNone (jf.move (lx':=none) g .refl (λa _ l=>nl a l) (λa _ l=>nl a l) (λc e o=>⟨o,old c e⟩) (λc e o=>⟨o,old c e⟩) (λc m w=>(S.owns i c m).2.2.2 w) (S.vars i y k lv e1 e2))
  owns:=λi c m=>⟨⟨(S.owns i c m).1,old c (gu λq=>(S.owns i c m).2.1 (S.okf c q))⟩,λo=>(S.owns i c m).2.1 o.1,(S.owns i c m).2.2⟩
  ownd:=S.ownd
  ownx:=S.ownx
  lxr:=lr
  lxok:=λb o=>o.2
  lxf:=⟨fro _ (.inl rfl),λx c e=>fro _ (.inr ⟨x,e⟩)⟩
  lx0:=λb w=>(S.apart (hn b (cH.mut_k (P:=a.all) w cH.lexd_ cH.pb_ cH.sg_))).2.2
  fr0:=S.fr0}
theorem KT{x:Str}(T:eT C P)(R:bj (n+4) A)(E:aY (aE 21) env)(S:St C (aE 21) env ρ none ok okb og μ s)(ht:s.heap.get? C.tab=some (jn #[]))(h4:ρ[4]? =some (.dat (.str x)))(h5:∃lv,ρ[5]? =some lv)(hx:x.length+1<=4096)
  {Q:Flow->ab->Prop}(h:∀a ok' okb' og' μ' s',St C (aE 21) env (ρ.set 5 .lex) (some (a,⟨[],iB (x++"z"),1⟩)) ok' okb' og' μ' s'->aH (λb=>b=C.tab\/i8 env b) cx s s'->Q .next s'):
  ∃st,(bh 21)[1]? =some st/\ar C.M A (exec st env) Q bJ s:=by
 refine ml (H7 T.G T.gl.k T.hl T.hlam T.hb T.bi) λfdI fdL LL=>?_
 have hg:Gb C "_law_lexer" (.ref 111):=fi T.G T.gl.k.g rfl
 have hk:cV C (.ref 111):=by refine a7 LL.at_.obj λ_ ho hd=>?_;exact cV.func LL.at_.na ho hd
 refine cU h5 λlv h5=>?_
 have zu:eP (aE 21).names 4 "text" .local:=by show eP (_::_) _ _ _;repeat' constructor
 have nLex:eP (aE 21).names 5 "lexer" .cell:=by show eP (_::_) _ _ _;repeat' constructor
 have kL:nF (aE 21).names "_law_lexer" .globalImplicit:=by show nF (_::_) _ _;repeat' constructor
 refine⟨_,rfl,?_⟩
 show ar _ _ (exec (.Assign [.Name "lexer" _] (.Call (.Name "_law_lexer" _) [.BinOp (.Name "text" _) .Add (.Constant (.str "z") _ _) _] [] _) _) env) _ _ _
 refine cJ (ca (eN LL.kc E S.wd kL hg ?_ (by decide+kernel))) rfl
 show ar _ _ (dY _ (.ref 111) [] [(false,_)] []) _ _ _
 refine di (first:=[]) hk rfl (db (cR (x:=eval (.BinOp (.Name "text" _) .Add (.Constant (.str "z") _ _) _) env) (Ev.go (SE.ok (Q:=λr l=>r=.dat (.str (x++"z"))/\l=none) (SE.bin (n:=n+2) (SE.nm zu (.inl rfl) (by decide+kernel)) SE.str) ?_) R E S λv s₂ r lx₁ q rv S2 sa g2=>?_)))
 ·have e:DE.bin .Add (DE.nm 4) (DE.k (.str "z")) ρ none=some (.dat (.str (x++"z")),none):=by
   unfold DE.bin
   rw[aG h4]
   show((none:Option Va).or ((o7 (x.length+1) (.dat (.str (x++"z")))).or _)).map _=_
   unfold o7
   rw[if_pos (decide_eq_true (ah hx (by decide)))]
   rfl
  exact .of e ⟨rfl,rfl⟩
 ·refine nG λkG=>?_;obtain⟨rfl,rfl⟩:=q
  obtain⟨tx,rfl⟩:=Rd.str_inv rv
  refine kG ?_
  have ht2:s₂.heap.get? C.tab=some (jn #[]):=g2.heap _ _ (λw=>w) ht
  refine gH ⟨S2.wd,al (AZ (n:=n) LL R S2.wx ht2 (by rw[mC];exact hx)) (λv s₃ p=>?_) λ_ _ x=>x⟩
  refine nG λkG=>?_;obtain⟨a,rfl,l,g3,t3,hn⟩:=p
  refine kG ?_
  have S3:=S2.adopt ht2 t3 g3 l hn
  refine gc (lv:=.lex) (as:=[]) E S3 (nLex.at h5) (.inr rfl) ⟨rfl,a,_,rfl,rfl⟩ (λ_ m=>nomatch m) bx (λ_ _ _ m=>nomatch m) λs₄ S4 g4=>?_
  exact h a _ _ _ _ s₄ S4 (((g2.mono (λb w=>w.elim) (λ_ w=>w.elim)).trans g3 (λb w=>.inl (.inl w)) (λ_ w=>w.elim)).trans g4 (λb w=>.inl (.inr w.frw)) (λ_ w=>w.elim))
end
noncomputable def o0(is:List Int):List LV:=(bb (aE 21).names.length .un).set 0 (.dat (.list (is.map .int)))
inductive y9(is:List Int):Prop where
 |mk (ρ:List LV) (x:Str) (r1:DB.val (o0 is) none=some (.nxt,ρ,none)) (h4:ρ[4]? =some (.dat (.str x))) (h5:∃lv,ρ[5]? =some lv) (hx:x.length+1<=4096)
   (tail:∀a,∃ρ' l,DK.val (ρ.set 5 .lex) (some (a,⟨[],iB (x++"z"),1⟩))=some (.ret (.dat (.bool true)),ρ',l))
section
variable{C:Cx}{P:cg}{A:Around}{env:Env}{s s₀:ab}{n:Nat}{ρ:List LV}{ok okb:Addr->Prop}{μ:Str->Option Value}
theorem HD:∃st rest,(bh 21)[1]? =some st/\bh 21=HQ::st::rest/\(bh 21).drop 2=rest:=Y2 _ _ ⟨rfl,rfl,rfl⟩
theorem St.ws0{sc:Scope}{lx:Lx}{og:Nat->List Addr}{b:Addr}(S:St C sc env ρ lx ok okb og μ s)(w:WS env og lx b):C.h₀.get? b=none:=
 w.elim (λw=>(S.lx0 b w).1) λw=>w.elim (λw=>w.elim (λq=>q▸S.fr0.1.1) λ⟨_,e⟩=>(S.fr0.2 _ _ e).1) λ⟨i,m⟩=>(S.owns i b m).2.2.1
theorem FR{is:List Int}(T:eT C P)(R:bj 8 A)(E:aY (aE 21) env)(S:St C (aE 21) env (o0 is) none ok okb (λ_=>[]) μ s)(B:cZ (o0 is))(g0:aH (λb=>b=C.tab\/C.h₀.get? b=none) cx s₀ s)
  (ht:s.heap.get? C.tab=some (jn #[]))(p:y9 is):ar C.M A (kj (bh 21) env) (λf s'=>f=.ret (.bool true)/\aH (λb=>b=C.tab\/C.h₀.get? b=none) cx s₀ s'/\Wd C s') bJ s:=by
 refine nG λkG=>?_;obtain⟨ρ1,x,r1,h4,h5,hx,tail⟩:=p
 refine xP HD λst rest e1 e2 e3=>?_
 refine kG ?_
 rw[e2]
 refine bW (al (((DB.property (n:=6) T.gl (Ix (n:=5) T)).run _ _ _ _ _ r1) A env ok okb _ μ s R E S B) (λfl s₁ p=>?_) λ_ _ x=>x)
 refine nG λkG=>?_;obtain⟨f,ρ',lx',ok',okb',og',μ',⟨rfl,rfl,rfl⟩,fr,S1,B1,c⟩:=p
 obtain rfl:=fr.nxt
 have ht1:s₁.heap.get? C.tab=some (jn #[]):=c.g.heap _ _ (λw=>w.elim (λq=>q.elim) λw=>w.elim S.frTab λ⟨_,m⟩=>by cases m) ht
 have gx:aH (λb=>b=C.tab\/C.h₀.get? b=none) cx s₀ s₁:=g0.trans c.g (λb w=>.inl (.inr (S.ws0 w))) (λ_ w=>w.elim)
 refine a7 (KT (n:=4) T R E S1 ht1 h4 h5 hx (Q:=λfl s₂=>fl=.next/\∃a ok' okb' og' μ',St C (aE 21) env (ρ'.set 5 .lex) (some (a,⟨[],iB (x++"z"),1⟩)) ok' okb' og' μ' s₂/\aH (λb=>b=C.tab\/i8 env b) cx s₁ s₂) λa ok' okb' og' μ' s₂ S2 g2=>⟨rfl,a,ok',okb',og',μ',S2,g2⟩) λst' e4 h2=>?_
 obtain rfl:=ao (e4.symm.trans e1)
 refine kG ?_
 refine bW (al h2 (λfl s₂ p=>?_) λ_ _ x=>x)
 refine nG λkG=>?_;obtain⟨rfl,a,ok2,okb2,og2,μ2,S2,g2⟩:=p
 have B2:cZ (ρ'.set 5 .lex):=B1.set λd e=>by cases e
 have gy:aH (λb=>b=C.tab\/C.h₀.get? b=none) cx s₀ s₂:=gx.trans g2 (λb w=>.inl (w.imp id λw=>S1.ws0 (.inr (.inl w)))) (λ_ w=>w.elim)
 refine ml (tail a) λρ3 l3 t=>?_
 refine kG ?_
 rw[<-e3]
 refine al (((FS T).run _ _ _ _ _ t) A env ok2 okb2 og2 μ2 s₂ R E S2 B2) (λfl s₃ p=>?_) λ_ _ x=>x
 refine nG λkG=>?_;obtain⟨f,ρ',lx',ok',okb',og',μ',⟨rfl,rfl,rfl⟩,fr,S3,B3,c3⟩:=p
 refine kG ?_
 cases fl with
 |ret v=>
  refine⟨congrArg Flow.ret (Rd.bool_inv (show Rd _ _ _ _ from fr)),gy.trans c3.g (λb w=>.inl (.inr (S2.ws0 w))) (λ_ w=>w.elim),S3.wd⟩
 |_=>exact fr.elim
end
theorem Fz{ns:List Int}(h:WTm.holds [] PySem.Challenge.rw_sc0051_01.pre {args:=[.list (ns.map .int)]}=true):ns.length<=63:=by
 have e0:PySem.Challenge.rw_sc0051_01.pre=.and (.not (.lt (.lit (.int 63)) (.len (.arg 0)))) (.lit (.bool true)):=rfl
 rw[e0]at h
 unfold WTm.holds at h
 simp only[WTm.value]at h
 by_cases hl:(63:Int) < (ns.length:Nat)
 ·simp[W.less?,Num.less?,hl]at h
 ·exact Int.ofNat_le.mp (Int.not_lt.mp hl)
theorem Fw{P:cg}{h:Heap}{ns:List Int}:∀{vs:List Value},WellAll P h vs (ns.map .int)->dC (λ_=>True) h vs (ns.map .int):=by
 induction ns with
 |nil=>intro vs r;cases r;exact .nil
 |cons n ns ih=>
  intro vs r
  cases r with
  |cons r1 r2=>
   cases r1
   exact .cons Rd.int (ih r2)
theorem Ef(P:cg){h:Heap}(k:(hd.heap_1 P).In h):isCodeTable h 106:=by
 have e:∃o vs,(hd.heap_1 P).lookup 110=some o/\o.cls=.type "code"/\o.data=.fields vs/\vs[11]? =some (.ref 106):=Y2 _ _ ⟨rfl,rfl,rfl,rfl⟩
 refine BG e λo vs e1 e2 e3 e4=>?_
 exact Y3 110 o vs ⟨k _ _ e1,e2,e3,e4⟩
theorem KU{C:Cx}{s s':ab}(h0:C.h₀=s.heap)(hc:isCodeTable s.heap C.tab)(ht:s.heap.get? C.tab=some (jn #[]))(g:aH (λb=>b=C.tab\/C.h₀.get? b=none) cx s s')(w:Wd C s'):OldK s.heap s'.heap:=by
 have k:∀b o,b≠C.tab->s.heap.get? b=some o->s'.heap.get? b=some o:=λb o n e=>g.heap b o (λq=>q.elim n λq=>nomatch(h0▸q).symm.trans e) e
 obtain⟨ps,t⟩:=w.tab
 refine⟨λb o e=>?_,λb o e=>?_⟩
 ·by_cases n:b=C.tab
  ·subst n
   obtain rfl:=ao (e.symm.trans ht)
   exact .inr (.inl ⟨hc,rfl,#[],ps,rfl,by rw[t,Array.empty_append]⟩)
  ·exact .inl (k b o n e)
 ·by_cases n:b=C.tab
  ·exact⟨_,n▸t⟩
  ·exact⟨o,k b o n e⟩
theorem FA(args:List WData):PySem.Challenge.rw_sc0051_01.row.toRowW.claim.post args (.bool true) args=true:=by
 show(WShape.has [] (.bool true) .bool&&WTm.holds [] (.eq .res (.lit (.bool true))) {args:=args,res:=some (.bool true),after:=args})=true
 unfold WTm.holds
 simp only[WTm.value]
 decide+kernel
theorem law_holds(pl:∀is:List Int,is.length<=63->y9 is):PySem.Challenge.rw_sc0051_01.Holds:=by
 refine hd λw s₀ s₁ mg mb G Y a o pm cd doc dV kV ha ho hc hdf hm hg args vals as hpre hlay hr hw hs=>?_
 refine en (pre_splitW hpre) λp1 p2=>?_
 refine ml (hasAllW_cons p1) λd r hX=>?_;obtain rfl:=hX.1;refine oG hX λ_ q1 q2=>?_
 obtain rfl:=hasAllW_nil q2
 refine cU (hasW_list q1) λxs hX=>?_;obtain rfl:=hX.1;refine(λq3=>?_) hX.2
 obtain⟨ns,rfl⟩:=items_int q3
 have hn:=Fz p2
 have hv:∃v,vals=[v]/\Rd (λ_=>True) s₁.heap v (.list (ns.map .int)):=by
  cases hw with
  |cons r1 r2=>
   cases r2
   cases r1 with
   |list e1 e2=>exact⟨_,rfl,Rd.list ⟨_,e1⟩ trivial (Fw e2)⟩
 refine cU hv λv hX=>?_;obtain rfl:=hX.1;refine(λhrd=>?_) hX.2
 have T:=B7 PySem.Challenge.pw_sc0051_01 G Y
 refine LA (zC PySem.Challenge.pw_sc0051_01 G Y) λ_ _ _ _ _ hmg _=>?_
 cases ao (hm.symm.trans hmg)
 refine i9 (A2 (A:=callerA) (n:=8) PySem.Challenge.pw_sc0051_01 G Y hg ⟨rfl,by decide,by decide⟩ hrd λenv μ s₂ E S B g=>?_)
 have g0:aH (λb=>b=106\/s₁.heap.get? b=none) cx {s₁ with toks:=s₁.toks+1} s₂:=g.mono (λb q=>.inl (.inr (Option.eq_none_iff_forall_ne_some.mpr λo e=>absurd (aC e) (Nat.not_lt.mpr q)))) (λ_ w=>w.elim)
 refine al (FR (s₀:={s₁ with toks:=s₁.toks+1}) T (bj.deeper (n:=8) ⟨rfl,by decide,by decide⟩) E S B g0 (g.heap _ _ (Nat.not_le.mpr (aC T.G.ht)) T.G.ht) (pl ns hn)) (λf s' p=>?_) λ_ _ x=>x.elim
 obtain⟨rfl,g',w'⟩:=p
 refine⟨.inl ⟨_,.bool true,[],rfl,λ_=>rfl,.bool true,FA _,λ_=>⟨bx,λ_ m=>nomatch m⟩⟩,KU (C:=Bj PySem.Challenge.pw_sc0051_01 w s₁ mg mb) (s:={s₁ with toks:=s₁.toks+1}) rfl (Ef _ T.G.kin) T.G.ht g' w',g'.os,g'.bare (.of_eq hg)⟩
theorem eO{α:Type}{fz:Bool}{tg:Tg}{ifs:DT}{elt:DE}{enc:α->D}{p:α->Bool}{f:α->D}{I:List LV->Prop}{lx:Lx}:
  ∀(l:List α) (out:List D) (ρ:List LV),(∀x ρ,x∈l->I ρ->∃ρ1,tg.asg fz (enc x) ρ=some ρ1/\I ρ1/\ifs ρ1 lx=some (p x,lx)/\(p x=true->elt ρ1 lx=some (.dat (f x),lx)))->I ρ->out.length+(l.filter p).length<=sizeLine->
   ∃ρ',lW fz tg ifs (cF elt) (l.map enc) out ρ lx=some (out++(l.filter p).map f,ρ',lx)/\I ρ'
 |[],out,ρ,_,h,_=>⟨ρ,by simp[lW],h⟩
 |x::l,out,ρ,ht,h,hz=>by
  refine KA (ht x ρ (.head _) h) λρ1 e1 h1 e2 e3=>?_
  rw[gw]at hz
  cases hp:p x with
  |false=>
   rw[hp]at e2 hz
   simp only[cY,if_false]at hz
   refine a7 (eO l out ρ1 (λy ρ m=>ht y ρ (.tail _ m)) h1 (by assumption)) λρ' e4 h4=>?_
   refine⟨ρ',?_,h4⟩
   rw[gw,hp]
   show(tg.asg fz (enc x) ρ).bind _=_
   rw[e1]
   show(ifs ρ1 lx).bind _=_
   rw[e2]
   exact e4
  |true=>
   rw[hp]at e2 hz
   simp only[if_true,aT]at hz
   refine a7 (eO l (out++[f x]) ρ1 (λy ρ m=>ht y ρ (.tail _ m)) h1 (by simp only[au,aT,cM];exact J3 [Ql (Qa Q0 (Qs Q1 1)) Q2] (Qa (Qa Q0 (Qs (Qn 0) 1)) Q1) Q2 1 [1] Qt hz)) λρ' e4 h4=>?_
   refine⟨ρ',?_,h4⟩
   rw[gw,hp]
   show(tg.asg fz (enc x) ρ).bind _=_
   rw[e1]
   show(ifs ρ1 lx).bind _=_
   rw[e2]
   have he:cF elt out ρ1 lx=some (out++[f x],ρ1,lx):=by
    unfold cF
    rw[e3 hp]
    show(if decide (out.length<=sizeLine)=true then _ else _)=_
    rw[if_pos (decide_eq_true (by exact J3 [Ql (Qa Q0 (Qs Q2 1)) Q1] Q0 Q1 1 [1] Qt hz))]
   show(cF elt out ρ1 lx).bind _=_
   rw[he]
   simpa using e4
theorem lF{α:Type}{fz:Bool}{tg:Tg}{ifs:DT}{em:DEm}{enc:α->D}{p:α->Bool}{g:α->List D}{I:List LV->Prop}{lx:Lx}:
  ∀(l:List α) (out:List D) (ρ:List LV),(∀x ρ out,x∈l->I ρ->out.length+(g x).length<=sizeLine->∃ρ1,tg.asg fz (enc x) ρ=some ρ1/\I ρ1/\ifs ρ1 lx=some (p x,lx)/\(p x=true->∃ρ2,em out ρ1 lx=some (out++g x,ρ2,lx)/\I ρ2))->I ρ->out.length+(l.flatMap g).length<=sizeLine->
   ∃ρ',lW fz tg ifs em (l.map enc) out ρ lx=some (out++(l.filter p).flatMap g,ρ',lx)/\I ρ'
 |[],out,ρ,_,h,_=>⟨ρ,by simp[lW],h⟩
 |x::l,out,ρ,ht,h,hz=>by
  simp only[aX,au]at hz
  refine KA (ht x ρ out (.head _) h (by exact J4 [Ql (Qa Q0 (Qa Q1 Q3)) Q2] (Qa Q0 Q1) Q2 1 [1] Qt hz)) λρ1 e1 h1 e2 e3=>?_
  cases hp:p x with
  |false=>
   rw[hp]at e2
   refine a7 (lF l out ρ1 (λy ρ o m=>ht y ρ o (.tail _ m)) h1 (by exact J4 [Ql (Qa Q0 (Qa Q3 Q1)) Q2] (Qa Q0 Q1) Q2 1 [1] Qt hz)) λρ' e4 h4=>?_
   refine⟨ρ',?_,h4⟩
   rw[gw,hp]
   show(tg.asg fz (enc x) ρ).bind _=_
   rw[e1]
   show(ifs ρ1 lx).bind _=_
   rw[e2]
   exact e4
  |true=>
   rw[hp]at e2
   refine a7 (e3 hp) λρ2 e5 h5=>?_
   refine a7 (lF l (out++g x) ρ2 (λy ρ o m=>ht y ρ o (.tail _ m)) h5 (by simp only[au];exact J4 [Ql (Qa Q0 (Qa Q1 Q2)) Q3] (Qa (Qa Q0 Q1) Q2) Q3 1 [1] Qt hz)) λρ' e4 h4=>?_
   refine⟨ρ',?_,h4⟩
   rw[gw,hp]
   show(tg.asg fz (enc x) ρ).bind _=_
   rw[e1]
   show(ifs ρ1 lx).bind _=_
   rw[e2]
   show(em out ρ1 lx).bind _=_
   rw[e5]
   simpa using e4
theorem sr{σ α:Type}{tg:Tg}{b:DS}{enc:α->D}{step:σ->α->σ}{R:List α->σ->List LV->Prop}{lx:Lx}:
  ∀(l pre:List α) (s:σ) (ρ:List LV),(∀pre' x post s ρ,pre++l=pre'++x::post->R pre' s ρ->∃ρ1 ρ2,tg.asg true (enc x) ρ=some ρ1/\b ρ1 lx=some (.nxt,ρ2,lx)/\R (pre'++[x]) (step s x) ρ2)->R pre s ρ->
   ∃ρ',lK tg b (l.map enc) ρ lx=some (.nxt,ρ',lx)/\R (pre++l) (l.foldl step s) ρ'
 |[],pre,s,ρ,_,h=>⟨ρ,rfl,by simpa using h⟩
 |x::l,pre,s,ρ,ht,h=>by
  refine xP (ht pre x l s ρ rfl h) λρ1 ρ2 e1 e2 h2=>?_
  refine a7 (sr l (pre++[x]) (step s x) ρ2 (λpre' y post s ρ e=>ht pre' y post s ρ (by simpa using e)) h2) λρ' e3 h3=>?_
  refine⟨ρ',?_,by simpa using h3⟩
  show(tg.asg true (enc x) ρ).bind _=_
  rw[e1]
  show(b ρ1 lx).bind _=_
  rw[e2]
  exact e3
noncomputable def bQ(p:Int × Int):D:=.tuple [.int p.1,.int p.2]
noncomputable def r9(a b:Int × Int):Bool:=m7 a.1 b.1&&m7 b.2 a.2
noncomputable def vI(a b:Int × Int):Bool:=m7 a.1 b.1&&(m7 b.1 a.2&&m7 a.2 b.2)
noncomputable def eG(q:Int × Int->Int × Int->Bool)(l:List (Int × Int)):Nat:=(l.map λa=>l.countP (q a)).sum
theorem rX{lx:Lx}{l:List (Int × Int)}{u v:LV}{q:Int × Int->Int × Int->Bool}{t:DT}(hz:l.length<=64)
  (ht:∀a b:Int × Int,t [.un,.dat (.int a.1),.dat (.int a.2),.dat (.int b.1),.dat (.int b.2),.dat (.list (l.map bQ))] lx=some (q a b,lx)):
  ∃out,cw [none,none,none,none,none,some 0] (DI.val (DE.nm 0)) (Tg.tup [1,2]) DT.tt (o9 (DI.val (DE.nm 5)) (Tg.tup [3,4]) t (DE.k (.int 1))) [.dat (.list (l.map bQ)),u,v] lx=some (out,lx)/\out.length=eG q l/\out.length<=sizeLine:=by
 let L:LV:=.dat (.list (l.map bQ))
 have hb:(l.flatMap λa=>(l.filter (q a)).map λ_=>aw 1).length<=64 * 64:=by
  rw[List.length_flatMap]
  have h1:∀m:List (Int × Int),(m.map λa=>((l.filter (q a)).map λ_=>aw 1).length).sum<=m.length * 64:=by
   intro m
   induction m with
   |nil=>simp
   |cons a m ih=>
    simp only[bX,Ao,aT,af]at ih ⊢
    have:=bP (q a) l
    exact J4 [Ql Q3 (Qn 64),Ql Q0 Q3,Ql Q1 (.mulR Q2 64)] (Qa Q0 Q1) (.mulR (Qs Q2 1) 64) 1 [1,1,1] Qt hz this ih
  have:=h1 l
  have h2:l.length * 64<=64 * 64:=Nat.mul_le_mul_right _ hz
  exact J2 [Ql Q1 (Qn 64),Ql Q0 (.mulR Q1 64)] Q0 (Qm 64 (Qn 64)) 1 [64,1] Qt hz this
 have hsl:64 * 64<=sizeLine:=by decide
 refine nG λkG=>?_;obtain⟨ρ',e,_⟩:=lF (fz:=true) (tg:=Tg.tup [1,2]) (ifs:=DT.tt) (em:=o9 (DI.val (DE.nm 5)) (Tg.tup [3,4]) t (DE.k (.int 1))) (enc:=bQ) (p:=λ_=>true) (g:=λa=>(l.filter (q a)).map λ_=>aw 1)
  (I:=λρ=>∃a b c d,ρ=[.un,a,b,c,d,L]) (lx:=lx) l [] [.un,.un,.un,.un,.un,L] (λx ρ out _ ⟨a,b,c,d,hρ⟩ hlen=>by
   subst hρ
   refine⟨[.un,.dat (.int x.1),.dat (.int x.2),c,d,L],rfl,⟨_,_,_,_,rfl⟩,rfl,λ_=>?_⟩
   obtain⟨ρ2,e2,c',d',h2⟩:=eO (fz:=true) (tg:=Tg.tup [3,4]) (ifs:=t) (elt:=DE.k (.int 1)) (enc:=bQ) (p:=q x) (f:=λ_=>aw 1)
    (I:=λρ=>∃c d,ρ=[.un,.dat (.int x.1),.dat (.int x.2),c,d,L]) (lx:=lx) l out [.un,.dat (.int x.1),.dat (.int x.2),c,d,L] (λy ρ _ ⟨c,d,hρ⟩=>by
     subst hρ
     exact⟨[.un,.dat (.int x.1),.dat (.int x.2),.dat (.int y.1),.dat (.int y.2),L],rfl,⟨_,_,rfl⟩,ht x y,λ_=>rfl⟩) ⟨_,_,rfl⟩ (by simpa using hlen)
   exact⟨ρ2,e2,_,_,_,_,h2⟩) ⟨_,_,_,_,rfl⟩ (by simp only[cM,cE];exact bo)
 refine kG ?_
 have hf:l.filter (λ_=>true)=l:=List.filter_eq_self.mpr λ_ _=>rfl
 rw[hf,bK]at e
 refine⟨l.flatMap λa=>(l.filter (q a)).map λ_=>aw 1,?_,?_⟩
 ·show(lW true (Tg.tup [1,2]) DT.tt (o9 (DI.val (DE.nm 5)) (Tg.tup [3,4]) t (DE.k (.int 1))) (l.map bQ) [] [.un,.un,.un,.un,.un,L] lx).map _=_
  rw[e]
  rfl
 ·exact⟨by simp[eG,List.length_flatMap,List.countP_eq_length_filter],by exact bo⟩
theorem C5{a b:Int}{i j:Nat}{ρ:List LV}{lx:Lx}(h1:ρ[i]? =some (.dat (.int a)))(h2:ρ[j]? =some (.dat (.int b))):DT.cmp .Lt (DE.nm i) (DE.nm j) ρ lx=some (decide (a < b),lx):=by
 unfold DT.cmp DE.nm
 rw[h1]
 show(ρ[j]?.bind λlv=>lv.va.map λr=>(r,lx)).bind _=_
 rw[h2]
 rfl
theorem HX{a b:Int × Int}{L:LV}{lx:Lx}:(((DT.cmp .Lt (DE.nm 1) (DE.nm 3)).and ((DT.cmp .Lt (DE.nm 4) (DE.nm 2)).and DT.tt)).and DT.tt) [.un,.dat (.int a.1),.dat (.int a.2),.dat (.int b.1),.dat (.int b.2),L] lx=some (r9 a b,lx):=by
 unfold DT.and
 rw[C5 (a:=a.1) (b:=b.1) rfl rfl]
 show((if decide (a.1 < b.1)=true then(DT.cmp .Lt (DE.nm 4) (DE.nm 2) _ lx).bind _ else some (false,lx)).bind _)=_
 rw[C5 (a:=b.2) (b:=a.2) rfl rfl]
 unfold r9
 rw[ft,ft]
 cases decide (a.1 < b.1)<;>cases decide (b.2 < a.2)<;>rfl
theorem Gm{a b:Int × Int}{L:LV}{lx:Lx}:((DT.chain (DE.nm 1) (DC.more .Lt (DE.nm 3) (DC.more .Lt (DE.nm 2) (DC.one .Lt (DE.nm 4))))).and DT.tt) [.un,.dat (.int a.1),.dat (.int a.2),.dat (.int b.1),.dat (.int b.2),L] lx=some (vI a b,lx):=by
 show((if decide (a.1 < b.1)=true then(if decide (b.1 < a.2)=true then some (decide (a.2 < b.2),lx)else some (false,lx))else some (false,lx)).bind _)=_
 unfold vI
 rw[ft,ft,ft]
 cases decide (a.1 < b.1)<;>cases decide (b.1 < a.2)<;>cases decide (a.2 < b.2)<;>rfl
theorem xa{f:List LV->Lx->Option (List D × Lx)}{ρ:List LV}{lx:Lx}{out:List D}(h:f ρ lx=some (out,lx))(hz:out.length<=sizeLine):DE.call lenF (DL.cons (DE.comp f) DL.nil) ρ lx=some (.dat (.int out.length),lx):=by
 unfold DE.call DL.cons DE.comp
 rw[h]
 show((if decide (out.length<=sizeLine)=true then some (Va.dat (.int out.length))else none).map λv=>(v,lx))=_
 rw[if_pos (decide_eq_true hz)]
 rfl
theorem CM{l:List (Int × Int)}{lx:Lx}(hz:l.length<=64):fPairs [.dat (.list (l.map bQ))] lx=some (.dat (.tuple [.int (eG r9 l),.int (eG vI l)]),lx):=by
 refine jH (rX (lx:=lx) (l:=l) (u:=.un) (v:=.un) hz λa b=>HX) λo1 e1 n1 z1=>?_
 refine jH (rX (lx:=lx) (l:=l) (u:=.dat (.int (eG r9 l))) (v:=.un) hz λa b=>Gm) λo2 e2 n2 z2=>?_
 have f1:=xa e1 z1
 have f2:=xa e2 z2
 rw[n1]at f1
 rw[n2]at f2
 have s1:=jB (i:=1) f1 (by simp)
 have g1:DE.nm 1 [.dat (.list (l.map bQ)),.dat (.int (eG r9 l)),.un] lx=some (.dat (.int (eG r9 l)),lx):=rfl
 have s2:=mG (E2 g1 f2)
 have key:=(bp (b:=DS.cons _ DS.nil) s1).trans (ef s2)
 unfold fPairs yK dZ
 dsimp only
 show(v8 _ _)=_
 have key':=congrArg (λz=>v8 z λp=>match p.fst with|Fl.ret r=>some (AV false r,p.snd.snd)|Fl.nxt=>some (.dat .none,p.snd.snd)|x=>none) key
 exact key'
noncomputable def ko(L:List Int)(x:Int)(lo hi:Nat)(m:LV):List LV:=[.dat (.list (L.map .int)),.dat (.int x),.dat (.int lo),.dat (.int hi),.dat .none,m,.un,.un]
theorem u9{L:List Int}{x:Int}{lx:Lx}{b:DS}{P:Nat->Bool}{n c:Nat}(hc:∀i,i < n->P i=decide (i < c))
  (turn:∀lo hi m,lo < hi->hi<=n->b (ko L x lo hi m) lx=some (.nxt,if P ((lo+hi) / 2)=true then ko L x ((lo+hi) / 2+1) hi (.dat (.int ((lo+hi) / 2:Nat)))else ko L x lo ((lo+hi) / 2) (.dat (.int ((lo+hi) / 2:Nat))),lx)):
  ∀(fuel lo hi:Nat) (m:LV),lo<=c->c<=hi->hi<=n->hi - lo < fuel->∃m',jX (DT.cmp .Lt (DE.nm 2) (DE.nm 3)) b fuel (ko L x lo hi m) lx=some (.nxt,ko L x c c m',lx)
 |0,lo,hi,m,h1,h2,h3,h4=>absurd h4 (et _)
 |fuel+1,lo,hi,m,h1,h2,h3,h4=>by
  have ht:DT.cmp .Lt (DE.nm 2) (DE.nm 3) (ko L x lo hi m) lx=some (decide ((lo:Int) < (hi:Int)),lx):=C5 rfl rfl
  unfold jX
  rw[ht]
  by_cases hlt:lo < hi
  ·have e1:decide ((lo:Int) < (hi:Int))=true:=decide_eq_true (by exact Int.ofNat_lt.mpr (hlt))
   rw[e1]
   have hmid:(lo+hi) / 2 < n:=by exact KM hlt h3
   have tn:=turn lo hi m hlt h3
   cases hp:P ((lo+hi) / 2)with
   |true=>
    rw[hp]at tn
    have hq:=(hc _ hmid).symm.trans hp
    have:=of_decide_eq_true hq
    obtain⟨m',e⟩:=u9 hc turn fuel ((lo+hi) / 2+1) hi (.dat (.int ((lo+hi) / 2:Nat))) (by exact‹_›) h2 h3 (by exact La h4 hlt)
    refine⟨m',?_⟩
    show(b (ko L x lo hi m) lx).bind _=_
    rw[tn]
    exact e
   |false=>
    rw[hp]at tn
    have hq:=(hc _ hmid).symm.trans hp
    have:=of_decide_eq_false hq
    obtain⟨m',e⟩:=u9 hc turn fuel lo ((lo+hi) / 2) (.dat (.int ((lo+hi) / 2:Nat))) h1 (by exact Nat.not_lt.mp ‹_›) (by exact bf ‹_›) (by exact K9 h4 hlt)
    refine⟨m',?_⟩
    show(b (ko L x lo hi m) lx).bind _=_
    rw[tn]
    exact e
  ·have e1:decide ((lo:Int) < (hi:Int))=false:=decide_eq_false (by exact λt=>hlt (Int.ofNat_lt.mp t))
   rw[e1]
   have:lo=c:=by exact eu (h1) (ah h2 (bI hlt))
   have:hi=c:=by exact eu (J3 [Qe Q2 Q1,Ql Q0 Q2] Q0 Q1 1 [1,1] Qt this (bI hlt)) (h2)
   subst this
   subst lo
   exact⟨m,rfl⟩
theorem C2{L:List Int}{x:Int}{lo hi:Nat}{m:LV}{lx:Lx}:DE.bin .FloorDiv (DE.bin .Add (DE.nm 2) (DE.nm 3)) (DE.k (.int 2)) (ko L x lo hi m) lx=some (.dat (.int ((lo+hi) / 2:Nat)),lx):=by
 show(qT .FloorDiv (.dat (.int ((lo:Int)+hi))) (.dat (.int 2))).map (λz=>(z,lx))=_
 have e:qT .FloorDiv (.dat (.int ((lo:Int)+hi))) (.dat (.int 2))=some (.dat (.int (((lo:Int)+hi).fdiv 2))):=rfl
 rw[e,Int.fdiv_eq_ediv_of_nonneg _ (by exact bN _)]
 show some (Va.dat (aw (((lo:Int)+hi) / 2)),lx)=_
 have:((lo:Int)+hi) / 2=(((lo+hi) / 2:Nat):Int):=by exact rfl
 rw[this]
theorem jb{k n:Nat}(h:k < n):cP (k:Int) n=some k:=by
 unfold cP
 have h0:¬((k:Int) < 0):=by exact nofun
 simp only[h0,if_false]
 have h1:(decide ((0:Int)<=k)&&decide ((k:Int) < n))=true:=by
  rw[aI];exact⟨decide_eq_true (by exact Int.not_lt.mp ‹_›),decide_eq_true (by exact Int.ofNat_lt.mpr (h))⟩
 rw[if_pos h1];rfl
theorem zD{L:List Int}{x v:Int}{lo hi k:Nat}{lx:Lx}(h:L[k]? =some v)(hn:L.length<=64):DE.item (DE.nm 0) (DE.nm 5) (ko L x lo hi (.dat (.int k))) lx=some (.dat (.int v),lx):=by
 have hk:k < L.length:=(List.getElem?_eq_some_iff.mp h).1
 have e:jt (.list (L.map .int)) (k:Int)=some (.int v):=by
  show(cP (k:Int) (L.map aw).length).bind ((L.map aw)[·]?)=_
  rw[af,jb hk]
  show(L.map aw)[k]? =_
  rw[aW,h];rfl
 have hg:∀B:Int,64<=B->decide (-B<=(k:Int)/\(k:Int) < B)=true:=λB hB=>decide_eq_true (by exact⟨dA (Av (dA (by decide) hB)) (bN k),ij (Int.ofNat_lt.mpr (ay hk hn)) hB⟩)
 have g:=hg (2 ^ 63) (by decide)
 unfold DE.item
 have n0:DE.nm 0 (ko L x lo hi (.dat (.int k))) lx=some (.dat (.list (L.map .int)),lx):=rfl
 have n5:DE.nm 5 (ko L x lo hi (.dat (.int k))) lx=some (.dat (.int k),lx):=rfl
 rw[n0,ac,n5,ac]
 simp only[Va.d,ac,dM,e,g,if_true,Va.like]
noncomputable def xD:DS:=DS.cons (DS.asg 5 (DE.bin .FloorDiv (DE.bin .Add (DE.nm 2) (DE.nm 3)) (DE.k (.int 2)))) (DS.cons (DS.ite (DT.cmp .Lt (DE.item (DE.nm 0) (DE.nm 5)) (DE.nm 1)) (DS.cons (DS.asg 2 (DE.bin .Add (DE.nm 5) (DE.k (.int 1)))) DS.nil) (DS.cons (DS.asg 3 (DE.nm 5)) DS.nil)) DS.nil)
noncomputable def uD(L:List Int)(x:Int)(i:Nat):Bool:=match L[i]? with
 |some v=>decide (v < x)
 |none=>false
theorem Jt{L:List Int}{x:Int}{lx:Lx}(hn:L.length<=64)(lo hi:Nat)(m:LV)(h1:lo < hi)(h2:hi<=L.length):
  xD (ko L x lo hi m) lx=some (.nxt,if uD L x ((lo+hi) / 2)=true then ko L x ((lo+hi) / 2+1) hi (.dat (.int ((lo+hi) / 2:Nat)))else ko L x lo ((lo+hi) / 2) (.dat (.int ((lo+hi) / 2:Nat))),lx):=by
 have hm:(lo+hi) / 2 < L.length:=by exact KM h1 h2
 obtain⟨v,hv⟩:∃v,L[(lo+hi) / 2]? =some v:=⟨_,aD hm⟩
 unfold xD
 rw[bp (jB (C2 (L:=L) (x:=x) (lo:=lo) (hi:=hi) (m:=m) (lx:=lx)) (by simp[ko]))]
 show DS.cons _ _ (ko L x lo hi (.dat (.int ((lo+hi) / 2:Nat)))) lx=_
 have hb:uD L x ((lo+hi) / 2)=decide (v < x):=by unfold uD;rw[hv]
 have ht:DT.cmp .Lt (DE.item (DE.nm 0) (DE.nm 5)) (DE.nm 1) (ko L x lo hi (.dat (.int ((lo+hi) / 2:Nat)))) lx=some (decide (v < x),lx):=ke (zD (lo:=lo) (hi:=hi) hv hn) (r2:=.dat (.int x)) rfl rfl
 rw[hb]
 cases hd:decide (v < x)with
 |true=>
  rw[hd]at ht
  have e:=d9 (a:=DS.cons (DS.asg 2 (DE.bin .Add (DE.nm 5) (DE.k (.int 1)))) DS.nil) (b:=DS.cons (DS.asg 3 (DE.nm 5)) DS.nil) ht
  exact(bp (e.trans rfl)).trans rfl
 |false=>
  rw[hd]at ht
  have e:=dW (a:=DS.cons (DS.asg 2 (DE.bin .Add (DE.nm 5) (DE.k (.int 1)))) DS.nil) (b:=DS.cons (DS.asg 3 (DE.nm 5)) DS.nil) ht
  exact(bp (e.trans rfl)).trans rfl
theorem GC{L:List Int}{x:Int}{lx:Lx}{c:Nat}(hn:L.length<=32)(hcl:c<=L.length)(hc:∀i,i < L.length->uD L x i=decide (i < c)):fBisL [.bor (.list (L.map .int)),.dat (.int x)] lx=some (.dat (.int c),lx):=by
 let ρ0:List LV:=[.dat (.list (L.map .int)),.dat (.int x),.dat (.int 0),.dat .none,.dat .none,.un,.un,.un]
 have t1:DT.cmp .Lt (DE.nm 2) (DE.k (.int 0)) ρ0 lx=some (false,lx):=rfl
 have t2:DT.cmp .Is (DE.nm 3) (DE.k .none) ρ0 lx=some (true,lx):=rfl
 have hl:DE.call lenF (DL.cons (DE.nm 0) DL.nil) ρ0 lx=some (.dat (.int L.length),lx):=by
  show((if decide ((L.map aw).length<=sizeLine)=true then some (Va.dat (aw ((L.map aw).length:Nat)))else none).map λv=>(v,lx))=_
  have h4:(32:Nat)<=sizeLine:=by decide
  rw[if_pos (decide_eq_true (by rw[af];exact bo)),af]
  rfl
 have t3:DT.cmp .Is (DE.nm 4) (DE.k .none) (ko L x 0 L.length .un) lx=some (true,lx):=rfl
 obtain⟨m',e⟩:=u9 (lx:=lx) (b:=xD) hc (λlo hi m h1 h2=>Jt (by exact bo) lo hi m h1 h2) 64 0 L.length .un (bH _) hcl (ai _) (by exact du hn (by decide))
 have s3:DS.while 64 (DT.cmp .Lt (DE.nm 2) (DE.nm 3)) xD (ko L x 0 L.length .un) lx=some (.nxt,ko L x c c m',lx):=e
 have a1:∀a:DS,DS.ite (DT.cmp .Lt (DE.nm 2) (DE.k (.int 0))) a DS.nil ρ0 lx=some (.nxt,ρ0,lx):=λa=>(dW t1).trans rfl
 have a2:DS.ite (DT.cmp .Is (DE.nm 3) (DE.k .none)) (DS.cons (DS.asg 3 (DE.call lenF (DL.cons (DE.nm 0) DL.nil))) DS.nil) DS.nil ρ0 lx=some (.nxt,ko L x 0 L.length .un,lx):=(d9 t2).trans ((bp (jB hl (by simp[ρ0]))).trans rfl)
 have a3:∀b:DS,DS.ite (DT.cmp .Is (DE.nm 4) (DE.k .none)) (DS.cons (DS.while 64 (DT.cmp .Lt (DE.nm 2) (DE.nm 3)) xD) DS.nil) b (ko L x 0 L.length .un) lx=some (.nxt,ko L x c c m',lx):=λb=>(d9 t3).trans ((bp s3).trans rfl)
 have a4:DS.ret (DE.nm 2) (ko L x c c m') lx=some (.ret (.dat (.int c)),ko L x c c m',lx):=rfl
 have key:=λa b=>(bp (b:=DS.cons _ (DS.cons _ (DS.cons _ DS.nil))) (a1 a)).trans ((bp (b:=DS.cons _ (DS.cons _ DS.nil)) a2).trans ((bp (b:=DS.cons _ DS.nil) (a3 b)).trans (ef a4)))
 show dZ true 8 [0,1,2,3,4] zI.val [.bor (.list (L.map .int)),.dat (.int x),.dat (.int 0),.dat .none,.dat .none] lx=_
 refine iv (r:=.dat (.int c)) (ρ':=ko L x c c m') rfl ?_
 unfold zI
 dsimp only
 exact key _ _
noncomputable def xC:DS:=DS.cons (DS.asg 5 (DE.bin .FloorDiv (DE.bin .Add (DE.nm 2) (DE.nm 3)) (DE.k (.int 2)))) (DS.cons (DS.ite (DT.cmp .Lt (DE.nm 1) (DE.item (DE.nm 0) (DE.nm 5))) (DS.cons (DS.asg 3 (DE.nm 5)) DS.nil) (DS.cons (DS.asg 2 (DE.bin .Add (DE.nm 5) (DE.k (.int 1)))) DS.nil)) DS.nil)
noncomputable def qh(L:List Int)(x:Int)(i:Nat):Bool:=match L[i]? with
 |some v=>!decide (x < v)
 |none=>false
theorem Js{L:List Int}{x:Int}{lx:Lx}(hn:L.length<=64)(lo hi:Nat)(m:LV)(h1:lo < hi)(h2:hi<=L.length):
  xC (ko L x lo hi m) lx=some (.nxt,if qh L x ((lo+hi) / 2)=true then ko L x ((lo+hi) / 2+1) hi (.dat (.int ((lo+hi) / 2:Nat)))else ko L x lo ((lo+hi) / 2) (.dat (.int ((lo+hi) / 2:Nat))),lx):=by
 have hm:(lo+hi) / 2 < L.length:=by exact KM h1 h2
 obtain⟨v,hv⟩:∃v,L[(lo+hi) / 2]? =some v:=⟨_,aD hm⟩
 unfold xC
 rw[bp (jB (C2 (L:=L) (x:=x) (lo:=lo) (hi:=hi) (m:=m) (lx:=lx)) (by simp[ko]))]
 show DS.cons _ _ (ko L x lo hi (.dat (.int ((lo+hi) / 2:Nat)))) lx=_
 have hb:qh L x ((lo+hi) / 2)=!decide (x < v):=by unfold qh;rw[hv]
 have ht:DT.cmp .Lt (DE.nm 1) (DE.item (DE.nm 0) (DE.nm 5)) (ko L x lo hi (.dat (.int ((lo+hi) / 2:Nat)))) lx=some (decide (x < v),lx):=ke (r1:=.dat (.int x)) (l1:=lx) rfl (zD (lo:=lo) (hi:=hi) hv hn) rfl
 rw[hb]
 cases hd:decide (x < v)with
 |true=>
  rw[hd]at ht
  have e:=d9 (a:=DS.cons (DS.asg 3 (DE.nm 5)) DS.nil) (b:=DS.cons (DS.asg 2 (DE.bin .Add (DE.nm 5) (DE.k (.int 1)))) DS.nil) ht
  exact(bp (e.trans rfl)).trans rfl
 |false=>
  rw[hd]at ht
  have e:=dW (a:=DS.cons (DS.asg 3 (DE.nm 5)) DS.nil) (b:=DS.cons (DS.asg 2 (DE.bin .Add (DE.nm 5) (DE.k (.int 1)))) DS.nil) ht
  exact(bp (e.trans rfl)).trans rfl
theorem Em{L:List Int}{x:Int}{lx:Lx}{c lo:Nat}(hn:L.length<=32)(hlo:lo<=c)(hcl:c<=L.length)(hc:∀i,i < L.length->qh L x i=decide (i < c)):∃ρ',qw.val [.dat (.list (L.map .int)),.dat (.int x),.dat (.int lo),.dat .none,.dat .none,.un,.un,.un] lx=some (.ret (.dat (.int c)),ρ',lx):=by
 let ρ0:List LV:=[.dat (.list (L.map .int)),.dat (.int x),.dat (.int lo),.dat .none,.dat .none,.un,.un,.un]
 have t1:DT.cmp .Lt (DE.nm 2) (DE.k (.int 0)) ρ0 lx=some (false,lx):=ke (r1:=.dat (.int lo)) (l1:=lx) rfl (r2:=.dat (.int 0)) rfl (congrArg some (decide_eq_false (by exact nofun)))
 have t2:DT.cmp .Is (DE.nm 3) (DE.k .none) ρ0 lx=some (true,lx):=rfl
 have hl:DE.call lenF (DL.cons (DE.nm 0) DL.nil) ρ0 lx=some (.dat (.int L.length),lx):=by
  show((if decide ((L.map aw).length<=sizeLine)=true then some (Va.dat (aw ((L.map aw).length:Nat)))else none).map λv=>(v,lx))=_
  have h4:(32:Nat)<=sizeLine:=by decide
  rw[if_pos (decide_eq_true (by rw[af];exact bo)),af]
  rfl
 have t3:DT.cmp .Is (DE.nm 4) (DE.k .none) (ko L x lo L.length .un) lx=some (true,lx):=rfl
 obtain⟨m',e⟩:=u9 (lx:=lx) (b:=xC) hc (λlo hi m h1 h2=>Js (by exact bo) lo hi m h1 h2) 64 lo L.length .un hlo hcl (ai _) (by exact du (ah (xY _ _) hn) (by decide))
 have s3:DS.while 64 (DT.cmp .Lt (DE.nm 2) (DE.nm 3)) xC (ko L x lo L.length .un) lx=some (.nxt,ko L x c c m',lx):=e
 have a1:∀a:DS,DS.ite (DT.cmp .Lt (DE.nm 2) (DE.k (.int 0))) a DS.nil ρ0 lx=some (.nxt,ρ0,lx):=λa=>(dW t1).trans rfl
 have a2:DS.ite (DT.cmp .Is (DE.nm 3) (DE.k .none)) (DS.cons (DS.asg 3 (DE.call lenF (DL.cons (DE.nm 0) DL.nil))) DS.nil) DS.nil ρ0 lx=some (.nxt,ko L x lo L.length .un,lx):=(d9 t2).trans ((bp (jB hl (by simp[ρ0]))).trans rfl)
 have a3:∀b:DS,DS.ite (DT.cmp .Is (DE.nm 4) (DE.k .none)) (DS.cons (DS.while 64 (DT.cmp .Lt (DE.nm 2) (DE.nm 3)) xC) DS.nil) b (ko L x lo L.length .un) lx=some (.nxt,ko L x c c m',lx):=λb=>(d9 t3).trans ((bp s3).trans rfl)
 have a4:DS.ret (DE.nm 2) (ko L x c c m') lx=some (.ret (.dat (.int c)),ko L x c c m',lx):=rfl
 have key:=λa b=>(bp (b:=DS.cons _ (DS.cons _ (DS.cons _ DS.nil))) (a1 a)).trans ((bp (b:=DS.cons _ (DS.cons _ DS.nil)) a2).trans ((bp (b:=DS.cons _ DS.nil) (a3 b)).trans (ef a4)))
 refine⟨ko L x c c m',?_⟩
 unfold qw
 dsimp only
 exact key _ _
theorem wP:∀n,n<=64->(dp 0 (n:Nat) 1&&decide (0<=aV 0 (n:Nat) 1))=true/\(aV 0 (n:Nat) 1).toNat=n:=by
 have h:∀n:Fin 65,(dp 0 (n.val:Nat) 1&&decide (0<=aV 0 (n.val:Nat) 1))=true/\(aV 0 (n.val:Nat) 1).toNat=n.val:=by decide+kernel
 exact λn hn=>h ⟨n,by exact dc ‹_›⟩
theorem kH{n:Nat}{a:DE}{ρ:List LV}{lx:Lx}(h:a ρ lx=some (.dat (.int n),lx))(hn:n<=64):DI.range (DL.cons a DL.nil) ρ lx=some (true,(aM n).map λi=>aw (i:Nat),lx):=by
 have e:DL.cons a DL.nil ρ lx=some ([.dat (.int n)],lx):=by
  unfold DL.cons
  rw[h];rfl
 refine(λh1 h2=>?_) (wP n hn).1 (wP n hn).2
 unfold DI.range
 rw[e,ac]
 have e2:jl [.dat (.int n)]=some (0,(n:Int),1):=rfl
 rw[e2,ac]
 rw[if_pos h1]
 unfold n6
 rw[h2]
 have:(λ(i:Nat)=>aw (0+(i:Int) * 1))=λi=>aw (i:Nat):=by funext i;simp
 rw[this]
theorem vp{a i:DE}{r:Va}{ds:List D}{d:D}{k:Nat}{ρ:List LV}{lx:Lx}(ha:a ρ lx=some (r,lx))(hr:r.d=some (.list ds))(hi:i ρ lx=some (.dat (.int k),lx))(hd:ds[k]? =some d)(hz:k<=64):DE.item a i ρ lx=some (r.like d,lx):=by
 have hk:k < ds.length:=(List.getElem?_eq_some_iff.mp hd).1
 have e:jt (.list ds) (k:Int)=some d:=by
  show(cP (k:Int) ds.length).bind (ds[·]?)=_
  rw[jb hk]
  exact hd
 have hg:∀B:Int,65<=B->decide (-B<=(k:Int)/\(k:Int) < B)=true:=λB hB=>decide_eq_true (by exact⟨dA (Av (dA (by decide) hB)) (bN k),ij (Int.ofNat_lt.mpr (dc hz)) hB⟩)
 have g:=hg (2 ^ 63) (by decide)
 unfold DE.item
 rw[ha,ac,hi,ac]
 simp only[hr,ac,dM,e,g,if_true]
noncomputable def iG(l sz:List Int)(k:Nat):Int:=1+oW (0::((aM k).filter λj=>decide (l.getD j 0 < l.getD k 0)).map λj=>sz.getD j 0)
theorem AY{l sz:List Int}{k:Nat}{lx:Lx}{u v w:LV}(hk:k < l.length)(hs:sz.length=k)(hl:l.length<=64):
  cw [none,none,some 2,some 0,some 1] (DI.range (DL.cons (DE.nm 2) DL.nil)) (Tg.nm 1) ((DT.cmp .Lt (DE.item (DE.nm 3) (DE.nm 1)) (DE.item (DE.nm 3) (DE.nm 2))).and DT.tt) (cF (DE.item (DE.nm 4) (DE.nm 1)))
   [.dat (.list (l.map .int)),.own (sz.map .int),.dat (.int k),u,v,w] lx=some ((((aM k).filter λj=>decide (l.getD j 0 < l.getD k 0)).map λj=>aw (sz.getD j 0)),lx):=by
 let ρc:LV->List LV:=λu=>[.un,u,.dat (.int k),.dat (.list (l.map .int)),.bor (.list (sz.map .int))]
 have hr:=kH (a:=DE.nm 2) (n:=k) (ρ:=[.dat (.list (l.map .int)),.own (sz.map .int),.dat (.int k),u,v,w]) (lx:=lx) rfl (by exact J2 [Ql (Qs Q0 1) Q1,Ql Q1 (Qn 64)] Q0 (Qn 64) 1 [1,1] Qt hk hl)
 have at_:∀(m:List Int) (j:Nat),j < m.length->(m.map aw)[j]? =some (.int (m.getD j 0)):=λm j h=>by
  rw[aW,aD h,bA,aD h];rfl
 obtain⟨ρ',e,_⟩:=eO (fz:=true) (tg:=Tg.nm 1) (ifs:=(DT.cmp .Lt (DE.item (DE.nm 3) (DE.nm 1)) (DE.item (DE.nm 3) (DE.nm 2))).and DT.tt) (elt:=DE.item (DE.nm 4) (DE.nm 1)) (enc:=λ(j:Nat)=>aw (j:Nat)) (p:=λj=>decide (l.getD j 0 < l.getD k 0)) (f:=λj=>aw (sz.getD j 0))
  (I:=λρ=>∃u,ρ=ρc u) (lx:=lx) (aM k) [] (ρc .un) (λj ρ hj ⟨u,hρ⟩=>by
   subst hρ
   have hj':j < k:=List.mem_range.mp hj
   refine⟨ρc (.dat (.int j)),rfl,⟨_,rfl⟩,?_,λ_=>?_⟩
   ·have i1:DE.item (DE.nm 3) (DE.nm 1) (ρc (.dat (.int j))) lx=some (.dat (.int (l.getD j 0)),lx):=vp (r:=.dat (.list (l.map .int))) rfl rfl rfl (at_ l j (by exact J3 [Ql (Qs Q0 1) Q2,Ql (Qs Q2 1) Q1] (Qs Q0 1) Q1 1 [1,1] Qt hj' hk)) (by exact J3 [Ql (Qs Q0 1) Q1,Ql (Qs Q1 1) Q2,Ql Q2 (Qn 64)] Q0 (Qn 64) 1 [1,1,1] Qt hj' hk hl)
    have i2:DE.item (DE.nm 3) (DE.nm 2) (ρc (.dat (.int j))) lx=some (.dat (.int (l.getD k 0)),lx):=vp (r:=.dat (.list (l.map .int))) rfl rfl rfl (at_ l k hk) (by exact J2 [Ql (Qs Q0 1) Q1,Ql Q1 (Qn 64)] Q0 (Qn 64) 1 [1,1] Qt hk hl)
    have c:=ke (op:=.Lt) i1 i2 (z:=decide (l.getD j 0 < l.getD k 0)) rfl
    unfold DT.and
    rw[c,ac]
    cases decide (l.getD j 0 < l.getD k 0)<;>rfl
   ·exact vp (r:=.bor (.list (sz.map .int))) rfl rfl rfl (at_ sz j (by exact J3 [Ql (Qs Q0 1) Q2,Qe Q1 Q2] (Qs Q0 1) Q1 1 [1,.negSucc 0] Qt hj' hs)) (by exact J3 [Ql (Qs Q0 1) Q1,Ql (Qs Q1 1) Q2,Ql Q2 (Qn 64)] Q0 (Qn 64) 1 [1,1,1] Qt hj' hk hl)) ⟨_,rfl⟩ (by
    have h1:=bP (λj=>decide (l.getD j 0 < l.getD k 0)) (aM k)
    rw[bL]at h1
    have h4:(64:Nat)<=sizeLine:=by decide
    simp only[cM,cE]
    exact ah h1 (ah (bf hk) (ah hl h4)))
 have hc:ox [none,none,some 2,some 0,some 1] [.dat (.list (l.map .int)),.own (sz.map .int),.dat (.int k),u,v,w]=some (ρc .un):=rfl
 unfold cw
 rw[hc,ac,hr,ac,e,hU,bK]
noncomputable def jm(l:List Int):List Int:=(aM l.length).foldl (λsz k=>sz++[iG l sz k]) []
theorem im:∀l:List Int,lX (l.map .int)=some l
 |[]=>rfl
 |x::r=>by
  show(lX (r.map .int)).map _=_
  rw[im r];rfl
theorem se{c:DE}{r:Va}{is:List Int}{ρ:List LV}{lx:Lx}(h:c ρ lx=some (r,lx))(hr:r=.dat (.list (is.map .int))\/r=.bor (.list (is.map .int)))(hz:is.length<=64):
  DE.call maxF (DL.cons (DE.bin .Add (DE.list (DL.cons (DE.k (.int 0)) DL.nil)) c) DL.nil) ρ lx=some (.dat (.int (oW (0::is))),lx):=by
 have h4:(65:Nat)<=sizeLine:=by decide
 have e1:DE.list (DL.cons (DE.k (.int 0)) DL.nil) ρ lx=some (.dat (.list [.int 0]),lx):=rfl
 have gd:decide ([aw 0].length+(is.map aw).length<=sizeLine)=true:=decide_eq_true (by simp only[af,aT,cM];exact J2 [Ql (Qn 65) Q1,Ql Q0 (Qn 64)] (Qa (Qs (Qn 0) 1) Q0) Q1 1 [1,1] Qt h4 hz)
 have hb:∃z,qT .Add (.dat (.list [.int 0])) r=some z/\lG z=some ((0::is).map .int):=by
  rcases hr with rfl|rfl
  ·refine⟨.dat (.list ([.int 0]++is.map .int)),?_,rfl⟩
   show(o7 ([aw 0].length+(is.map aw).length) (.dat (.list ([.int 0]++is.map .int)))).or none=_
   unfold o7
   rw[if_pos gd];rfl
  ·refine⟨.bor (.list ([.int 0]++is.map .int)),?_,rfl⟩
   show o7 ([aw 0].length+(is.map aw).length) (.bor (.list ([.int 0]++is.map .int)))=_
   unfold o7
   rw[if_pos gd]
 refine a7 hb λz hz1 hz2=>?_
 have e2:DE.bin .Add (DE.list (DL.cons (DE.k (.int 0)) DL.nil)) c ρ lx=some (z,lx):=by
  unfold DE.bin
  rw[e1,ac,h,ac,hz1];rfl
 have e3:DL.cons (DE.bin .Add (DE.list (DL.cons (DE.k (.int 0)) DL.nil)) c) DL.nil ρ lx=some ([z],lx):=by
  unfold DL.cons at *
  rw[e2,ac];rfl
 unfold DE.call
 rw[e3,ac]
 show((((lG z).bind lX).bind λis=>if decide (0 < is.length)=true then some (Va.dat (.int (oW is)))else none).map λv=>(v,lx))=_
 rw[hz2,ac,im,ac]
 rfl
theorem IY{i:Nat}{a:DE}{d:D}{ds:List D}{ρ:List LV}{lx:Lx}(h:a ρ lx=some (.dat d,lx))(hi:ρ[i]? =some (.own ds))(hz:ds.length<=4096):DS.app i (DM.of a) ρ lx=some (.nxt,ρ.set i (.own (ds++[d])),lx):=by
 have h4:(4096:Nat)<=sizeLine:=by decide
 have e:DM.of a ρ lx=some (.dat d,ρ,lx):=by
  unfold DM.of
  rw[h];rfl
 have eo:ownAt ρ i=some ds:=by unfold ownAt;rw[hi];rfl
 unfold DS.app
 rw[eo,ac,e,ac]
 show((ownAt ρ i).bind _)=_
 rw[eo,ac]
 rw[if_pos (decide_eq_true (by exact bo))]
theorem Lh{a:DE}{i:Int}{ρ:List LV}{lx:Lx}(h:a ρ lx=some (.dat (.int i),lx)):DE.bin .Add (DE.k (.int 1)) a ρ lx=some (.dat (.int (1+i)),lx):=by
 have e:DE.k (.int 1) ρ lx=some (.dat (.int 1),lx):=rfl
 unfold DE.bin
 rw[e,ac,h];rfl
theorem dN{f:List LV->Lx->Option (List D × Lx)}{ρ:List LV}{lx:Lx}{out:List D}(h:f ρ lx=some (out,lx)):DE.comp f ρ lx=some (.dat (.list out),lx):=by
 unfold DE.comp
 rw[h];rfl
theorem vB{it:DI}{tg:Tg}{b:DS}{ds:List D}{ρ ρ':List LV}{lx l1 l2:Lx}{fl:Fl}(h:it ρ lx=some (true,ds,l1))(e:lK tg b ds ρ l1=some (fl,ρ',l2)):DS.for it tg b ρ lx=some (fl,ρ',l2):=by
 unfold DS.for
 rw[h,ac]
 exact e
theorem yy{l:List Int}{lx:Lx}(hl:l.length<=64):fLongest [.dat (.list (l.map .int))] lx=some (.dat (.int (oW (0::jm l))),lx):=by
 let ρ0:List LV:=[.dat (.list (l.map .int)),.own [],.un,.un,.un,.un]
 have hlen:∀ρ:List LV,ρ[0]? =some (.dat (.list (l.map .int)))->DE.call lenF (DL.cons (DE.nm 0) DL.nil) ρ lx=some (.dat (.int l.length),lx):=λρ h=>by
  have h4:(64:Nat)<=sizeLine:=by decide
  have e1:DE.nm 0 ρ lx=some (.dat (.list (l.map .int)),lx):=by unfold DE.nm;rw[h];rfl
  have e2:DL.cons (DE.nm 0) DL.nil ρ lx=some ([.dat (.list (l.map .int))],lx):=by unfold DL.cons;rw[e1];rfl
  unfold DE.call
  rw[e2,ac]
  show((if decide ((l.map aw).length<=sizeLine)=true then some (Va.dat (aw ((l.map aw).length:Nat)))else none).map λv=>(v,lx))=_
  rw[if_pos (decide_eq_true (by rw[af];exact bo)),af]
  rfl
 have hr:=kH (hlen ρ0 rfl) hl
 refine nG λkG=>?_;obtain⟨ρ',e,⟨kv,hρ⟩,hn⟩:=sr (tg:=Tg.nm 2) (b:=DS.cons (DS.app 1 (DM.of (DE.bin .Add (DE.k (.int 1)) (DE.call maxF (DL.cons (DE.bin .Add (DE.list (DL.cons (DE.k (.int 0)) DL.nil)) (DE.comp (cw [none,none,some 2,some 0,some 1] (DI.range (DL.cons (DE.nm 2) DL.nil)) (Tg.nm 1) ((DT.cmp .Lt (DE.item (DE.nm 3) (DE.nm 1)) (DE.item (DE.nm 3) (DE.nm 2))).and DT.tt) (cF (DE.item (DE.nm 4) (DE.nm 1)))))) DL.nil))))) DS.nil)
  (enc:=λ(i:Nat)=>aw (i:Nat)) (step:=λsz k=>sz++[iG l sz k]) (R:=λpre sz ρ=>(∃kv,ρ=[.dat (.list (l.map .int)),.own (sz.map .int),kv,.un,.un,.un])/\sz.length=pre.length) (lx:=lx)
  (aM l.length) [] [] ρ0 (λpre k post sz ρ hpre ⟨⟨kv,hρ⟩,hs⟩=>by
   subst hρ
   have hk:k=pre.length:=by
    have h1:=congrArg (λm:List Nat=>m[pre.length]?) hpre
    simp only[bK]at h1
    rw[lm (ai _)]at h1
    simp only[s9,List.getElem?_cons_zero]at h1
    have h2:=List.getElem?_eq_some_iff.mp h1
    refine(λh3 h4=>?_) h2.1 h2.2
    rw[List.getElem_range]at h4
    exact h4.symm
   have hkl:k < l.length:=by
    have:k∈aM l.length:=by
     have:k∈([]++aM l.length:List Nat):=by rw[hpre];simp
     simpa using this
    exact List.mem_range.mp this
   have c:=AY (lx:=lx) (u:=.un) (v:=.un) (w:=.un) hkl (hs.trans hk.symm) hl
   have e1:=dN c
   have hm:=se (is:=((aM k).filter λj=>decide (l.getD j 0 < l.getD k 0)).map λj=>sz.getD j 0) e1 (.inl (by simp[bO,Function.comp_def])) (by
    have h1:=bP (λj=>decide (l.getD j 0 < l.getD k 0)) (aM k)
    rw[bL]at h1
    rw[af];exact ah h1 (ah (bf hkl) hl))
   have ha:=Lh hm
   have hp:=IY (i:=1) ha (ds:=sz.map .int) rfl (by rw[af];exact J4 [Ql (Qs Q1 1) Q2,Qe Q1 Q3,Ql Q2 (Qn 64),Qe Q0 Q3] Q0 (Qn 4096) 1 [1,.negSucc 0,1,1] Qt hkl hk hl hs)
   refine Y2 _ _ ⟨rfl,(bp hp).trans rfl,⟨.dat (.int k),?_⟩,by simp[hs]⟩
   rw[aQ];rfl) ⟨⟨_,rfl⟩,rfl⟩
 subst hρ
 refine kG ?_
 have hz:(jm l).length=l.length:=by
  have:(jm l).length=([]++aM l.length:List Nat).length:=hn
  simpa using this
 have e':=vB hr e
 have hm:=se (c:=DE.nm 1) (ρ:=[.dat (.list (l.map .int)),.own ((jm l).map .int),kv,.un,.un,.un]) (lx:=lx) (is:=jm l) rfl (.inr rfl) (by exact J2 [Qe Q0 Q1,Ql Q1 (Qn 64)] Q0 (Qn 64) 1 [1,1] Qt hz hl)
 have e0:DS.new 1 [.dat (.list (l.map .int)),.un,.un,.un,.un,.un] lx=some (.nxt,ρ0,lx):=rfl
 have key:=(bp (b:=DS.cons _ (DS.cons _ DS.nil)) e0).trans ((bp (b:=DS.cons _ DS.nil) e').trans (ef (mG hm)))
 unfold fLongest sn dZ
 dsimp only
 show(v8 _ _)=_
 exact congrArg (λz=>v8 z λp=>match p.fst with|Fl.ret r=>some (AV false r,p.snd.snd)|Fl.nxt=>some (.dat .none,p.snd.snd)|x=>none) key
section
variable{ρ ρ1 ρ2:List LV}{lx l0 l1 l2 l3 l4:Lx}{a b c:DE}{r r1 r2 z:Va}{d d1 d2:D}{ds:List D}{i:Nat}{t u:DT}{p q:DS}{fl:Fl}
theorem r7{lv:LV}(h:ρ[i]? =some lv)(e:lv.va=some r):DE.nm i ρ lx=some (r,lx):=by
 unfold DE.nm
 rw[h,ac,e];rfl
theorem bw:DE.k d ρ lx=some (.dat d,lx):=rfl
theorem cL{op:fV}(ha:a ρ lx=some (r1,l1))(hb:b ρ l1=some (r2,l2))(h:qT op r1 r2=some z):DE.bin op a b ρ lx=some (z,l2):=by
 unfold DE.bin
 rw[ha,ac,hb,ac,h];rfl
theorem bM{f:DF}{as:DL}{rs:List Va}(ha:as ρ lx=some (rs,l1))(hf:f rs l1=some (r,l2)):DE.call f as ρ lx=some (r,l2):=by
 unfold DE.call
 rw[ha,ac];exact hf
theorem aN{as:DL}{rs:List Va}(ha:a ρ lx=some (r,l1))(hb:as ρ l1=some (rs,l2)):DL.cons a as ρ lx=some (r::rs,l2):=by
 unfold DL.cons
 rw[ha,ac,hb];rfl
theorem bl:DL.nil ρ lx=some ([],lx):=rfl
theorem fh{x:Int}(ha:a ρ lx=some (r,l1))(hi:b ρ l1=some (.dat (.int x),l2))(hr:r.d=some d)(hd:jt d x=some d2)(hz: -(2 ^ 63)<=x/\x < 2 ^ 63):DE.item a b ρ lx=some (r.like d2,l2):=by
 unfold DE.item
 rw[ha,ac,hi,ac,hr]
 show((jt d x).bind _)=_
 rw[hd,ac,if_pos (decide_eq_true hz)]
theorem lL{lo hi st:DO}{x y w:Option Int}(ha:a ρ lx=some (r,l1))(h1:lo ρ l1=some (x,l2))(h2:hi ρ l2=some (y,l3))(h3:st ρ l3=some (w,l4))(hr:r.d=some d)(hd:tF d x y w=some d2):DE.cut a lo hi st ρ lx=some (r.like d2,l4):=by
 unfold DE.cut
 rw[ha,ac,h1,ac,h2,ac,h3,ac,hr,ac,hd];rfl
theorem jz:DO.no ρ lx=some (none,lx):=rfl
theorem lY{x:Int}(ha:a ρ lx=some (.dat (.int x),l1)):DO.of a ρ lx=some (some x,l1):=by
 unfold DO.of
 rw[ha,ac];rfl
theorem zy{k:Nat}(h:bT k 64=true):k<=sizeLine:=ah (ag h) (by decide)
theorem pH{as:DL}{rs:List Va}(ha:as ρ lx=some (rs,l1))(hd:Bi rs=some ds)(hz:bT ds.length 64=true):DE.tupX as ρ lx=some (.dat (.tuple ds),l1):=by
 unfold DE.tupX DE.tup
 rw[ha,ac,hd,ac,if_pos (decide_eq_true (zy hz))];rfl
theorem jc{as:DL}{rs:List Va}(ha:as ρ lx=some (rs,l1))(hd:Bi rs=some ds)(hz:bT ds.length 64=true):DE.list as ρ lx=some (.dat (.list ds),l1):=by
 unfold DE.list
 rw[ha,ac,hd,ac,if_pos (decide_eq_true (zy hz))]
theorem lQ{z w:Bool}(h:t ρ lx=some (z,l1))(k:u ρ l1=some (w,l1)):t.and u ρ lx=some (z&&w,l1):=by
 unfold DT.and
 rw[h,ac]
 cases z with
 |true=>exact k
 |false=>rfl
theorem oU{z w:Bool}(h:t ρ lx=some (z,l1))(k:u ρ l1=some (w,l1)):t.or u ρ lx=some (z||w,l1):=by
 unfold DT.or
 rw[h,ac]
 cases z with
 |true=>rfl
 |false=>exact k
theorem tR:DT.tt ρ lx=some (true,lx):=rfl
theorem zM:DT.ff ρ lx=some (false,lx):=rfl
theorem CV{z:Bool}(h:t ρ lx=some (z,l1)):DE.ofT t ρ lx=some (.dat (.bool z),l1):=by
 unfold DE.ofT
 rw[h];rfl
theorem bS{op:iy}{z:Bool}(h1:a ρ lx=some (r1,l1))(h2:b ρ l1=some (r2,l2))(h:gF op r1 r2=some z):DT.cmp op a b ρ lx=some (z,l2):=ke h1 h2 h
theorem lP{op:fV}{lv:LV}(h0:ρ[i]? =some lv)(hv:lv.va=some r)(ha:a ρ lx=some (r1,l1))(h:GI op r r1=some (.dat d)):DS.aug i op a ρ lx=some (.nxt,ρ.set i (.dat d),l1):=by
 unfold DS.aug
 rw[h0,ac,hv,ac,ha,ac,h];rfl
theorem nf{f:List LV->Lx->Option (List D × Lx)}(h:f ρ lx=some (ds,l1))(hi:i < ρ.length):DS.comp i f ρ lx=some (.nxt,ρ.set i (.dat (.list ds)),l1):=by
 unfold DS.comp
 rw[if_pos (decide_eq_true hi),h];rfl
theorem mL{x:Int}(ha:a ρ lx=some (.dat (.int x),l1)):a.neg ρ lx=some (.dat (.int (-x)),l1):=by
 unfold DE.neg
 rw[ha];rfl
theorem Hk{x y:Int}:gF .Eq (.dat (.int x)) (.dat (.int y))=some (x==y):=rfl
theorem KL{x y:Int}:gF .NotEq (.dat (.int x)) (.dat (.int y))=some (!(x==y)):=rfl
theorem fC{it:DE}{fz:Bool}(ha:it ρ lx=some (r,l1))(h:Hc r=some (fz,ds)):DI.val it ρ lx=some (fz,ds,l1):=by
 unfold DI.val
 rw[ha,ac,h];rfl
end
noncomputable def dR{σ α:Type}(step:σ->α->Option σ):σ->List α->Option σ
 |s,[]=>some s
 |s,x::l=>(step s x).bind λs'=>dR step s' l
theorem Io{σ α:Type}{tg:Tg}{b:DS}{enc:α->D}{step:σ->α->Option σ}{R:σ->List LV->Prop}{lx:Lx}{l:List α}(ht:∀s x s' ρ,step s x=some s'->R s ρ->∃ρ1 ρ2,tg.asg true (enc x) ρ=some ρ1/\b ρ1 lx=some (.nxt,ρ2,lx)/\R s' ρ2):
  ∀{s s':σ} {ρ:List LV},R s ρ->dR step s l=some s'->∃ρ',lK tg b (l.map enc) ρ lx=some (.nxt,ρ',lx)/\R s' ρ':=by
 induction l with
 |nil=>intro s s' ρ h e;cases e;exact⟨ρ,rfl,h⟩
 |cons x l ih=>
  intro s s' ρ h e
  refine a7 (eg e) λs1 e1 e2=>?_
  refine xP (ht s x s1 ρ e1 h) λρ1 ρ2 a1 a2 h2=>?_
  refine a7 (ih h2 e2) λρ' a3 h3=>?_
  refine⟨ρ',?_,h3⟩
  show(tg.asg true (enc x) ρ).bind _=_
  rw[a1]
  show(b ρ1 lx).bind _=_
  rw[a2]
  exact a3
structure Rn{α:Type}(o:Option α)(Q:α->Prop):Prop where
 eq:∃a,o=some a/\Q a
theorem Rn.of{α:Type}{o:Option α}{Q:α->Prop}{a:α}(e:o=some a)(q:Q a):Rn o Q:=⟨a,e,q⟩
theorem Rn.mono{α:Type}{o:Option α}{Q Q':α->Prop}(h:Rn o Q)(k:∀a,Q a->Q' a):Rn o Q':=by refine a7 h.eq λa e q=>?_;exact⟨a,e,k a q⟩
section
variable{ρ ρ1:List LV}{lx l1:Lx}{a:DE}{r:Va}{p q:DS}{t:DT}{Q:Fl × List LV × Lx->Prop}
theorem aP(h:p ρ lx=some (.nxt,ρ1,l1))(k:Rn (q ρ1 l1) Q):Rn (DS.cons p q ρ lx) Q:=by
 rw[bp h];exact k
theorem bZ(h:Rn (p ρ lx) λo=>o.1=.nxt/\Rn (q o.2.1 o.2.2) Q):Rn (DS.cons p q ρ lx) Q:=by
 refine nG λkG=>?_;obtain⟨o,e,h1,h2⟩:=h.eq
 obtain⟨f,ρ',l'⟩:=o
 refine kG ?_
 obtain rfl:=h1
 exact aP e h2
theorem oq(h:Rn (p ρ lx) λo=>o.1≠ .nxt/\Q o):Rn (DS.cons p q ρ lx) Q:=by
 refine jH h.eq λo e h1 h2=>?_
 rw[zU e h1];exact .of rfl h2
theorem bv(h:Q (.nxt,ρ,lx)):Rn (DS.nil ρ lx) Q:=.of rfl h
theorem kF(h:a ρ lx=some (r,l1))(k:Q (.ret r,ρ,l1)):Rn (DS.cons (DS.ret a) q ρ lx) Q:=by
 rw[ef (mG h)];exact .of rfl k
theorem ib(h:t ρ lx=some (true,l1))(k:Rn (p ρ l1) Q):Rn (DS.ite t p q ρ lx) Q:=by
 rw[d9 h];exact k
theorem dQ(h:t ρ lx=some (false,l1))(k:Rn (q ρ l1) Q):Rn (DS.ite t p q ρ lx) Q:=by
 rw[dW h];exact k
theorem lN{b:Bool}{n:Nat}{slots:List Nat}{g:DS}{rs:List Va}{l':Lx}(hg:(rs.length==slots.length&&(b||rs.all pT))=true)(h:Rn (g (t4 slots rs (bb n .un)) lx) λo=>o.1=.ret r/\o.2.2=l'):dZ b n slots g rs lx=some (AV b r,l'):=by
 refine nG λkG=>?_;obtain⟨⟨f,ρ',l⟩,e,rfl,rfl⟩:=h.eq
 refine kG ?_
 exact iv hg e
theorem eC{i:Nat}{d:D}(h:a ρ lx=some (.dat d,l1))(hi:bT (i+1) ρ.length=true):DS.asg i a ρ lx=some (.nxt,ρ.set i (.dat d),l1):=jB h (ag hi)
def Nx(lx:Lx)(P:List LV->Prop):Fl × List LV × Lx->Prop:=λo=>o.1=.nxt/\o.2.2=lx/\P o.2.1
end
theorem qx{σ α:Type}{it:DI}{tg:Tg}{b q:DS}{enc:α->D}{step:σ->α->Option σ}(R:σ->List LV->Prop){ρ:List LV}{lx:Lx}{l:List α}{s s':σ}{Q:Fl × List LV × Lx->Prop}(hit:it ρ lx=some (true,l.map enc,lx))(hf:dR step s l=some s')(hR:R s ρ)
  (ht:∀s x s' ρ,step s x=some s'->R s ρ->∃ρ1,tg.asg true (enc x) ρ=some ρ1/\Rn (b ρ1 lx) (Nx lx (R s')))(k:∀ρ',R s' ρ'->Rn (q ρ' lx) Q):Rn (DS.cons (DS.for it tg b) q ρ lx) Q:=by
 obtain⟨ρ',e,h⟩:=Io (R:=R) (tg:=tg) (b:=b) (enc:=enc) (lx:=lx) (λs x s' ρ h1 h2=>by
  refine a7 (ht s x s' ρ h1 h2) λρ1 a1 a2=>?_
  obtain⟨⟨f,ρ2,l2⟩,e,rfl,rfl,h⟩:=a2.eq
  exact Y2 ρ1 ρ2 ⟨a1,e,h⟩) hR hf
 exact aP (vB hit e) (k ρ' h)
structure Sh(k:Nat)(d:D):Prop where
 lay:gZ d=true
 dep:jL d<=k
theorem Sh.int{x:Int}{k:Nat}:Sh k (.int x):=⟨by simp[gZ],by simp[jL]⟩
theorem Sh.str{x:Str}{k:Nat}(h:bk x=true):Sh k (.str x):=⟨by simp[gZ,h],by simp[jL]⟩
theorem u6{k:Nat}{ds:List D}(h:∀d∈ds,Sh k d):xX ds=true/\BK ds<=k:=by
 induction ds with
 |nil=>exact⟨by simp[xX],by simp[BK]⟩
 |cons d ds ih=>
  refine(λh1 h2=>?_) (ih λe m=>h e (.tail _ m)).1 (ih λe m=>h e (.tail _ m)).2
  have h0:=h d (.head _)
  exact⟨by rw[xX,h0.lay,h1];rfl,by rw[BK];exact Nat.max_le.mpr ⟨h0.dep,h2⟩⟩
theorem Sh.list{k:Nat}{ds:List D}(h:∀d∈ds,Sh k d):Sh (k+1) (.list ds):=⟨by rw[gZ];exact(u6 h).1,by rw[jL];exact cQ (u6 h).2⟩
theorem Sh.tuple{k:Nat}{ds:List D}(h:∀d∈ds,Sh k d):Sh (k+1) (.tuple ds):=⟨by rw[gZ];exact(u6 h).1,by rw[jL];exact cQ (u6 h).2⟩
theorem Sh.shaped{k:Nat}{d:D}(h:Sh k d)(hk:k<=64):b0 d=true:=by
 unfold b0
 rw[h.lay,jG]
 exact decide_eq_true (ah h.dep hk)
theorem Sh.ints{l:List Int}:Sh 1 (.list (l.map .int)):=.list λd m=>by
 obtain⟨x,_,rfl⟩:=List.mem_map.mp m
 exact .int
theorem yR{d e:D}{x y:Va}(hd:Sh 8 d)(he:Sh 8 e)(h1:x.d=some d)(h2:y.d=some e):gF .Eq x y=some (gY d e):=by
 show Kb x y=_
 unfold Kb
 rw[h1,ac,h2,ac,hd.shaped (by decide),he.shaped (by decide)];rfl
theorem zP{d:D}{x y:Va}(hd:Sh 8 d)(h1:x.d=some d)(h2:y.d=some d):gF .Eq x y=some true:=by
 rw[yR hd hd h1 h2,SeqAt.eqv_refl d hd.lay]
theorem fR{d:D}{x y:Va}(hd:Sh 8 d)(h1:x.d=some d)(h2:y.d=some d):gF .NotEq x y=some false:=by
 show(gF .Eq x y).map (λz=>!z)=_
 rw[zP hd h1 h2];rfl
theorem Sh.mono{k m:Nat}{d:D}(h:Sh k d)(hk:k<=m):Sh m d:=⟨h.lay,ah h.dep hk⟩
theorem nL{ds:List D}{d:D}{k:Nat}(h:ds[k]? =some d):jt (.list ds) (k:Int)=some d:=by
 show(cP (k:Int) ds.length).bind (ds[·]?)=_
 rw[jb (List.getElem?_eq_some_iff.mp h).1]
 exact h
theorem zE{ds:List D}{d:D}:jt (.list (d::ds)) 0=some d:=nL (k:=0) rfl
theorem rH{ρ ρ1:List LV}{lx l1 l2:Lx}{a:DM}{b:DE}{d d2:D}(h:a ρ lx=some (.dat d,ρ1,l1))(hb:b ρ1 l1=some (.dat d2,l2)):DM.tup2 a b ρ lx=some (.dat (.tuple [d,d2]),ρ1,l2):=by
 unfold DM.tup2
 rw[h,ac]
 show((b ρ1 l1).bind _)=_
 rw[hb];rfl
theorem tA{ρ:List LV}{lx l1:Lx}{a:DE}{r:Va}(h:a ρ lx=some (r,l1)):DM.of a ρ lx=some (r,ρ,l1):=by
 unfold DM.of
 rw[h];rfl
theorem mX{i:Nat}{ρ ρ1:List LV}{lx l1:Lx}{a:DM}{d:D}{ds ds0:List D}(h0:ρ[i]? =some (.own ds0))(h:a ρ lx=some (.dat d,ρ1,l1))(hi:ρ1[i]? =some (.own ds))(hz:ds.length<=4096):DS.app i a ρ lx=some (.nxt,ρ1.set i (.own (ds++[d])),l1):=by
 have h4:(4096:Nat)<=sizeLine:=by decide
 have e0:ownAt ρ i=some ds0:=by unfold ownAt;rw[h0];rfl
 have eo:ownAt ρ1 i=some ds:=by unfold ownAt;rw[hi];rfl
 unfold DS.app
 rw[e0,ac,h,ac]
 show((ownAt ρ1 i).bind _)=_
 rw[eo,ac,if_pos (decide_eq_true (by exact bo))]
theorem yW{cs:List (Option Nat)}{it:DI}{tg:Tg}{ifs:DT}{em:DEm}{ρ ρc ρ':List LV}{lx l1 l2:Lx}{fz:Bool}{ds out:List D}(hc:ox cs ρ=some ρc)(hi:it ρ lx=some (fz,ds,l1))(hl:lW fz tg ifs em ds [] ρc l1=some (out,ρ',l2)):cw cs it tg ifs em ρ lx=some (out,l2):=by
 unfold cw
 rw[hc,ac,hi,ac,hl];rfl
theorem iT{α:Type}{cs:List (Option Nat)}{it:DI}{tg:Tg}{elt:DE}{ρ ρc:List LV}{lx:Lx}{fz:Bool}{enc:α->D}{f:α->D}(I:List LV->Prop){l:List α}(hi:it ρ lx=some (fz,l.map enc,lx))(hc:ox cs ρ=some ρc)(hI:I ρc)(hz:l.length<=4096)
  (ht:∀x ρ,x∈l->I ρ->∃ρ1,tg.asg fz (enc x) ρ=some ρ1/\I ρ1/\elt ρ1 lx=some (.dat (f x),lx)):cw cs it tg DT.tt (cF elt) ρ lx=some (l.map f,lx):=by
 have h4:(4096:Nat)<=sizeLine:=by decide
 have hf:l.filter (λ_=>true)=l:=List.filter_eq_self.mpr λ_ _=>rfl
 refine a7 (eO (fz:=fz) (tg:=tg) (ifs:=DT.tt) (elt:=elt) (enc:=enc) (p:=λ_=>true) (f:=f) (I:=I) (lx:=lx) l [] ρc (λx ρ m h=>by obtain⟨ρ1,a,b,c⟩:=ht x ρ m h;exact⟨ρ1,a,b,rfl,λ_=>c⟩) hI (by rw[hf];simp only[cM,cE];exact bo)) λρ' e _=>?_
 rw[hf,bK]at e
 exact yW hc hi e
theorem Ka{σ α:Type}{it:DI}{tg:Tg}{b q:DS}{enc:α->D}{step:σ->α->Option σ}(R:σ->List LV->Lx->Prop){Q:Fl × List LV × Lx->Prop}{l:List α}(ht:∀s x s' ρ lx,step s x=some s'->R s ρ lx->∃ρ1,tg.asg true (enc x) ρ=some ρ1/\Rn (b ρ1 lx) λo=>o.1=.nxt/\R s' o.2.1 o.2.2):
  ∀{s s':σ} {ρ:List LV} {lx l0:Lx},it ρ l0=some (true,l.map enc,lx)->dR step s l=some s'->R s ρ lx->(∀ρ' lx',R s' ρ' lx'->Rn (q ρ' lx') Q)->Rn (DS.cons (DS.for it tg b) q ρ l0) Q:=by
 have key:∀(l:List α) {s s':σ} {ρ:List LV} {lx:Lx},dR step s l=some s'->R s ρ lx->∃ρ' lx',lK tg b (l.map enc) ρ lx=some (.nxt,ρ',lx')/\R s' ρ' lx':=by
  intro l
  induction l with
  |nil=>intro s s' ρ lx e h;cases e;exact Y2 ρ lx ⟨rfl,h⟩
  |cons x l ih=>
   intro s s' ρ lx e h
   refine a7 (eg e) λs1 e1 e2=>?_
   refine a7 (ht s x s1 ρ lx e1 h) λρ1 a1 a2=>?_
   refine nG λkG=>?_;obtain⟨⟨f,ρ2,l2⟩,a2,rfl,h2⟩:=a2.eq
   refine ml (ih e2 h2) λρ' lx' hX=>?_;refine kG ?_;refine en hX λa3 h3=>?_
   refine Y2 ρ' lx' ⟨?_,h3⟩
   show(tg.asg true (enc x) ρ).bind _=_
   rw[a1]
   show(b ρ1 lx).bind _=_
   rw[a2]
   exact a3
 intro s s' ρ lx l0 hit hf hR k
 refine xQ (key l hf hR) λρ' lx' e h=>?_
 exact aP (vB hit e) (k ρ' lx' h)
theorem G2{i:Nat}{a:DE}{ρ:List LV}{lx l1:Lx}{ds:List D}{m:Int}{j:Nat}{d:D}(h0:ρ[i]? =some (.own ds))(ha:a ρ lx=some (.dat (.int m),l1))(hj:cP m ds.length=some j)(hd:ds[j]? =some d)(hm:dn m=true)(hz:ds.length<=4096):DM.pop i a ρ lx=some (.dat d,ρ.set i (.own (ds.eraseIdx j)),l1):=by
 have h4:(4096:Nat)<=sizeLine:=by decide
 have e0:ownAt ρ i=some ds:=by unfold ownAt;rw[h0];rfl
 unfold DM.pop
 rw[e0,ac,ha,ac]
 show((cP m ds.length).bind _)=_
 rw[hj,ac,hd,ac,if_pos hm,if_pos (decide_eq_true (by exact bo))]
theorem zR{a:DE}{ρ:List LV}{lx l1:Lx}{ds:List D}(h:a ρ lx=some (.dat (.list ds),l1)):DI.enum a ρ lx=some (true,qy ds,l1):=by
 unfold DI.enum
 rw[h,ac];rfl
noncomputable def part(p:Int->Bool):List Int->Option Nat
 |[]=>some 0
 |y::r=>if p y=true then(part p r).map (· +1)else if r.all (λz=>!p z)=true then some 0 else none
theorem m5{p:Int->Bool}:∀{l:List Int} {c:Nat},part p l=some c->c<=l.length/\∀i,i < l.length->(match l[i]? with|some v=>p v|none=>false)=decide (i < c)
 |[],c,h=>by cases h;exact⟨ai _,λi h=>absurd h (et _)⟩
 |y::r,c,h=>by
  unfold part at h
  by_cases hp:p y=true
  ·rw[if_pos hp]at h
   obtain⟨k,e,rfl⟩:=tB h
   obtain⟨h1,h2⟩:=m5 e
   refine⟨cQ h1,λi hi=>?_⟩
   cases i with
   |zero=>simpa using hp
   |succ i=>
    have:=h2 i (e9 hi)
    simpa using this
  ·rw[if_neg hp]at h
   obtain⟨g,e⟩:=cb h
   cases e
   refine⟨bH _,λi hi=>?_⟩
   cases i with
   |zero=>simpa using hp
   |succ i=>
    have hi':i < r.length:=e9 hi
    have:=List.all_eq_true.mp g r[i] (uR hi')
    simp only[List.getElem?_cons_succ,aD hi']
    simpa using this
noncomputable def JU(x:Int):Int->Bool:=λv=>m7 v x
noncomputable def De(x:Int):Int->Bool:=λv=>!m7 x v
theorem Eo{L:List Int}{x:Int}(i:Nat):uD L x i=(match L[i]? with|some v=>JU x v|none=>false):=by
 unfold uD JU
 cases L[i]? with
 |none=>rfl
 |some v=>exact(ft v x).symm
theorem Bv{L:List Int}{x:Int}(i:Nat):qh L x i=(match L[i]? with|some v=>De x v|none=>false):=by
 unfold qh De
 cases L[i]? with
 |none=>rfl
 |some v=>exact congrArg (!·) (ft x v).symm
theorem Ab{L:List Int}{x:Int}{lx:Lx}{c:Nat}(hn:L.length<=32)(h:part (JU x) L=some c):fBisL [.bor (.list (L.map .int)),.dat (.int x)] lx=some (.dat (.int c),lx):=
 GC hn (m5 h).1 λi hi=>(Eo i).trans ((m5 h).2 i hi)
theorem vO{L:List Int}{x:Int}{lx:Lx}{c lo:Nat}(hn:L.length<=32)(hlo:lo<=c)(h:part (De x) L=some c):∃ρ',qw.val [.dat (.list (L.map .int)),.dat (.int x),.dat (.int lo),.dat .none,.dat .none,.un,.un,.un] lx=some (.ret (.dat (.int c)),ρ',lx):=
 Em hn hlo (m5 h).1 λi hi=>(Bv i).trans ((m5 h).2 i hi)
theorem Aa{L:List Int}{x:Int}{lx:Lx}{c:Nat}(hn:L.length<=32)(h:part (De x) L=some c):fBisR [.bor (.list (L.map .int)),.dat (.int x)] lx=some (.dat (.int c),lx):=by
 refine cU (vO (lx:=lx) (lo:=0) hn (bH _) h) λρ' e=>?_
 show dZ true 8 [0,1,2,3,4] qw.val [.bor (.list (L.map .int)),.dat (.int x),.dat (.int 0),.dat .none,.dat .none] lx=_
 exact iv (r:=.dat (.int c)) (ρ':=ρ') rfl e
theorem GB{L:List Int}{x:Int}{lx:Lx}{c lo:Nat}(hn:L.length<=32)(hlo:lo<=c)(h:part (De x) L=some c):fBisR [.bor (.list (L.map .int)),.dat (.int x),.dat (.int lo)] lx=some (.dat (.int c),lx):=by
 refine cU (vO (lx:=lx) (lo:=lo) hn hlo h) λρ' e=>?_
 show dZ true 8 [0,1,2,3,4] qw.val [.bor (.list (L.map .int)),.dat (.int x),.dat (.int lo),.dat .none,.dat .none] lx=_
 exact iv (r:=.dat (.int c)) (ρ':=ρ') rfl e
theorem IT{L:List Int}{x:Int}{lx:Lx}{c:Nat}(hn:L.length<=32)(h:part (De x) L=some c):fBisR [.dat (.list (L.map .int)),.dat (.int x),.dat (.int 0),.dat .none] lx=some (.dat (.int c),lx):=by
 refine cU (vO (lx:=lx) (lo:=0) hn (bH _) h) λρ' e=>?_
 show dZ true 8 [0,1,2,3,4] qw.val [.dat (.list (L.map .int)),.dat (.int x),.dat (.int 0),.dat .none,.dat .none] lx=_
 exact iv (r:=.dat (.int c)) (ρ':=ρ') rfl e
noncomputable def nK(arcs:List (Int × Int))(p:Int):List Int:=(arcs.filter λa=>wa a.2 p).map (·.1)
theorem sf{arcs:List (Int × Int)}{p:Int}{k:Nat}{ρ:List LV}{lx:Lx}(h0:ρ[0]? =some (.dat (.list (arcs.map bQ))))(hk:ρ[k]? =some (.dat (.int p)))(hz:arcs.length<=64):
  cw [none,none,none,some k] (DI.val (DE.nm 0)) (Tg.tup [1,2]) ((DT.cmp .Eq (DE.nm 2) (DE.nm 3)).and DT.tt) (cF (DE.nm 1)) ρ lx=some ((nK arcs p).map .int,lx):=by
 refine nG λkG=>?_;obtain⟨ρ',e,_⟩:=eO (fz:=true) (tg:=Tg.tup [1,2]) (ifs:=(DT.cmp .Eq (DE.nm 2) (DE.nm 3)).and DT.tt) (elt:=DE.nm 1) (enc:=bQ) (p:=λa=>wa a.2 p) (f:=λa=>aw a.1)
  (I:=λρ=>∃a b,ρ=[.un,a,b,.dat (.int p)]) (lx:=lx) arcs [] [.un,.un,.un,.dat (.int p)] (λx ρ _ ⟨a,b,hρ⟩=>by
   subst hρ
   refine⟨[.un,.dat (.int x.1),.dat (.int x.2),.dat (.int p)],rfl,Y2 _ _ rfl,?_,λ_=>rfl⟩
   have:=lQ (ke (op:=.Eq) (a:=DE.nm 2) (b:=DE.nm 3) (ρ:=[.un,.dat (.int x.1),.dat (.int x.2),.dat (.int p)]) (lx:=lx) rfl rfl Hk) tR
   rwa [dU,<-zQ]at this) ⟨_,_,rfl⟩ (by
    have h1:=bP (λa:Int × Int=>wa a.2 p) arcs
    have h4:(64:Nat)<=sizeLine:=by decide
    simp only[cM,cE]
    exact J3 [Ql (Qn 64) Q1,Ql Q2 (Qn 64),Ql Q0 Q2] Q0 Q1 1 [1,1,1] Qt h4 hz h1)
 refine kG ?_
 have hc:ox [none,none,none,some k] ρ=some [.un,.un,.un,.dat (.int p)]:=by
  show((((ρ[k]?.map LV.cap).bind λv=>(some []:Option (List LV)).map (v:: ·)).map (LV.un:: ·)).map (LV.un:: ·)).map (LV.un:: ·)=_
  rw[hk];rfl
 have hv:DI.val (DE.nm 0) ρ lx=some (true,arcs.map bQ,lx):=fC (aG h0) rfl
 unfold cw
 rw[hc,ac,hv,ac,e,hU,bK,nK,bO]
 rfl
noncomputable def zS:Nat->List Int
 |0=>[]
 |k+1=>(k:Int)::zS k
noncomputable def iS:Nat->List Int
 |0=>[]
 |k+1=>if k=0 then []else(k:Int)::iS k
theorem Gh:∀n:Fin 6,jl [.dat (.int (2 * (n.val:Int) - 1)),.dat (.int (-1)),.dat (.int (-1))]=some (2 * (n.val:Int) - 1, -1, -1)/\(dp (2 * (n.val:Int) - 1) (-1) (-1)&&decide (0<=aV (2 * (n.val:Int) - 1) (-1) (-1)))=true/\n6 (2 * (n.val:Int) - 1) (-1) (-1)=(zS (2 * n.val)).map .int:=by
 intro n
 match n with
 |0=>exact⟨rfl,by decide+kernel,by rfl⟩
 |1=>exact⟨rfl,by decide+kernel,by rfl⟩
 |2=>exact⟨rfl,by decide+kernel,by rfl⟩
 |3=>exact⟨rfl,by decide+kernel,by rfl⟩
 |4=>exact⟨rfl,by decide+kernel,by rfl⟩
 |5=>exact⟨rfl,by decide+kernel,by rfl⟩
theorem pd:∀n:Fin 6,jl [.dat (.int (2 * (n.val:Int) - 1)),.dat (.int 0),.dat (.int (-1))]=some (2 * (n.val:Int) - 1,0, -1)/\(dp (2 * (n.val:Int) - 1) 0 (-1)&&decide (0<=aV (2 * (n.val:Int) - 1) 0 (-1)))=true/\n6 (2 * (n.val:Int) - 1) 0 (-1)=(iS (2 * n.val)).map .int:=by
 intro n
 match n with
 |0=>exact⟨rfl,by decide+kernel,by rfl⟩
 |1=>exact⟨rfl,by decide+kernel,by rfl⟩
 |2=>exact⟨rfl,by decide+kernel,by rfl⟩
 |3=>exact⟨rfl,by decide+kernel,by rfl⟩
 |4=>exact⟨rfl,by decide+kernel,by rfl⟩
 |5=>exact⟨rfl,by decide+kernel,by rfl⟩
noncomputable def G4(arcs:List (Int × Int))(s:List Int × Int × Int)(p:Int):Option (List Int × Int × Int):=if bT s.1.length 30=true then(match nK arcs p with
 |[]=>if s.1.contains p=true then some (s.1.erase p,s.2)else none
 |m::_=>(part (JU m) s.1).bind λa=>(part (De m) s.1).bind λk=>(part (JU m) (s.1.take k++m::s.1.drop k)).bind λa'=>(part (De m) (s.1.take k++m::s.1.drop k)).bind λr=>
  if(a'==a&&bT a r)=true then some (s.1.take k++m::s.1.drop k,s.2.1+a,s.2.2+(((s.1.take k++m::s.1.drop k).length:Nat) - (r:Int)))else none)else none
noncomputable def lV(arcs:List (Int × Int)):Option (Int × Int):=(dR (G4 arcs) ([],0,0) (zS (2 * arcs.length))).map (·.2)
section
variable{lx:Lx}{ρ:List LV}
theorem FP{i:Nat}{l:List Int}(h:ρ[i]? =some (.own (l.map .int)))(hz:l.length<=64):DE.call lenF (DL.cons (DE.nm i) DL.nil) ρ lx=some (.dat (.int l.length),lx):=by
 have h4:(64:Nat)<=sizeLine:=by decide
 have e1:DE.nm i ρ lx=some (.bor (.list (l.map .int)),lx):=by unfold DE.nm;rw[h];rfl
 refine bM (aN e1 bl) ?_
 show((if decide ((l.map aw).length<=sizeLine)=true then some (Va.dat (aw ((l.map aw).length:Nat)))else none).map λv=>(v,lx))=_
 rw[if_pos (decide_eq_true (by rw[af];exact bo)),af]
 rfl
theorem lH{i:Nat}{l:List D}(h:ρ[i]? =some (.dat (.list l)))(hz:l.length<=4096):DE.call lenF (DL.cons (DE.nm i) DL.nil) ρ lx=some (.dat (.int l.length),lx):=by
 have h4:(4096:Nat)<=sizeLine:=by decide
 refine bM (aN (aG h) bl) ?_
 show((if decide (l.length<=sizeLine)=true then some (Va.dat (aw (l.length:Nat)))else none).map λv=>(v,lx))=_
 rw[if_pos (decide_eq_true (by exact bo))]
 rfl
end
noncomputable def CK(arcs:List (Int × Int))(s:List Int × Int × Int)(ρ:List LV):Prop:=∃a b c d e f g h,ρ=[.dat (.list (arcs.map bQ)),.own (s.1.map .int),.dat (.int s.2.1),.dat (.int s.2.2),a,b,c,d,e,f,g,h]
theorem rW{arcs:List (Int × Int)}{s:List Int × Int × Int}{ρ:List LV}(a b c d e f g h:LV)(k:ρ=[.dat (.list (arcs.map bQ)),.own (s.1.map .int),.dat (.int s.2.1),.dat (.int s.2.2),a,b,c,d,e,f,g,h]):CK arcs s ρ:=⟨a,b,c,d,e,f,g,h,k⟩
@[elab_as_elim] theorem wR{arcs:List (Int × Int)}{s:List Int × Int × Int}{ρ:List LV}{P:List LV->Prop}(r:CK arcs s ρ)(k:∀a b c d e f g h,P [.dat (.list (arcs.map bQ)),.own (s.1.map .int),.dat (.int s.2.1),.dat (.int s.2.2),a,b,c,d,e,f,g,h]):P ρ:=by
 obtain⟨a,b,c,d,e,f,g,h,rfl⟩:=r;exact k a b c d e f g h
theorem Dr{i:Nat}{f:DF}{a:DE}{t:DT}{b:DS}{ρ:List LV}{lx:Lx}{l:List Int}{m:Int}{k:Nat}(h:ρ[i]? =some (.own (l.map .int)))(hz:l.length<=30)(ha:a ρ lx=some (.dat (.int m),lx))(hf:f [.dat (.list (l.map .int)),.dat (.int m),.dat (.int 0),.dat .none] lx=some (.dat (.int k),lx))(hk:k<=l.length)
  (ht:t (ρ.set i (.own ((l.take k++m::l.drop k).map .int))) lx=some (false,lx)):DS.insIf i f a t b ρ lx=some (.nxt,ρ.set i (.own ((l.take k++m::l.drop k).map .int)),lx):=by
 have eo:ownAt ρ i=some (l.map .int):=by unfold ownAt;rw[h];rfl
 have e1:(l.map aw).take k++aw m::(l.map aw).drop k=(l.take k++m::l.drop k).map aw:=by rw[aQ,hH,bX,q9]
 unfold DS.insIf
 rw[eo,ac,im,ac,if_pos (decide_eq_true (by exact bo)),ha,ac]
 show((f [.dat (.list (l.map .int)),.dat (.int m),.dat (.int 0),.dat .none] lx).bind _)=_
 rw[hf,ac]
 show(if decide ((0:Int)<=k/\(k:Int)<=l.length)=true then _ else _)=_
 rw[if_pos (decide_eq_true (by exact⟨bN _,Int.ofNat_le.mpr hk⟩)),mq,e1]
 exact(dW ht).trans rfl
theorem HR{i:Nat}{a:DE}{ρ:List LV}{lx:Lx}{l:List Int}{m:Int}(h:ρ[i]? =some (.own (l.map .int)))(hz:l.length<=64)(ha:a ρ lx=some (.dat (.int m),lx))(hm:l.contains m=true):DS.rem i a ρ lx=some (.nxt,ρ.set i (.own ((l.erase m).map .int)),lx):=by
 have h4:(64:Nat)<=sizeLine:=by decide
 have eo:ownAt ρ i=some (l.map .int):=by unfold ownAt;rw[h];rfl
 unfold DS.rem
 rw[eo,ac,im,ac,ha,ac]
 show(if l.contains m=true then(if decide (l.length<=sizeLine)=true then _ else _)else _)=_
 rw[if_pos hm,if_pos (decide_eq_true (by exact bo))]
theorem mH{as:DL}{rs:List Va}{a b c:Int}{ρ:List LV}{lx l1:Lx}{ds:List D}(h:as ρ lx=some (rs,l1))(e:jl rs=some (a,b,c))(g:(dp a b c&&decide (0<=aV a b c))=true)(hd:n6 a b c=ds):DI.range as ρ lx=some (true,ds,l1):=by
 unfold DI.range
 rw[h,ac,e,ac,if_pos g,hd]
theorem EB{x y:Int}:qT .Add (.dat (.int x)) (.dat (.int y))=some (.dat (.int (x+y))):=rfl
theorem yf{x y:Int}:qT .Sub (.dat (.int x)) (.dat (.int y))=some (.dat (.int (x - y))):=rfl
theorem AW{x:Int}:qT .Mult (.dat (.int 2)) (.dat (.int x))=some (.dat (.int (2 * x))):=rfl
theorem AS{arcs:List (Int × Int)}{lx:Lx}{z:Int × Int}(hz:arcs.length<=5)(h:lV arcs=some z):fPassed [.dat (.list (arcs.map bQ))] lx=some (.dat (.tuple [.int z.1,.int z.2]),lx):=by
 obtain⟨s',hs,rfl⟩:=tB h
 refine oG (Gh ⟨arcs.length,by exact dc ‹_›⟩) λg1 g2 g3=>?_
 have h4:(64:Nat)<=sizeLine:=by decide
 have hl:(arcs.map bQ).length=arcs.length:=af _
 unfold fPassed vz
 dsimp only
 refine lN (r:=.dat (.tuple [.int s'.2.1,.int s'.2.2])) rfl ?_
 refine aP rfl (aP (eC bw rfl) (aP (eC bw rfl) ?_))
 refine qx (CK arcs) (l:=zS (2 * arcs.length)) (enc:=aw) (mH (rs:=[.dat (.int (2 * (arcs.length:Int) - 1)),.dat (.int (-1)),.dat (.int (-1))])
  (aN (cL (cL bw (hl▸lH rfl (by exact J2 [Qe Q0 Q1,Ql Q1 (Qn 5)] Q0 (Qn 4096) 1 [1,1] Qt hl hz)) AW) bw yf) (aN (mL bw) (aN (mL bw) bl))) g1 g2 g3) hs (rW _ _ _ _ _ _ _ _ rfl) ?_ ?_
 ·intro s p s' ρ h0 hR
  refine wR hR λa b c d e f g h=>?_
  refine⟨_,rfl,?_⟩
  refine aP (nf (sf (p:=p) rfl rfl (by exact bo)) (ag rfl)) ?_
  have hsz:(nK arcs p).length<=64:=by
   have:=bP (λa:Int × Int=>wa a.2 p) arcs
   rw[nK,af];exact J2 [Ql Q1 (Qn 5),Ql Q0 Q1] Q0 (Qn 64) 1 [1,1] Qt hz this
  unfold G4 at h0
  refine en (cb h0) λhs h0=>?_
  have hs:=ag hs
  cases hm:nK arcs p with
  |nil=>
   rw[hm]at h0
   refine en (cb h0) λg e=>?_
   cases e
   have ht:gF .Eq (.dat (.list ([]:List D))) (.dat (.list []))=some true:=rfl
   exact bZ (ib (bS (aG rfl) (jc bl rfl rfl) ht) (aP (HR rfl (by exact bo) (aG rfl) g) (bv ⟨rfl,bv ⟨rfl,rfl,rW _ _ _ _ _ _ _ _ rfl⟩⟩)))
  |cons m ms=>
   rw[hm]at h0
   refine nG λkG=>?_;obtain⟨a,ea,h0⟩:=eg h0
   refine a7 (eg h0) λk ek h0=>?_
   refine a7 (eg h0) λa' ea' h0=>?_
   refine a7 (eg h0) λr er h0=>?_
   obtain⟨g,e⟩:=cb h0
   refine kG ?_
   cases e
   obtain⟨g1,g2⟩:=Bool.and_eq_true_iff.mp g
   obtain rfl:=eq_of_beq g1
   have g2:=ag g2
   have ht:gF .Eq (.dat (.list ((m::ms).map aw))) (.dat (.list []))=some false:=(yR (d:=.list ((m::ms).map .int)) (e:=.list []) (Sh.ints.mono (by decide)) ((Sh.ints (l:=[])).mono (by decide)) rfl rfl).trans (congrArg some (by simp[gY,PyData.eqvAll]))
   have hk:=(m5 ek).1
   have hn:(s.1.take k++m::s.1.drop k).length<=31:=by rw[au,aT,nB,eS];exact KX hs
   refine bZ (dQ (bS (aG rfl) (jc bl rfl rfl) ht) ?_)
   refine aP (eC (bM (aN (r7 rfl rfl) (aN (fh (aG rfl) bw rfl zE (by decide)) bl)) (Ab (by exact bo) ea)) rfl) ?_
   refine aP (Dr (l:=s.1) (m:=m) rfl hs (fh (aG rfl) bw rfl zE (by decide)) (IT (by exact bo) ek) hk ?_) ?_
   ·exact bS (z:=false) (bM (aN (r7 rfl rfl) (aN (fh (aG rfl) bw rfl zE (by decide)) bl)) (Ab (by exact bo) ea')) (aG rfl) (by rw[KL];simp)
   refine aP (lP rfl rfl (aG rfl) rfl) (aP (lP rfl rfl (cL (FP rfl (by exact bo)) (bM (aN (r7 rfl rfl) (aN (fh (aG rfl) bw rfl zE (by decide)) (aN (aG rfl) bl))) (GB (by exact bo) g2 er)) yf) rfl) (bv ⟨rfl,bv ⟨rfl,rfl,rW _ _ _ _ _ _ _ _ rfl⟩⟩))
 ·intro ρ hR
  refine wR hR λa b c d e f g h=>?_
  exact kF (pH (aN (aG rfl) (aN (aG rfl) bl)) rfl rfl) ⟨rfl,rfl⟩
theorem rV{α:Type}{ds:List α}:∀{m a:Nat},((aM m).map (a+ ·)).filterMap (ds[·]?)=(ds.drop a).take m:=by
 intro m
 induction m with
 |zero=>intro a;simp
 |succ m ih=>
  intro a
  rw[wj,aQ,List.filterMap_append,ih,List.take_add_one,fc]
  congr 1
theorem Gl{α:Type}{ds:List α}{a b:Nat}(h:a<=ds.length)(hb:b<=ds.length):qf ds (some (a:Int)) (some (b:Int)) none=(ds.drop a).take (b - a):=by
 have e:da (some (a:Int)) (some (b:Int)) none ds.length=((a:Int),(b:Int),1):=by
  unfold da
  have h1:¬((a:Int) < 0):=by exact nofun
  have h2:¬((b:Int) < 0):=by exact Int.not_lt.mpr (bN _)
  have h3:(1:Int) > 0:=by decide
  simp only[Option.getD_none,h1,h2,h3,if_true,if_false]
  refine congr (congrArg Prod.mk ?_) (congrArg (λz=>(z,(1:Int))) ?_)<;>exact Ld ‹_›
 unfold qf
 rw[e]
 show(qF (a:Int) b 1).filterMap _=_
 rw[sliceRange_one,rV]
theorem IC{α:Type}{ds:List α}{b:Nat}:qf ds none (some (b:Int)) none=ds.take b:=by
 have e:da none (some (b:Int)) none ds.length=(((0:Nat):Int),((min b ds.length:Nat):Int),1):=by
  unfold da
  have h2:¬((b:Int) < 0):=by exact nofun
  have h3:(1:Int) > 0:=by decide
  simp only[Option.getD_none,h2,h3,if_true,if_false]
  refine congr (congrArg Prod.mk rfl) (congrArg (λz=>(z,(1:Int))) ?_)
  omega
 unfold qf
 rw[e]
 show(qF ((0:Nat):Int) ((min b ds.length:Nat):Int) 1).filterMap _=_
 rw[sliceRange_one,rV,lu,Nat.sub_zero]
 by_cases h:b<=ds.length
 ·rw[fq h]
 ·rw[Nat.min_eq_right (by exact J2 [Ql (Qs Q0 1) Q1] Q0 Q1 1 [1] Qt (gu h)),uQ,fb (by exact J2 [Ql (Qs Q0 1) Q1] Q0 Q1 1 [1] Qt (gu h))]
theorem Ed{ds:List D}{a b:Nat}(h:a<=ds.length)(hb:b<=ds.length)(hz:ds.length<=4096):tF (.list ds) (some (a:Int)) (some (b:Int)) none=some (.list ((ds.drop a).take (b - a))):=by
 have h4:(4096:Nat)<=sizeLine:=by decide
 show(if decide (none≠some (0:Int)/\ds.length<=sizeLine)=true then some (cj (qf ds _ _ none))else none)=_
 rw[if_pos (decide_eq_true ⟨(λh=>by cases h),by exact bo⟩),Gl h hb]
theorem rm{ds:List D}{b:Nat}(hz:ds.length<=4096):tF (.list ds) none (some (b:Int)) none=some (.list (ds.take b)):=by
 have h4:(4096:Nat)<=sizeLine:=by decide
 show(if decide (none≠some (0:Int)/\ds.length<=sizeLine)=true then some (cj (qf ds _ _ none))else none)=_
 rw[if_pos (decide_eq_true ⟨(λh=>by cases h),by exact bo⟩),IC]
noncomputable def bu(rows:List (List Int)):List (List D):=rows.map (·.map .int)
noncomputable def z0:Nat->List (List Int) × Int × Nat->Option (List (List Int) × Int × Nat)
 |0=>λ_=>none
 |f+1=>λs=>match s.1[s.2.2]? with
  |none=>some s
  |some r=>if bT r.length 30=true then(part (De s.2.1) r).bind λi=>(match r[i]? with
   |none=>some s
   |some d=>z0 f (s.1.set s.2.2 (r.set i s.2.1),d,s.2.2+1))else none
noncomputable def FY(rows:List (List Int))(x:Int):Option (List (List Int)):=if bT rows.length 30=true then(z0 64 (rows,x,0)).bind λs=>if bT s.1.length 30=true then(match s.1[s.2.2]? with
 |some r=>if bT r.length 30=true then some (s.1.set s.2.2 (r++[s.2.1]))else none
 |none=>if s.2.2==s.1.length then some (s.1++[[s.2.1]])else none)else none else none
noncomputable def Ke(p:Int)(rows:List (List Int)):List (List Int):=(rows.map λr=>r.filter λx=>!(x==p)).filter λr=>!r.isEmpty
noncomputable def JC(rows:List (List Int)):Int × Int:=(oW (0::(rows.take 1).map λr=>(r.length:Int)),(rows.length:Int))
noncomputable def Jz(arcs:List (Int × Int))(s:List (List Int) × List (Int × Int))(p:Int):Option (List (List Int) × List (Int × Int)):=
 if(bT s.1.length 30&&(s.1.all λr=>bT r.length 30)&&bT s.2.length 30)=true then(dR FY (Ke p s.1) (nK arcs p)).bind λrows=>if(bT rows.length 30&&rows.all λr=>bT r.length 30)=true then some (rows,s.2++[JC rows])else none else none
noncomputable def ye(arcs:List (Int × Int)):Option (List (Int × Int)):=(dR (Jz arcs) ([],[]) (iS (2 * arcs.length))).map (·.2)
theorem wM{st:List D->Lx->Option (Option (List D) × Lx)}{g:List Int->Option (List Int)}{lx:Lx}:∀{rows:List (List Int)},(∀r∈rows,st (r.map .int) lx=some ((g r).map (·.map .int),lx))->nJ st (bu rows) lx=some (bu (rows.filterMap g),lx)
 |[],_=>rfl
 |r::rows,h=>by
  have ih:=wM (rows:=rows) λq m=>h q (.tail _ m)
  show(st (r.map .int) lx).bind _=_
  rw[h r (.head _),ac]
  show(nJ st (bu rows) lx).map _=_
  rw[ih,hU,qL]
  cases g r<;>rfl
theorem um{l:List Int}:(l.map aw).all jw=true:=List.all_eq_true.mpr λd m=>by
 obtain⟨x,_,rfl⟩:=List.mem_map.mp m
 rfl
theorem yn{rows:List (List Int)}(h:rows.length<=4096):(decide ((bu rows).length<=4096)&&(bu rows).all λds=>ds.all jw)=true:=by
 rw[aI]
 refine⟨decide_eq_true (by rw[bu,af];exact h),List.all_eq_true.mpr λds m=>?_⟩
 obtain⟨r,_,rfl⟩:=List.mem_map.mp m
 exact um
theorem wK{i:Nat}{cs:List (Option Nat)}{st:List LV->List D->Lx->Option (Option (List D) × Lx)}{g:List Int->Option (List Int)}{ρ ρc:List LV}{lx:Lx}{rows:List (List Int)}(h0:ρ[i]? =some (.own2 (bu rows)))(hz:rows.length<=4096)(hc:ox cs ρ=some ρc)(h:∀r∈rows,st ρc (r.map .int) lx=some ((g r).map (·.map .int),lx)):wL i cs st ρ lx=some (.nxt,ρ.set i (.own2 (bu (rows.filterMap g))),lx):=by
 unfold wL own2At
 rw[h0]
 show(if(decide ((bu rows).length<=4096)&&(bu rows).all λds=>ds.all jw)=true then _ else _)=_
 rw[if_pos (yn hz),hc,ac,wM h]
 rfl
section
variable{ρ:List LV}{lx:Lx}
theorem wN{i j k:Nat}{rows:List (List Int)}{r:List Int}(h:ρ[i]? =some (.own2 (bu rows)))(hj:ρ[j]? =some (.dat (.int k)))(hr:rows[k]? =some r)(hz:k<=64):DE.item (DE.nm i) (DE.nm j) ρ lx=some (.bor (.list (r.map .int)),lx):=by
 have e:((bu rows).map cj)[k]? =some (.list (r.map .int)):=by rw[bu,bO,aW,hr];rfl
 exact fh (r:=.bor (.list ((bu rows).map .list))) (r7 h rfl) (aG hj) rfl (nL e) (by omega)
theorem mN{i:Nat}{rows:List (List Int)}(h:ρ[i]? =some (.own2 (bu rows)))(hz:rows.length<=64):DE.call lenF (DL.cons (DE.nm i) DL.nil) ρ lx=some (.dat (.int rows.length),lx):=by
 have h4:(64:Nat)<=sizeLine:=by decide
 refine bM (aN (r7 h rfl) bl) ?_
 have e:((bu rows).map cj).length=rows.length:=by rw[af,bu,af]
 show((if decide (((bu rows).map cj).length<=sizeLine)=true then some (Va.dat (aw (((bu rows).map cj).length:Nat)))else none).map λv=>(v,lx))=_
 rw[e,if_pos (decide_eq_true (by exact bo))]
 rfl
theorem JZ{l:List Int}(h:l.length<=64):lenF [.bor (.list (l.map .int))] lx=some (.dat (.int l.length),lx):=by
 have h4:(64:Nat)<=sizeLine:=by decide
 show((if decide ((l.map aw).length<=sizeLine)=true then some (Va.dat (aw ((l.map aw).length:Nat)))else none).map λv=>(v,lx))=_
 rw[if_pos (decide_eq_true (by rw[af];exact bo)),af]
 rfl
theorem Ib{i:Nat}{rows:List (List Int)}(h:ρ[i]? =some (.own2 (bu rows))):own2At ρ i=some (bu rows):=by unfold own2At;rw[h];rfl
theorem t9{rows:List (List Int)}{r:List Int}{k:Nat}(h:rows[k]? =some r)(hz:k<=64):lB (bu rows) (.dat (.int k))=some (k,r.map .int):=by
 unfold lB dM
 dsimp only
 rw[ac,if_pos (decide_eq_true (by exact⟨bN _,ly (Int.ofNat_le.mpr hz) (by decide)⟩)),mq,bu,aW,h];rfl
theorem wJ{rows:List (List Int)}{k:Nat}{r:List Int}:(bu rows).set k (r.map .int)=bu (rows.set k r):=by rw[bu,bu,List.map_set]
theorem Fi{i:Nat}{ak aj ax:DE}{rows:List (List Int)}{r:List Int}{k j:Nat}{x:Int}(h:ρ[i]? =some (.own2 (bu rows)))(hx:ax ρ lx=some (.dat (.int x),lx))(hk:ak ρ lx=some (.dat (.int k),lx))(hj:aj ρ lx=some (.dat (.int j),lx))(hr:rows[k]? =some r)(hz:k<=64)(hjr:j < r.length)(hrz:r.length<=64):
  DS.set2 i ak aj ax ρ lx=some (.nxt,ρ.set i (.own2 (bu (rows.set k (r.set j x)))),lx):=by
 unfold DS.set2
 rw[Ib h,ac,hx,ac]
 show((ak ρ lx).bind _)=_
 rw[hk,ac]
 show((lB (bu rows) (.dat (.int k))).bind _)=_
 rw[t9 hr hz,ac]
 show((aj ρ lx).bind _)=_
 rw[hj,ac]
 unfold dM
 dsimp only
 rw[ac,if_pos (decide_eq_true (by rw[af,mq];exact⟨bN _,ij (Int.ofNat_lt.mpr hjr) (dA (Int.ofNat_le.mpr hrz) (by decide)),hjr⟩)),mq,<-wJ,List.map_set]
theorem Ad{i:Nat}{ak ax:DE}{rows:List (List Int)}{r:List Int}{k:Nat}{x:Int}(h:ρ[i]? =some (.own2 (bu rows)))(hx:ax ρ lx=some (.dat (.int x),lx))(hk:ak ρ lx=some (.dat (.int k),lx))(hr:rows[k]? =some r)(hz:k<=64)(hrz:r.length<=64):
  DS.app2 i ak ax ρ lx=some (.nxt,ρ.set i (.own2 (bu (rows.set k (r++[x])))),lx):=by
 unfold DS.app2
 rw[Ib h,ac,hk,ac]
 show((lB (bu rows) (.dat (.int k))).bind _)=_
 rw[t9 hr hz,ac]
 show((ax ρ lx).bind _)=_
 rw[hx,ac]
 show(if decide ((r.map aw).length<=4096)=true then _ else _)=_
 rw[if_pos (decide_eq_true (by rw[af];exact bo)),<-wJ,aQ]
 rfl
theorem Ey{i:Nat}{rows:List (List Int)}(h:ρ[i]? =some (.own2 (bu rows)))(hz:rows.length<=64):DS.app2e i ρ lx=some (.nxt,ρ.set i (.own2 (bu (rows++[[]]))),lx):=by
 unfold DS.app2e
 rw[Ib h,ac,if_pos (decide_eq_true (by rw[bu,af];exact bo)),bu,bu,aQ]
 rfl
end
noncomputable def z7:DT:=(DT.cmp .Lt (DE.nm 6) (DE.call lenF (DL.cons (DE.nm 1) DL.nil))).and ((DT.cmp .Lt (DE.call fBisR (DL.cons ((DE.nm 1).item (DE.nm 6)) (DL.cons (DE.nm 5) DL.nil))) (DE.call lenF (DL.cons ((DE.nm 1).item (DE.nm 6)) DL.nil))).and DT.tt)
noncomputable def Ek:DS:=(DS.asg 7 (DE.call fBisR (DL.cons ((DE.nm 1).item (DE.nm 6)) (DL.cons (DE.nm 5) DL.nil)))).cons ((DS.asg 8 (((DE.nm 1).item (DE.nm 6)).item (DE.nm 7))).cons ((DS.set2 1 (DE.nm 6) (DE.nm 7) (DE.nm 5)).cons ((DS.asg 5 (DE.nm 8)).cons ((DS.aug 6 .Add (DE.k (.int 1))).cons DS.nil))))
noncomputable def uU(a S pl ms:LV)(s:List (List Int) × Int × Nat)(u v c d e f:LV):List LV:=[a,.own2 (bu s.1),S,pl,ms,.dat (.int s.2.1),.dat (.int s.2.2),u,v,c,d,e,f]
section
variable{lx:Lx}{a S pl ms c d e f:LV}
theorem I0{t u:DT}{ρ:List LV}{l1:Lx}(h:t ρ lx=some (false,l1)):t.and u ρ lx=some (false,l1):=by
 unfold DT.and
 rw[h];rfl
theorem Gy{s:List (List Int) × Int × Nat}{u v:LV}(h:s.1[s.2.2]? =none)(hz:s.1.length<=30):z7 (uU a S pl ms s u v c d e f) lx=some (false,lx):=by
 have hk:=List.getElem?_eq_none_iff.mp h
 exact I0 (bS (aG rfl) (mN rfl (by exact J1 [Ql Q0 (Qn 30)] Q0 (Qn 64) 1 [1] Qt hz)) (congrArg some (decide_eq_false (by exact Int.not_lt.mpr (Int.ofNat_le.mpr hk)))))
theorem zZ{s:List (List Int) × Int × Nat}{u v:LV}{r:List Int}{i:Nat}(h:s.1[s.2.2]? =some r)(hz:s.1.length<=30)(hr:r.length<=30)(hi:part (De s.2.1) r=some i):z7 (uU a S pl ms s u v c d e f) lx=some (decide (i < r.length),lx):=by
 have hk:=(List.getElem?_eq_some_iff.mp h).1
 have hit:DE.item (DE.nm 1) (DE.nm 6) (uU a S pl ms s u v c d e f) lx=some (.bor (.list (r.map .int)),lx):=wN rfl rfl h (by exact J2 [Ql (Qs Q0 1) Q1,Ql Q1 (Qn 30)] Q0 (Qn 64) 1 [1,1] Qt hk hz)
 have h1:=lQ (bS (op:=.Lt) (aG (i:=6) (ρ:=uU a S pl ms s u v c d e f) (lx:=lx) rfl) (mN (i:=1) rfl (by exact bo)) (z:=true) (congrArg some (decide_eq_true (by exact Int.ofNat_lt.mpr (hk)))))
  (lQ (bS (op:=.Lt) (bM (aN hit (aN (aG (i:=5) rfl) bl)) (Aa (by exact bo) hi)) (bM (aN hit bl) (JZ (by exact bo))) (z:=decide ((i:Int) < (r.length:Int))) rfl) tR)
 rw[jG,dU]at h1
 refine h1.trans (congrArg (λz=>some (z,lx)) ?_)
 exact decide_eq_decide.mpr (by exact Int.ofNat_lt)
theorem IP{s:List (List Int) × Int × Nat}{u v:LV}{r:List Int}{i:Nat}{dr:Int}(h:s.1[s.2.2]? =some r)(hz:s.1.length<=30)(hr:r.length<=30)(hi:part (De s.2.1) r=some i)(hd:r[i]? =some dr):
  Rn (Ek (uU a S pl ms s u v c d e f) lx) (Nx lx λρ=>∃u v,ρ=uU a S pl ms (s.1.set s.2.2 (r.set i s.2.1),dr,s.2.2+1) u v c d e f):=by
 have hk:=(List.getElem?_eq_some_iff.mp h).1
 have hil:=(List.getElem?_eq_some_iff.mp hd).1
 have hit:∀u v,DE.item (DE.nm 1) (DE.nm 6) (uU a S pl ms s u v c d e f) lx=some (.bor (.list (r.map .int)),lx):=λu v=>wN rfl rfl h (by exact J2 [Ql (Qs Q0 1) Q1,Ql Q1 (Qn 30)] Q0 (Qn 64) 1 [1,1] Qt hk hz)
 have hdd:(r.map aw)[i]? =some (.int dr):=by rw[aW,hd];rfl
 refine aP (eC (bM (aN (hit u v) (aN (aG rfl) bl)) (Aa (by exact bo) hi)) rfl) ?_
 refine aP (eC (fh (hit _ v) (aG (d:=.int i) rfl) rfl (nL hdd) (by exact E9 (bf (ay hil hr)) rfl)) rfl) ?_
 refine aP (Fi (rows:=s.1) (k:=s.2.2) (x:=s.2.1) rfl (aG rfl) (aG rfl) (aG (d:=.int i) rfl) h (by exact J2 [Ql (Qs Q0 1) Q1,Ql Q1 (Qn 30)] Q0 (Qn 64) 1 [1,1] Qt hk hz) hil (by exact bo)) ?_
 refine aP (eC (aG rfl) rfl) (aP (lP (d:=.int (s.2.2+1:Nat)) rfl rfl bw rfl) (bv ⟨rfl,rfl,_,_,rfl⟩))
theorem tP{t:DT}{b:DS}{n:Nat}{ρ:List LV}(h:t ρ lx=some (false,lx)):jX t b (n+1) ρ lx=some (.nxt,ρ,lx):=by
 show(t ρ lx).bind _=_
 rw[h];rfl
theorem BU{t:DT}{b:DS}{n:Nat}{ρ ρ2:List LV}{o:Fl × List LV × Lx}(h:t ρ lx=some (true,lx))(hb:b ρ lx=some (.nxt,ρ2,lx))(k:jX t b n ρ2 lx=some o):jX t b (n+1) ρ lx=some o:=by
 show(t ρ lx).bind _=_
 rw[h]
 show(b ρ lx).bind _=_
 rw[hb];exact k
theorem IN{n:Nat}:∀{s s':List (List Int) × Int × Nat} {u v:LV},z0 n s=some s'->s.1.length<=30->∃u' v',jX z7 Ek n (uU a S pl ms s u v c d e f) lx=some (.nxt,uU a S pl ms s' u' v' c d e f,lx):=by
 induction n with
 |zero=>intro s s' u v h;exact nomatch h
 |succ n ih=>
  intro s s' u v h hz
  unfold z0 at h
  cases hk:s.1[s.2.2]? with
  |none=>
   rw[hk]at h
   cases h
   exact Y2 u v (tP (Gy hk hz))
  |some r=>
   rw[hk]at h
   refine en (cb h) λg h=>?_
   have hr:=ag g
   refine a7 (eg h) λi hi h=>?_
   cases hd:r[i]? with
   |none=>
    rw[hd]at h
    cases h
    have e:=zZ (lx:=lx) (a:=a) (S:=S) (pl:=pl) (ms:=ms) (u:=u) (v:=v) (c:=c) (d:=d) (e:=e) (f:=f) hk hz hr hi
    rw[decide_eq_false (Nat.not_lt.mpr (List.getElem?_eq_none_iff.mp hd))]at e
    exact Y2 u v (tP e)
   |some dr=>
    rw[hd]at h
    have e0:=zZ (lx:=lx) (a:=a) (S:=S) (pl:=pl) (ms:=ms) (u:=u) (v:=v) (c:=c) (d:=d) (e:=e) (f:=f) hk hz hr hi
    rw[decide_eq_true (List.getElem?_eq_some_iff.mp hd).1]at e0
    refine nG λkG=>?_;obtain⟨⟨fl,ρ2,l2⟩,e2,rfl,rfl,u2,v2,rfl⟩:=(IP (lx:=lx) (a:=a) (S:=S) (pl:=pl) (ms:=ms) (u:=u) (v:=v) (c:=c) (d:=d) (e:=e) (f:=f) hk hz hr hi hd).eq
    refine ml (ih (u:=u2) (v:=v2) h (by rw[dL];exact hz)) λu3 v3 e3=>?_
    refine kG ?_
    exact Y2 u3 v3 (BU e0 e2 e3)
noncomputable def K1:DS:=(DS.asg 6 (DE.k (.int 0))).cons ((DS.while 64 z7 Ek).cons ((DS.ite (DT.cmp .Eq (DE.nm 6) (DE.call lenF (DL.cons (DE.nm 1) DL.nil))) ((DS.app2e 1).cons DS.nil) DS.nil).cons ((DS.app2 1 (DE.nm 6) (DE.nm 5)).cons DS.nil)))
theorem J7{rows rows':List (List Int)}{x:Int}{k u v:LV}(h:FY rows x=some rows'):Rn (K1 [a,.own2 (bu rows),S,pl,ms,.dat (.int x),k,u,v,c,d,e,f] lx) (Nx lx λρ=>∃y k u v,ρ=[a,.own2 (bu rows'),S,pl,ms,y,k,u,v,c,d,e,f]):=by
 unfold FY at h
 refine en (cb h) λg h=>?_
 have hz:=ag g
 refine a7 (eg h) λs hs h=>?_
 refine en (cb h) λg h=>?_
 have hz':=ag g
 refine ml (IN (lx:=lx) (a:=a) (S:=S) (pl:=pl) (ms:=ms) (u:=u) (v:=v) (c:=c) (d:=d) (e:=e) (f:=f) hs hz) λu' v' hw=>?_
 refine aP (eC bw rfl) (aP hw ?_)
 cases hk:s.1[s.2.2]? with
 |some r=>
  rw[hk]at h
  refine en (cb h) λg h=>?_
  cases h
  have hr:=ag g
  have hl:=(List.getElem?_eq_some_iff.mp hk).1
  refine bZ (dQ (bS (aG rfl) (mN rfl (by exact bo)) (Hk.trans (congrArg some (beq_eq_false_iff_ne.mpr (by exact λe=>aK hl (Au e)))))) (bv ⟨rfl,?_⟩))
  exact aP (Ad (rows:=s.1) (k:=s.2.2) (x:=s.2.1) rfl (aG rfl) (aG rfl) hk (by exact J2 [Ql (Qs Q0 1) Q1,Ql Q1 (Qn 30)] Q0 (Qn 64) 1 [1,1] Qt hl hz') (by exact bo)) (bv ⟨rfl,rfl,_,_,_,_,rfl⟩)
 |none=>
  rw[hk]at h
  refine en (cb h) λg h=>?_
  cases h
  have hl:s.2.2=s.1.length:=eq_of_beq g
  refine bZ (ib (bS (aG rfl) (mN rfl (by exact bo)) (Hk.trans (congrArg some (beq_iff_eq.mpr (by exact congrArg Int.ofNat (eu (J2 [Qe Q0 Q1] Q0 Q1 1 [1] Qt hl) (J2 [Qe Q1 Q0] Q0 Q1 1 [.negSucc 0] Qt hl))))))) (aP (Ey rfl (by exact bo)) (bv ⟨rfl,?_⟩)))
  have hr:(s.1++[[]])[s.2.2]? =some []:=by rw[hl,lm (ai _),s9];rfl
  have e2:(s.1++[[]]).set s.2.2 ([]++[s.2.1])=s.1++[[s.2.1]]:=by rw[hl,List.set_append_right _ _ (ai _),s9];rfl
  exact aP (Ad (rows:=s.1++[[]]) (k:=s.2.2) (x:=s.2.1) rfl (aG rfl) (aG rfl) hr (by exact J2 [Qe Q0 Q1,Ql Q1 (Qn 30)] Q0 (Qn 64) 1 [1,1] Qt hl hz') (bH _)) (bv ⟨rfl,rfl,_,_,_,_,by rw[e2];rfl⟩)
end
noncomputable def Hw(arcs:List (Int × Int))(s:List (List Int) × List (Int × Int))(ρ:List LV):Prop:=∃a b c d e f g h i j,ρ=[.dat (.list (arcs.map bQ)),.own2 (bu s.1),.own (s.2.map bQ),a,b,c,d,e,f,g,h,i,j]
theorem zi{arcs:List (Int × Int)}{s:List (List Int) × List (Int × Int)}{ρ:List LV}(a b c d e f g h i j:LV)(k:ρ=[.dat (.list (arcs.map bQ)),.own2 (bu s.1),.own (s.2.map bQ),a,b,c,d,e,f,g,h,i,j]):Hw arcs s ρ:=⟨a,b,c,d,e,f,g,h,i,j,k⟩
@[elab_as_elim] theorem zj{arcs:List (Int × Int)}{s:List (List Int) × List (Int × Int)}{ρ:List LV}{P:List LV->Prop}(r:Hw arcs s ρ)(k:∀a b c d e f g h i j,P [.dat (.list (arcs.map bQ)),.own2 (bu s.1),.own (s.2.map bQ),a,b,c,d,e,f,g,h,i,j]):P ρ:=by
 obtain⟨a,b,c,d,e,f,g,h,i,j,rfl⟩:=r;exact k a b c d e f g h i j
theorem tC{p:Int}{rows:List (List Int)}:(rows.filterMap λr=>some (r.filter λx=>!(x==p)))=rows.map λr=>r.filter λx=>!(x==p):=by
 induction rows with
 |nil=>rfl
 |cons r rows ih=>rw[qL,bX,ih]
theorem vF{rows:List (List Int)}:(rows.filterMap λr=>if r.isEmpty=true then none else some r)=rows.filter λr=>!r.isEmpty:=by
 induction rows with
 |nil=>rfl
 |cons r rows ih=>
  rw[qL,gw,ih]
  cases r.isEmpty<;>rfl
theorem Ft{p:Int}{r:List Int}{lx:Lx}(hr:r.length<=64):Fu 1 (cw [none,none,some 2] (DI.val (DE.nm 1)) (Tg.nm 1) ((DT.cmp .NotEq (DE.nm 1) (DE.nm 2)).and DT.tt) (cF (DE.nm 1))) [.un,.un,.dat (.int p)] (r.map .int) lx=some (some ((r.filter λx=>!(x==p)).map .int),lx):=by
 refine nG λkG=>?_;obtain⟨ρ',e,_⟩:=eO (fz:=false) (tg:=Tg.nm 1) (ifs:=(DT.cmp .NotEq (DE.nm 1) (DE.nm 2)).and DT.tt) (elt:=DE.nm 1) (enc:=aw) (p:=λx=>!(x==p)) (f:=aw)
  (I:=λρ=>∃a,ρ=[.un,a,.dat (.int p)]) (lx:=lx) r [] [.un,.un,.dat (.int p)] (λx ρ _ ⟨a,hρ⟩=>by
   subst hρ
   refine⟨[.un,.dat (.int x),.dat (.int p)],rfl,⟨_,rfl⟩,?_,λ_=>rfl⟩
   have:=lQ (ke (op:=.NotEq) (a:=DE.nm 1) (b:=DE.nm 2) (ρ:=[.un,.dat (.int x),.dat (.int p)]) (lx:=lx) rfl rfl KL) tR
   rwa [dU]at this) ⟨_,rfl⟩ (by
    have h1:=bP (λx:Int=>!(x==p)) r
    have h4:(64:Nat)<=sizeLine:=by decide
    simp only[cM,cE]
    exact J3 [Ql (Qn 64) Q1,Ql Q2 (Qn 64),Ql Q0 Q2] Q0 Q1 1 [1,1,1] Qt h4 hr h1)
 refine kG ?_
 have hc:ox [none,none,some 2] [.un,.bor (.list (r.map .int)),.dat (.int p)]=some [.un,.un,.dat (.int p)]:=rfl
 have hv:DI.val (DE.nm 1) [.un,.bor (.list (r.map .int)),.dat (.int p)] lx=some (false,r.map .int,lx):=rfl
 have hcomp:cw [none,none,some 2] (DI.val (DE.nm 1)) (Tg.nm 1) ((DT.cmp .NotEq (DE.nm 1) (DE.nm 2)).and DT.tt) (cF (DE.nm 1)) [.un,.bor (.list (r.map .int)),.dat (.int p)] lx=some ((r.filter λx=>!(x==p)).map .int,lx):=by
  unfold cw
  rw[hc,ac,hv,ac,e];rfl
 unfold Fu
 show((cw _ _ _ _ _ [.un,.bor (.list (r.map .int)),.dat (.int p)] lx).bind _)=_
 rw[hcomp,ac,if_pos um]
theorem Fq{r:List Int}{lx:Lx}:rowF (r.map .int) lx=some ((if r.isEmpty=true then none else some r).map (·.map .int),lx):=by
 have h:gF .NotEq (.bor (.list (r.map .int))) (.dat (.list []))=some (!r.isEmpty):=by
  show(gF .Eq (.bor (.list (r.map .int))) (.dat (.list []))).map (λz=>!z)=_
  rw[yR (d:=.list (r.map .int)) (e:=.list []) (Sh.ints.mono (by decide)) ((Sh.ints (l:=[])).mono (by decide)) rfl rfl]
  cases r<;>simp[gY,PyData.eqvAll]
 unfold rowF
 rw[h]
 cases r<;>rfl
theorem yk{rows:List (List Int)}{ρ:List LV}{lx:Lx}(h:ρ[1]? =some (.own2 (bu rows)))(hz:rows.length<=30)(hr:∀r∈rows.take 1,r.length<=64):
  cw [none,none,none] (DI.val ((DE.nm 1).cut DO.no (DO.of (DE.k (.int 1))) DO.no)) (Tg.nm 1) DT.tt (cF (DE.call lenF (DL.cons (DE.nm 1) DL.nil))) ρ lx=some (((rows.take 1).map λr=>(r.length:Int)).map .int,lx):=by
 refine nG λkG=>?_;obtain⟨ρ',e,_⟩:=eO (fz:=false) (tg:=Tg.nm 1) (ifs:=DT.tt) (elt:=DE.call lenF (DL.cons (DE.nm 1) DL.nil)) (enc:=λr:List Int=>cj (r.map .int)) (p:=λ_=>true) (f:=λr=>aw (r.length:Int))
  (I:=λρ=>∃a,ρ=[.un,a,.un]) (lx:=lx) (rows.take 1) [] [.un,.un,.un] (λx ρ m ⟨a,hρ⟩=>by
   subst hρ
   exact⟨[.un,.bor (.list (x.map .int)),.un],rfl,⟨_,rfl⟩,rfl,λ_=>bM (aN (r7 rfl rfl) bl) (JZ (hr x m))⟩) ⟨_,rfl⟩ (by
    have h1:=bP (λ_:List Int=>true) (rows.take 1)
    have h2:=qJ 1 rows
    have h4:(64:Nat)<=sizeLine:=by decide
    simp only[cM,cE]
    exact J3 [Ql (Qn 64) Q1,Ql Q2 (Qn 1),Ql Q0 Q2] Q0 Q1 1 [1,1,1] Qt h4 h2 h1)
 refine kG ?_
 have hc:ox [none,none,none] ρ=some [.un,.un,.un]:=rfl
 have hcut:DE.cut (DE.nm 1) DO.no (DO.of (DE.k (.int 1))) DO.no ρ lx=some (.bor (.list (((bu rows).map cj).take 1)),lx):=
  lL (r:=.bor (.list ((bu rows).map .list))) (r7 h rfl) jz (lY bw) jz rfl (rm (b:=1) (by rw[af,bu,af];exact bo))
 have hm:((bu rows).map cj).take 1=(rows.take 1).map λr:List Int=>cj (r.map .int):=by rw[bu,bO,hH];rfl
 unfold cw
 rw[hc,ac,fC (fz:=false) (ds:=(rows.take 1).map λr:List Int=>cj (r.map .int)) hcut (by rw[hm];rfl),ac,e,hU,bK,List.filter_eq_self.mpr (λ_ _=>rfl),bO]
 rfl
theorem pJ{arcs:List (Int × Int)}{lx:Lx}{z:List (Int × Int)}(hz:arcs.length<=5)(h:ye arcs=some z):fTables [.dat (.list (arcs.map bQ))] lx=some (.dat (.list (z.map bQ)),lx):=by
 refine nG λkG=>?_;obtain⟨s',hX⟩:=tB h;obtain rfl:=hX.2;refine kG ?_;refine(λhs=>?_) hX.1
 refine oG (pd ⟨arcs.length,by exact dc ‹_›⟩) λg1 g2 g3=>?_
 have hl:(arcs.map bQ).length=arcs.length:=af _
 unfold fTables vy
 dsimp only
 refine lN (r:=.bor (.list (s'.2.map bQ))) rfl ?_
 refine aP rfl (aP rfl ?_)
 refine qx (Hw arcs) (l:=iS (2 * arcs.length)) (enc:=aw) (mH (rs:=[.dat (.int (2 * (arcs.length:Int) - 1)),.dat (.int 0),.dat (.int (-1))])
  (aN (cL (cL bw (hl▸lH rfl (by exact J2 [Qe Q0 Q1,Ql Q1 (Qn 5)] Q0 (Qn 4096) 1 [1,1] Qt hl hz)) AW) bw yf) (aN bw (aN (mL bw) bl))) g1 g2 g3) hs (zi _ _ _ _ _ _ _ _ _ _ rfl) ?_ ?_
 ·intro s p s' ρ h0 hR
  refine zj hR λa b c d e f g h i j=>?_
  refine⟨_,rfl,?_⟩
  unfold Jz at h0
  refine(λgd h0=>?_) (cb h0).1 (cb h0).2
  refine a7 (eg h0) λrows hrows h0=>?_
  refine(λgr h0=>?_) (cb h0).1 (cb h0).2
  cases h0
  rw[aI,aI]at gd
  refine(λhY0 gd3=>?_) gd.1 gd.2;obtain⟨gd1,gd2⟩:=hY0
  have hz1:=ag gd1
  have hz3:=ag gd3
  refine en (Bool.and_eq_true_iff.mp gr) λgr gr2=>?_
  have hzr:=ag gr
  have hzr2:∀r∈rows.take 1,r.length<=64:=λr m=>ah (ag (List.all_eq_true.mp gr2 r (List.mem_of_mem_take m))) (by decide)
  have ht:=qJ 1 rows
  have hz2:∀r∈s.1,r.length<=64:=λr m=>ah (ag (List.all_eq_true.mp gd2 r m)) (by decide)
  refine aP (nf (sf (p:=p) rfl rfl (by exact bo)) (ag rfl)) ?_
  refine aP (wK (rows:=s.1) (g:=λr=>some (r.filter λx=>!(x==p))) rfl (by exact bo) rfl λr m=>Ft (hz2 r m)) ?_
  rw[tC]
  refine aP (wK (rows:=s.1.map λr=>r.filter λx=>!(x==p)) (g:=λr=>if r.isEmpty=true then none else some r) rfl (by rw[af];exact bo) rfl λr m=>Fq) ?_
  rw[vF]
  refine qx (s:=Ke p s.1) (s':=rows) (l:=nK arcs p) (enc:=aw) (step:=FY) (λrows ρ=>∃y k u v,ρ=[.dat (.list (arcs.map bQ)),.own2 (bu rows),.own (s.2.map bQ),.dat (.int p),.dat (.list ((nK arcs p).map .int)),y,k,u,v,g,h,i,j])
   (fC (aG rfl) rfl) hrows ⟨_,_,_,_,rfl⟩ ?_ ?_
  ·intro r1 x r2 ρ h1 ⟨y,k,u,v,hρ⟩
   subst hρ
   exact⟨_,rfl,J7 h1⟩
  ·intro ρ ⟨y,k,u,v,hρ⟩
   subst hρ
   have hmx:=se (dN (yk (lx:=lx) (ρ:=[.dat (.list (arcs.map bQ)),.own2 (bu rows),.own (s.2.map bQ),.dat (.int p),.dat (.list ((nK arcs p).map .int)),y,k,u,v,g,h,i,j]) rfl hzr hzr2)) (.inl rfl) (by rw[af];exact bo)
   exact aP (mX (ds:=s.2.map bQ) rfl (rH (tA hmx) (mN rfl (by exact bo))) rfl (by rw[af];exact bo)) (bv ⟨rfl,rfl,zi _ _ _ _ _ _ _ _ _ _ (by rw[aQ];rfl)⟩)
 ·intro ρ hR
  refine zj hR λa b c d e f g h i j=>?_
  exact kF (r7 rfl rfl) ⟨rfl,rfl⟩
theorem qq:∀l:List (Int × Int),pP (l.map bQ)=some l
 |[]=>rfl
 |p::l=>by
  show(pP (l.map bQ)).map _=_
  rw[qq l];rfl
noncomputable def pQ(qs:List (Int × Int))(p:Int):List Int:=(qs.filter λa=>m7 a.1 p&&!m7 a.2 p).map (·.2)
noncomputable def ud(arcs:List (Int × Int)):Option (List (List Int)):=if(EU arcs&&(bT 2 arcs.length&&bT arcs.length 5))=true then(rO arcs).map λqs=>(iS (2 * arcs.length)).map (pQ qs)else none
theorem Co{a:DE}{arcs qs:List (Int × Int)}{ρ:List LV}{lx:Lx}(h:a ρ lx=some (.dat (.list (arcs.map bQ)),lx))(g:EU arcs=true)(h2:2<=arcs.length)(hz:arcs.length<=5)(e:rO arcs=some qs):DE.sortP a ρ lx=some (.dat (.list (qs.map bQ)),lx):=by
 unfold DE.sortP
 rw[h,ac]
 show((pP (arcs.map bQ)).bind _)=_
 rw[qq,ac,if_pos (by rw[g,jG];exact decide_eq_true ⟨h2,by exact bo⟩),e]
 rfl
theorem tY{ps qs:List (Int × Int)}(h:rO ps=some qs):qs.length=ps.length:=by
 unfold rO at h
 refine a7 (eg h) λp e h=>?_
 refine en (cb h) λg h=>?_
 cases h
 rw[af,cA]
 exact eq_of_beq (Bool.and_eq_true_iff.mp g).2
theorem FD{qs:List (Int × Int)}{p:Int}{lx:Lx}(hz:qs.length<=64):
  cw [none,none,none,some 1] (DI.val (DE.nm 2)) (Tg.tup [1,2]) ((DT.chain (DE.nm 1) (DC.more .Lt (DE.nm 3) (DC.one .LtE (DE.nm 2)))).and DT.tt) (cF (DE.nm 2)) [.un,.dat (.int p),.dat (.list (qs.map bQ))] lx=some ((pQ qs p).map .int,lx):=by
 refine nG λkG=>?_;obtain⟨ρ',e,_⟩:=eO (fz:=true) (tg:=Tg.tup [1,2]) (ifs:=(DT.chain (DE.nm 1) (DC.more .Lt (DE.nm 3) (DC.one .LtE (DE.nm 2)))).and DT.tt) (elt:=DE.nm 2) (enc:=bQ) (p:=λa=>m7 a.1 p&&!m7 a.2 p) (f:=λa=>aw a.2)
  (I:=λρ=>∃a b,ρ=[.un,a,b,.dat (.int p)]) (lx:=lx) qs [] [.un,.un,.un,.dat (.int p)] (λx ρ _ ⟨a,b,hρ⟩=>by
   subst hρ
   refine⟨[.un,.dat (.int x.1),.dat (.int x.2),.dat (.int p)],rfl,Y2 _ _ rfl,?_,λ_=>rfl⟩
   show((if decide (x.1 < p)=true then some (decide (p<=x.2),lx)else some (false,lx)).bind _)=some (m7 x.1 p&&!m7 x.2 p,lx)
   rw[ft,ft,show decide (p<=x.2)=!decide (x.2 < p)by by_cases h:p<=x.2<;>simp[h]<;>exact Int.lt_of_not_ge ‹_›]
   cases decide (x.1 < p)<;>cases decide (x.2 < p)<;>rfl) ⟨_,_,rfl⟩ (by
    have h1:=bP (λa:Int × Int=>m7 a.1 p&&!m7 a.2 p) qs
    have h4:(64:Nat)<=sizeLine:=by decide
    simp only[cM,cE]
    exact J3 [Ql (Qn 64) Q1,Ql Q2 (Qn 64),Ql Q0 Q2] Q0 Q1 1 [1,1,1] Qt h4 hz h1)
 refine kG ?_
 have hc:ox [none,none,none,some 1] [.un,.dat (.int p),.dat (.list (qs.map bQ))]=some [.un,.un,.un,.dat (.int p)]:=rfl
 unfold cw
 rw[hc,ac,fC (r:=.dat (.list (qs.map bQ))) (aG rfl) rfl,ac,e,hU,bK,pQ,bO]
 rfl
theorem FC{arcs:List (Int × Int)}{lx:Lx}{z:List (List Int)}(h:ud arcs=some z):fOver [.dat (.list (arcs.map bQ))] lx=some (.dat (.list (z.map λr=>cj (r.map .int))),lx):=by
 unfold ud at h
 refine(λg h=>?_) (cb h).1 (cb h).2
 obtain⟨qs,hX⟩:=tB h;obtain rfl:=hX.2;refine(λe=>?_) hX.1
 rw[aI,aI]at g
 refine(λgk g2 g5=>?_) g.1 g.2.1 g.2.2
 have g2:=ag g2
 have hz:=ag g5
 have hq:=tY e
 refine(λc1 c2 c3=>?_) (pd ⟨arcs.length,by exact dc ‹_›⟩).1 (pd ⟨arcs.length,by exact dc ‹_›⟩).2.1 (pd ⟨arcs.length,by exact dc ‹_›⟩).2.2
 have hl:(arcs.map bQ).length=arcs.length:=af _
 have hd:(iS (2 * arcs.length)).length<=64:=by
  have:∀k,(iS k).length<=k:=by
   intro k
   induction k with
   |zero=>exact ai _
   |succ k ih=>
    unfold iS
    split
    ·exact bH _
    ·exact cQ ih
  have:=this (2 * arcs.length)
  exact J2 [Ql Q0 (Qm 2 Q1),Ql Q1 (Qn 5)] Q0 (Qn 64) 1 [1,2] Qt this hz
 unfold fOver DG
 dsimp only
 refine lN (b:=false) (slots:=[0]) (rs:=[.dat (.list (arcs.map bQ))]) (r:=.dat (.list (((iS (2 * arcs.length)).map (pQ qs)).map λr=>cj (r.map .int)))) rfl ?_
 refine aP (eC (Co (arcs:=arcs) (aG rfl) gk g2 hz e) rfl) (kF (dN ?_) ⟨rfl,rfl⟩)
 rw[bO]
 exact iT (enc:=aw) (f:=λp=>cj ((pQ qs p).map .int)) (l:=iS (2 * arcs.length)) (λρ=>∃a,ρ=[.un,a,.dat (.list (qs.map bQ))]) (mH (rs:=[.dat (.int (2 * (arcs.length:Int) - 1)),.dat (.int 0),.dat (.int (-1))])
  (aN (cL (cL bw (hl▸lH rfl (by exact J2 [Qe Q0 Q1,Ql Q1 (Qn 5)] Q0 (Qn 4096) 1 [1,1] Qt hl hz)) AW) bw yf) (aN bw (aN (mL bw) bl))) c1 c2 c3) rfl ⟨_,rfl⟩ (by exact bo) λx ρ _ ⟨a,hρ⟩=>by
   subst hρ
   exact⟨[.un,.dat (.int x),.dat (.list (qs.map bQ))],rfl,⟨_,rfl⟩,dN (FD (by exact J2 [Qe Q0 Q1,Ql Q1 (Qn 5)] Q0 (Qn 64) 1 [1,1] Qt hq hz))⟩
noncomputable def S(l:List Nat):Str:=⟨l.toArray⟩
noncomputable def iu:Nat->List (List Nat)
 |0=>[[40],[32]]
 |1=>[[92,41],[40],[9]]
 |2=>[[34,92,34,41,34],[40],[12]]
 |3=>[[40],[100],[92,92]]
 |4=>[[92,34],[40],[101]]
 |5=>[[41]]
 |6=>[[41],[92,40]]
 |7=>[[41],[34,40,92,92,34]]
 |_=>[[41],[92,34]]
noncomputable def ce(c:Nat):List Nat:=(iu c).flatten
noncomputable def eE(c:Nat):Str:=S (ce c)
noncomputable def wordD(c:Nat):D:=.str (eE c)
noncomputable def cr(n:Nat):D:=.list ((aM n).map wordD)
theorem zF:∀n:Fin 2,∀c:Fin 9,gF .In (.dat (wordD c.val)) (.dat (cr (4+n.val)))=some (dl c.val (4+n.val)):=by decide+kernel
theorem wT:∀n:Fin 2,∀c:Fin 9,gF .NotIn (.dat (wordD c.val)) (.dat (cr (4+n.val)))=some (!(dl c.val (4+n.val))):=by decide+kernel
theorem BT:∀c d:Fin 9,(eE c.val==eE d.val)=(c.val==d.val):=by decide+kernel
noncomputable def dq(l:List Nat):Bool:=l.all λc=>dl c 9
theorem ou{l:List Nat}(h:dq l=true){c:Nat}(m:c∈l):c < 9:=ag (List.all_eq_true.mp h c m)
noncomputable def mQ(n c:Nat):Bool:=dl c n
theorem xf{n c:Nat}(hn:n=4\/n=5)(hc:c < 9):gF .In (.dat (wordD c)) (.dat (cr n))=some (mQ n c):=by
 rcases hn with rfl|rfl
 ·exact zF 0 ⟨c,hc⟩
 ·exact zF 1 ⟨c,hc⟩
theorem qr{n c:Nat}(hn:n=4\/n=5)(hc:c < 9):gF .NotIn (.dat (wordD c)) (.dat (cr n))=some (!mQ n c):=by
 rcases hn with rfl|rfl
 ·exact wT 0 ⟨c,hc⟩
 ·exact wT 1 ⟨c,hc⟩
noncomputable def posD(p:Nat × Nat):D:=.tuple [.int (p.2:Nat),wordD p.1]
theorem sv{codes:List Nat}:qy (codes.map wordD)=codes.zipIdx.map posD:=by
 unfold qy
 rw[List.zipIdx_map,bO]
 rfl
noncomputable def Gu(n:Nat)(turned:Bool)(picks:List Int)(s:List Int × List (Int × Int))(x:Nat × Nat):Option (List Int × List (Int × Int)):=
 if(bT s.1.length 30&&(bT s.2.length 30&&dl x.1 9))=true then(if mQ n x.1=true then some (s.1++[(x.2:Int)],s.2)else
  picks[s.2.length]?.bind λpk=>(cP (if turned=true then -1 - pk else pk) s.1.length).bind λj=>s.1[j]?.bind λd=>
   if dn (if turned=true then -1 - pk else pk)=true then some (s.1.eraseIdx j,s.2++[(d,(x.2:Int))])else none)else none
noncomputable def qS(n:Nat)(turned:Bool)(picks:List Int)(codes:List Nat):Option (List (Int × Int)):=(dR (Gu n turned picks) ([],[]) codes.zipIdx).map (·.2)
theorem ug{α β:Type}{f:α->β}:∀{l:List α} {j:Nat},(l.eraseIdx j).map f=(l.map f).eraseIdx j
 |[],_=>rfl
 |_::_,0=>rfl
 |x::l,j+1=>congrArg (f x:: ·) (ug (l:=l) (j:=j))
inductive BC(a b c d:LV)(s:List Int × List (Int × Int)):List LV->Prop where
 |mk (e f g h:LV):BC a b c d s [a,b,c,d,.own (s.1.map .int),.own (s.2.map bQ),e,f,g,h]
noncomputable def Le:DS:=((DS.ite (DT.cmp .In (DE.nm 7) (DE.nm 1)) ((DS.app 4 (DM.of (DE.nm 6))).cons DS.nil) ((DS.ite (DT.val (DE.nm 3)) ((DS.app 5 ((DM.pop 4 (DE.bin .Sub
 (DE.k (.int 1)).neg ((DE.nm 2).item (DE.call lenF (DL.cons (DE.nm 5) DL.nil))))).tup2 (DE.nm 6))).cons DS.nil) ((DS.app 5 ((DM.pop 4 ((DE.nm 2).item (DE.call lenF (DL.cons (DE.nm 5) DL.nil)))).tup2 (DE.nm 6))).cons DS.nil)).cons DS.nil)).cons DS.nil)
section
variable{n:Nat}{turned:Bool}{picks:List Int}{s s':List Int × List (Int × Int)}{x:Nat × Nat}{lx:Lx}{g h a:LV}
theorem Dd{i:Nat}{l:List (Int × Int)}{ρ:List LV}(h:ρ[i]? =some (.own (l.map bQ)))(hz:l.length<=64):DE.call lenF (DL.cons (DE.nm i) DL.nil) ρ lx=some (.dat (.int l.length),lx):=by
 have h4:(64:Nat)<=sizeLine:=by decide
 refine bM (aN (r7 h rfl) bl) ?_
 show((if decide ((l.map bQ).length<=sizeLine)=true then some (Va.dat (aw ((l.map bQ).length:Nat)))else none).map λv=>(v,lx))=_
 rw[if_pos (decide_eq_true (by rw[af];exact bo)),af]
 rfl
theorem Kj(hn:n=4\/n=5)(e0:Gu n turned picks s x=some s'):Rn (Le [a,.dat (cr n),.dat (.list (picks.map .int)),.dat (.bool turned),.own (s.1.map .int),.own (s.2.map bQ),.dat (.int x.2),.dat (wordD x.1),g,h] lx) (Nx lx (BC a (.dat (cr n)) (.dat (.list (picks.map .int))) (.dat (.bool turned)) s')):=by
 unfold Gu at e0
 refine en (cb e0) λgd e0=>?_
 rw[aI,aI]at gd
 refine oG gd λg1 g2 g3=>?_
 have z1:=ag g1
 have z2:=ag g2
 have z3:x.1 < 9:=ag g3
 have hin:=xf hn z3
 cases hb:mQ n x.1 with
 |true=>
  rw[hb]at e0 hin
  cases e0
  refine bZ (ib (bS (aG rfl) (aG rfl) hin) (aP (mX (ds:=s.1.map .int) rfl (tA (aG rfl)) rfl (by rw[af];exact bo)) (bv ⟨rfl,bv ⟨rfl,rfl,?_⟩⟩)))
  have e1:(s.1++[(x.2:Int)]).map aw=s.1.map aw++[.int x.2]:=by rw[aQ];rfl
  show BC _ _ _ _ _ [_,_,_,_,LV.own (s.1.map aw++[.int x.2]),_,_,_,_,_]
  rw[<-e1]
  exact .mk ..
 |false=>
  rw[hb]at e0 hin
  refine a7 (eg (show(picks[s.2.length]?.bind _)=_ from e0)) λpk ep e0=>?_
  obtain⟨j,ej,e0⟩:=eg e0
  obtain⟨d,ed,e0⟩:=eg e0
  obtain⟨gf,e0⟩:=cb e0
  cases e0
  have e1:(s.2++[(d,(x.2:Int))]).map bQ=s.2.map bQ++[.tuple [.int d,.int x.2]]:=by rw[aQ];rfl
  have e2:(s.1.eraseIdx j).map aw=(s.1.map aw).eraseIdx j:=ug
  have e3:(s.1.map aw)[j]? =some (.int d):=by rw[aW,ed];rfl
  have e4:(picks.map aw)[s.2.length]? =some (.int pk):=by rw[aW,ep];rfl
  have it:∀e f,DE.item (DE.nm 2) (DE.call lenF (DL.cons (DE.nm 5) DL.nil)) [a,.dat (cr n),.dat (.list (picks.map .int)),.dat (.bool turned),.own (s.1.map .int),.own (s.2.map bQ),e,f,g,h] lx=some (.dat (.int pk),lx):=
   λe f=>fh (aG (d:=.list (picks.map .int)) rfl) (Dd (l:=s.2) rfl (by exact bo)) rfl (nL e4) (by exact E9 z2 rfl)
  refine bZ (dQ (bS (aG rfl) (aG rfl) hin) (bZ ?_))
  have fin:∀(b:LV) (P:DM),P [a,.dat (cr n),.dat (.list (picks.map .int)),b,.own (s.1.map .int),.own (s.2.map bQ),.dat (.int x.2),.dat (wordD x.1),g,h] lx=some (.dat (.tuple [.int d,.int x.2]),[a,.dat (cr n),.dat (.list (picks.map .int)),b,.own ((s.1.map .int).eraseIdx j),.own (s.2.map bQ),.dat (.int x.2),.dat (wordD x.1),g,h],lx)->
   Rn (((DS.app 5 P).cons DS.nil) [a,.dat (cr n),.dat (.list (picks.map .int)),b,.own (s.1.map .int),.own (s.2.map bQ),.dat (.int x.2),.dat (wordD x.1),g,h] lx) (Nx lx (BC a (.dat (cr n)) (.dat (.list (picks.map .int))) b (s.1.eraseIdx j,s.2++[(d,(x.2:Int))]))):=by
   intro b P hP
   refine aP (mX (ds:=s.2.map bQ) rfl hP rfl (by rw[af];exact bo)) (bv ⟨rfl,rfl,?_⟩)
   show BC _ _ _ _ _ [_,_,_,_,LV.own ((s.1.map aw).eraseIdx j),LV.own (s.2.map bQ++[.tuple [.int d,.int x.2]]),_,_,_,_]
   rw[<-e1,<-e2]
   exact .mk ..
  cases turned with
  |true=>
   refine ib (show DT.val (DE.nm 3) _ lx=some (true,lx)from rfl) ((fin _ _ (rH (G2 rfl (cL (mL bw) (it _ _) yf) (by rw[af];exact ej) e3 gf (by rw[af];exact bo)) (aG rfl))).mono λo p=>⟨p.1,bv ⟨rfl,bv ⟨rfl,p.2.1,p.2.2⟩⟩⟩)
  |false=>
   refine dQ (show DT.val (DE.nm 3) _ lx=some (false,lx)from rfl) ((fin _ _ (rH (G2 rfl (it _ _) (by rw[af];exact ej) e3 gf (by rw[af];exact bo)) (aG rfl))).mono λo p=>⟨p.1,bv ⟨rfl,bv ⟨rfl,p.2.1,p.2.2⟩⟩⟩)
theorem uB{codes:List Nat}{z:List (Int × Int)}(hn:n=4\/n=5)(e:qS n turned picks codes=some z):fChoice [.dat (.list (codes.map wordD)),.dat (cr n),.dat (.list (picks.map .int)),.dat (.bool turned)] lx=some (.dat (.list (z.map bQ)),lx):=by
 obtain⟨s',hs,rfl⟩:=tB e
 unfold fChoice vA
 dsimp only
 refine lN (b:=false) (r:=.bor (.list (s'.2.map bQ))) rfl (aP rfl (aP rfl ?_))
 refine qx (BC (.dat (.list (codes.map wordD))) (.dat (cr n)) (.dat (.list (picks.map .int))) (.dat (.bool turned))) (l:=codes.zipIdx) (enc:=posD) (by rw[<-sv];exact zR (aG rfl)) hs (.mk ..) ?_ ?_
 ·intro s x s' ρ h0 hR
  cases hR
  exact⟨_,rfl,Kj hn h0⟩
 ·intro ρ hR
  cases hR
  exact kF (r7 rfl rfl) ⟨rfl,rfl⟩
end
noncomputable def vn(n:Nat)(codes:List Nat)(s:List Nat × List (Int × Int))(x:Nat × Nat):Option (List Nat × List (Int × Int)):=
 if(bT s.1.length 30&&(bT s.2.length 30&&dl x.1 9))=true then(if mQ n x.1=true then some (s.1++[x.1],s.2)else match s.1 with
  |[]=>none
  |h::q=>if(codes.contains h&&dl h 5)=true then some (q,s.2++[(((codes.idxOf h:Nat):Int),(x.2:Int))])else none)else none
noncomputable def wZ(n:Nat)(codes:List Nat):Option (List (Int × Int)):=(dR (vn n codes) ([],[]) codes.zipIdx).bind λs=>if s.1.isEmpty=true then some s.2 else none
inductive EF(a b:LV)(A:cH)(rest:List Str)(line:Int)(s:List Nat × List (Int × Int)):List LV->Lx->Prop where
 |mk (e f g:LV):EF a b A rest line s [a,b,.lex,.own (s.2.map bQ),e,f,g] (some (A,⟨s.1.map eE,rest,line⟩))
noncomputable def KZ:DS:=(DS.ite (DT.cmp .NotIn (DE.nm 5) (DE.nm 1)) ((DS.app 3 ((DM.of ((DE.nm 0).index (DE.tok 2))).tup2 (DE.nm 4))).cons DS.nil) ((DS.ite (DT.cmp .IsNot (DE.push 2 (DE.nm 5)) (DE.k .none)) ((DS.ret (DE.list DL.nil)).cons DS.nil) DS.nil).cons DS.nil)).cons DS.nil
theorem wy:∀l:List Nat,rL (l.map wordD)=some (l.map eE)
 |[]=>rfl
 |c::l=>by
  show(rL (l.map wordD)).map _=_
  rw[wy l];rfl
theorem wo{c d:Nat}(hc:c < 9)(hd:d < 9):(eE c==eE d)=(c==d):=BT ⟨c,hc⟩ ⟨d,hd⟩
theorem o5{h:Nat}(hh:h < 9):∀{l:List Nat},dq l=true->(l.map eE).idxOf (eE h)=l.idxOf h/\(l.map eE).contains (eE h)=l.contains h
 |[],_=>⟨rfl,rfl⟩
 |c::l,hl=>by
  refine(λh1 h2=>?_) (Bool.and_eq_true_iff.mp (show(dl c 9&&dq l)=true from hl)).1 (Bool.and_eq_true_iff.mp (show(dl c 9&&dq l)=true from hl)).2
  have hc:c < 9:=ag h1
  refine(λi1 i2=>?_) (o5 hh h2).1 (o5 hh h2).2
  rw[bX,oD,oD,lw,lw,i1,i2,wo hc hh,wo hh hc]
  exact⟨rfl,rfl⟩
section
variable{n:Nat}{codes:List Nat}{s s':List Nat × List (Int × Int)}{x:Nat × Nat}{lx:Lx}{g:LV}{A:cH}{rest:List Str}{line:Int}
theorem Dt{o a:DE}{ρ:List LV}{lx l1 l2:Lx}{r:Va}{xs:List Str}{y:Str}(ho:o ρ lx=some (r,l1))(hx:rK r=some xs)(ha:a ρ l1=some (.dat (.str y),l2))(hc:xs.contains y=true)(hz:xs.length<=4096):DE.index o a ρ lx=some (.dat (.int (xs.idxOf y:Nat)),l2):=by
 unfold DE.index
 rw[ho,ac,hx,ac,ha,ac]
 show(if xs.contains y=true then(if decide (xs.length < 1000000)=true then _ else _)else _)=_
 rw[if_pos hc,if_pos (decide_eq_true (by exact J1 [Ql Q0 (Qn 4096)] (Qs Q0 1) (Qn 1000000) 1 [1] Qt hz))]
theorem vE{q:List Str}(ho:(LexSt.mk [] rest line).okR=true)(hq:q.length<=4096):(LexSt.mk q rest line).fits=true:=by
 unfold LexSt.fits
 rw[show(LexSt.mk q rest line).okR=(LexSt.mk [] rest line).okR from rfl,ho,jG]
 exact decide_eq_true hq
theorem B9{i:Nat}{ρ:List LV}{h:Str}{q:List Str}(hi:ρ[i]? =some .lex)(ho:(LexSt.mk [] rest line).okR=true)(hq:(h::q).length<=4096):DE.tok i ρ (some (A,⟨h::q,rest,line⟩))=some (.dat (.str h),some (A,⟨q,rest,line⟩)):=by
 unfold DE.tok eM
 rw[hi]
 show(if(LexSt.mk (h::q) rest line).fits=true then _ else _)=_
 rw[if_pos (vE ho hq)]
 rfl
theorem Fy{i:Nat}{ρ:List LV}{w:DE}{y:Str}{q:List Str}(hi:ρ[i]? =some .lex)(hw:∀lx,w ρ lx=some (.dat (.str y),lx))(ho:(LexSt.mk [] rest line).okR=true)(hq:q.length<=4096):DE.push i w ρ (some (A,⟨q,rest,line⟩))=some (.dat .none,some (A,⟨q++[y],rest,line⟩)):=by
 unfold DE.push eM
 rw[hi,hw]
 show(if(LexSt.mk q rest line).fits=true then _ else _)=_
 rw[if_pos (vE ho hq)]
theorem JW(hn:n=4\/n=5)(ho:(LexSt.mk [] rest line).okR=true)(hc:dq codes=true)(hz:codes.length<=64)(e0:vn n codes s x=some s'):Rn (KZ [.dat (.list (codes.map wordD)),.dat (cr n),.lex,.own (s.2.map bQ),.dat (.int x.2),.dat (wordD x.1),g] (some (A,⟨s.1.map eE,rest,line⟩)))
  λo=>o.1=.nxt/\EF (.dat (.list (codes.map wordD))) (.dat (cr n)) A rest line s' o.2.1 o.2.2:=by
 unfold vn at e0
 refine(λgd e0=>?_) (cb e0).1 (cb e0).2
 rw[aI,aI]at gd
 refine(λg1 g2 g3=>?_) gd.1 gd.2.1 gd.2.2
 have z1:=ag g1
 have z2:=ag g2
 have z3:x.1 < 9:=ag g3
 have hin:=qr hn z3
 cases hb:mQ n x.1 with
 |true=>
  rw[hb]at e0 hin
  cases e0
  refine bZ (dQ (bS (aG rfl) (aG rfl) hin) (bZ (dQ (bS (Fy rfl (λlx=>aG rfl) ho (by rw[af];exact bo)) bw (z:=false) rfl) (bv ⟨rfl,bv ⟨rfl,bv ⟨rfl,?_⟩⟩⟩))))
  have e1:(s.1++[x.1]).map eE=s.1.map eE++[eE x.1]:=by rw[aQ];rfl
  show EF _ _ _ _ _ _ _ (some (A,⟨s.1.map eE++[eE x.1],rest,line⟩))
  rw[<-e1]
  exact .mk ..
 |false=>
  rw[hb]at e0 hin
  cases hq:s.1 with
  |nil=>rw[hq]at e0;exact by cases e0
  |cons h q=>
   rw[hq]at e0 z1
   refine(λgf e0=>?_) (cb (show(if _=true then _ else _)=_ from e0)).1 (cb (show(if _=true then _ else _)=_ from e0)).2
   cases e0
   refine(λf1 f2=>?_) (Bool.and_eq_true_iff.mp gf).1 (Bool.and_eq_true_iff.mp gf).2
   have hh:h < 9:=ay (ag f2) (by decide)
   refine(λi1 i2=>?_) (o5 hh hc).1 (o5 hh hc).2
   have hi:=Dt (o:=DE.nm 0) (a:=DE.tok 2) (ρ:=[.dat (.list (codes.map wordD)),.dat (cr n),.lex,.own (s.2.map bQ),.dat (.int x.2),.dat (wordD x.1),g]) (lx:=some (A,⟨(h::q).map eE,rest,line⟩)) (xs:=codes.map eE) (y:=eE h) (aG rfl) (wy codes) (B9 rfl ho (by rw[<-bX,af];exact bo)) (i2.trans f1) (by rw[af];exact bo)
   rw[i1]at hi
   refine bZ (ib (bS (aG rfl) (aG rfl) hin) (aP (mX (ds:=s.2.map bQ) rfl (rH (tA hi) (aG rfl)) rfl (by rw[af];exact bo)) (bv ⟨rfl,bv ⟨rfl,?_⟩⟩)))
   have e1:(s.2++[(((codes.idxOf h:Nat):Int),(x.2:Int))]).map bQ=s.2.map bQ++[.tuple [.int (codes.idxOf h:Nat),.int x.2]]:=by rw[aQ];rfl
   show EF _ _ _ _ _ _ [_,_,_,LV.own (s.2.map bQ++[.tuple [.int (codes.idxOf h:Nat),.int x.2]]),_,_,_] _
   rw[<-e1]
   exact .mk ..
theorem FL{z:List (Int × Int)}(hn:n=4\/n=5)(ho:(LexSt.mk [] rest line).okR=true)(hc:dq codes=true)(hz:codes.length<=64)(e:wZ n codes=some z):
  fLine [.dat (.list (codes.map wordD)),.dat (cr n),.lex] (some (A,⟨[],rest,line⟩))=some (.dat (.list (z.map bQ)),some (A,⟨[],rest,line⟩)):=by
 refine nG λkG=>?_;obtain⟨s',hs,e⟩:=eg e
 refine en (cb e) λge e=>?_
 refine kG ?_
 cases e
 have he:s'.1=[]:=List.isEmpty_iff.mp ge
 unfold fLine DJ
 dsimp only
 refine lN (b:=false) (r:=.bor (.list (s'.2.map bQ))) rfl (aP rfl ?_)
 refine Ka (EF (.dat (.list (codes.map wordD))) (.dat (cr n)) A rest line) (l:=codes.zipIdx) (enc:=posD) (step:=vn n codes) (s:=([],[])) ?_ (by rw[<-sv];exact zR (aG rfl)) hs (.mk ..) ?_
 ·intro s x s' ρ lx h0 hR
  cases hR
  exact⟨_,rfl,JW hn ho hc hz h0⟩
 ·intro ρ lx hR
  cases hR
  rw[he]
  exact kF (r7 rfl rfl) ⟨rfl,rfl⟩
end
theorem t7(a b:List Nat):S a++S b=S (a++b):=by
 show oI (a.toArray++b.toArray)=oI (a++b).toArray
 rw[List.append_toArray]
theorem wI(a:List Nat):(S a).length=a.length:=rfl
theorem Cu{a b:List Nat}(h:S a=S b):a=b:=by
 have:=congrArg (λx:Str=>x.cps.toList) h
 exact this
theorem rT{a:List Nat}(h:∀c∈a,c < 1114112):bk (S a)=true:=by
 show(a.toArray).all _=true
 rw[List.all_toArray,jo]
 exact λc m=>decide_eq_true (h c m)
theorem xc:∀l:List (List Nat),Str.join Am (l.map S)=S l.flatten
 |[]=>rfl
 |[x]=>by rw[bX,BN,dJ,List.flatten_nil,aO];rfl
 |x::y::r=>by
  show S x++Am++Str.join Am ((y::r).map S)=_
  rw[xc (y::r),show S x++Am=S x from Str.append_empty _,t7]
  rfl
theorem uv:ad ""=Am:=by decide+kernel
theorem BX(l:List (List Nat)):Txt.join (ad "") (l.map S)=S l.flatten:=by
 show Builtin.Str.glued _ _=_
 rw[StrLaws.glued_eq_join,uv,xc]
theorem Fa(l:List (List Nat)):((l.map S).map (·.length)).sum=l.flatten.length:=by
 induction l with
 |nil=>rfl
 |cons x l ih=>rw[bX,bX,Ao,ih,dJ,au,wI]
theorem Dk{l:List (List Nat)}(h:l.flatten.length<=8192):JoinOk (ad "") (l.map S)=true:=by
 unfold JoinOk
 rw[StrLaws.joinTotal,Fa,uv]
 show(!Builtin.Str.tooLong (l.flatten.length+(l.map S).length * 0))=true
 rw[Nat.mul_zero,nU]
 have h4:(8192:Nat)<=sizeLine:=by decide
 unfold Builtin.Str.tooLong
 rw[Bool.not_eq_true']
 exact decide_eq_false (by exact nA (ah h h4))
theorem zl:∀l:List (List Nat),rL (l.map λx=>dI (S x))=some (l.map S)
 |[]=>rfl
 |x::l=>by
  show(rL (l.map _)).map _=_
  rw[zl l];rfl
theorem jd{a:DE}{ρ:List LV}{lx l1:Lx}{r:Va}{l:List (List Nat)}(h:a ρ lx=some (r,l1))(hr:lG r=some (l.map λx=>dI (S x)))(hz:l.flatten.length<=8192):DE.join (DE.k (.str (ad ""))) a ρ lx=some (.dat (.str (S l.flatten)),l1):=by
 unfold DE.join
 rw[bw,ac]
 show((a ρ lx).bind _)=_
 rw[h,ac]
 unfold rK
 rw[hr,ac,zl,ac,if_pos (Dk hz),BX]
theorem Ls{a b:List Nat}(ha:∀c∈a,c < 1114112)(hb:∀c∈b,c < 1114112):gF .Eq (.dat (.str (S a))) (.dat (.str (S b)))=some (decide (a=b)):=by
 rw[lM (rT ha) (rT hb)]
 by_cases h:a=b
 ·subst h;simp
 ·rw[decide_eq_false h]
  exact congrArg some (beq_eq_false_iff_ne.mpr λe=>h (Cu e))
inductive sU:List Nat->Prop where
 |one {c:Nat} (h:c≠92):sU [c]
 |esc (c:Nat):sU [92,c]
noncomputable def hM:Nat->List (List Nat)->List (Nat × Str)
 |_,[]=>[]
 |k,a::r=>(k+a.length - 1,S a)::hM (k+a.length) r
theorem xA:ad "\\"=S [92]:=by decide+kernel
theorem Iq{k c:Nat}{r:List Nat}(h:c≠92):dX k false (c::r)=(k,oI #[c])::dX (k+1) false r:=by
 rw[dX,if_neg (by simpa using h)]
theorem Ir{k c:Nat}{r:List Nat}:dX k false (92::c::r)=(k+1,S [92,c])::dX (k+2) false r:=by
 rw[dX,if_pos (by decide),dX,xA]
 rfl
theorem jy{tail:List Nat}:∀{as:List (List Nat)} (k:Nat),(∀a∈as,sU a)->dX k false (as.flatten++tail)=hM k as++dX (k+as.flatten.length) false tail
 |[],k,_=>rfl
 |a::as,k,h=>by
  have ih:=λk=>jy (tail:=tail) k λb m=>h b (.tail _ m)
  rw[dJ,aR,au,<-hF]
  cases h a (.head _)with
  |@one c hc=>exact(Iq hc).trans (congrArg ((k,oI #[c]):: ·) (ih (k+1)))
  |esc c=>exact Ir.trans (congrArg ((k+1,S [92,c]):: ·) (ih (k+2)))
theorem rU{as bs:List (List Nat)}:∀(k:Nat),hM k (as++bs)=hM k as++hM (k+as.flatten.length) bs:=by
 induction as with
 |nil=>intro k;rfl
 |cons a as ih=>intro k;show _::hM _ (as++bs)=_;rw[ih,dJ,au,<-hF];rfl
noncomputable def oo(p:Nat × Str):D:=.tuple [.int (p.1:Nat),.str p.2]
theorem yP{a:DE}{ρ:List LV}{lx l1:Lx}{t:List Nat}(h:a ρ lx=some (.dat (.str (S t)),l1))(hz:t.length<=4096)(ho:∀c∈t,c < 1114112):DI.esc a ρ lx=some (true,(dX 0 false t).map oo,l1):=by
 unfold DI.esc
 rw[h,ac]
 show(if(decide ((S t).length<=4096)&&bk (S t))=true then _ else _)=_
 rw[rT ho,if_pos (by rw[dU];exact decide_eq_true hz)]
 rfl
theorem kP{σ α:Type}{st:σ->α->Option σ}:∀{a b:List α} {s:σ},dR st s (a++b)=(dR st s a).bind λs=>dR st s b
 |[],_,_=>rfl
 |x::a,b,s=>by
  show(st s x).bind _=((st s x).bind _).bind _
  cases st s x with
  |none=>rfl
  |some s1=>exact kP (a:=a)
structure StS where
 start:Nat
 op:Option Nat
 res:List (List Nat)
noncomputable def sA(T:List Nat)(a b:Nat):List Nat:=(T.drop (min a T.length)).take (min b T.length - min a T.length)
theorem oQ:ad "\""=S [34]:=by decide+kernel
noncomputable def v9(T:List Nat)(s:StS)(p:Nat × Str):Option StS:=if(bk p.2&&bT s.res.length 4096)=true then(if(p.2==S [34])=true then(match s.op with
 |none=>some ⟨s.start,some p.1,s.res⟩
 |some o=>some ⟨p.1+1,none,if(s.start==o)=true then s.res else s.res++[sA T s.start o]⟩)else some s)else none
noncomputable def CR:Option Nat->D
 |none=>.none
 |some k=>.int (k:Nat)
inductive KP(T:List Nat)(s:StS):List LV->Prop where
 |mk (a b c d:LV):KP T s [.dat (.str (S T)),.dat (.int s.start),.dat (CR s.op),.own (s.res.map λx=>.str (S x)),a,b,c,d]
theorem Eb{T:List Nat}{a b:Nat}:Bm (S T) (some (a:Int)) (some (b:Int))=S (sA T a b):=by
 unfold Bm sA
 show S (List.take (nv T.length b - nv T.length a) (BF (nv T.length a) T))=_
 rw[clipAt_nat,clipAt_nat]
theorem yV{T:List Nat}{a b:Nat}(hz:T.length<=4096):tF (.str (S T)) (some (a:Int)) (some (b:Int)) none=some (.str (S (sA T a b))):=by
 have h4:(4096:Nat)<=sizeLine:=by decide
 rw[<-Eb]
 show(if decide (none=(none:Option Int)/\T.length<=sizeLine)=true then _ else _)=_
 rw[if_pos (decide_eq_true ⟨rfl,by exact bo⟩)]
theorem xu{T:List Nat}{a:Nat}(hz:T.length<=4096)(ha:a<=T.length):tF (.str (S T)) (some (a:Int)) none none=some (.str (S (T.drop a))):=by
 have h4:(4096:Nat)<=sizeLine:=by decide
 show(if decide (none=(none:Option Int)/\T.length<=sizeLine)=true then some (dI (S (List.take (T.length - nv T.length a) (BF (nv T.length a) T))))else none)=_
 rw[if_pos (decide_eq_true ⟨rfl,by exact bo⟩),clipAt_nat,fq ha,fb (by rw[eS];exact ai _)]
noncomputable def LF:DS:=(DS.ite (DT.cmp .Eq (DE.nm 5) (DE.k (.str (ad "\"")))) ((DS.ite (DT.cmp .Is (DE.nm 2) (DE.k .none)) ((DS.asg 2 (DE.nm 4)).cons DS.nil) ((DS.ite (DT.cmp .NotEq (DE.nm 1) (DE.nm 2)) ((DS.app 3 (DM.of ((DE.nm 0).cut (DO.of (DE.nm 1)) (DO.of (DE.nm 2)) DO.no))).cons DS.nil)
 DS.nil).cons ((DS.asg 1 (DE.bin .Add (DE.nm 4) (DE.k (.int 1)))).cons ((DS.asg 2 (DE.k .none)).cons DS.nil)))).cons DS.nil) DS.nil).cons DS.nil
theorem KS{T:List Nat}{s s':StS}{p:Nat × Str}{lx:Lx}{c d:LV}(hz:T.length<=4096)(e:v9 T s p=some s'):Rn (LF [.dat (.str (S T)),.dat (.int s.start),.dat (CR s.op),.own (s.res.map λx=>.str (S x)),.dat (.int p.1),.dat (.str p.2),c,d] lx) (Nx lx (KP T s')):=by
 unfold v9 at e
 refine(λg e=>?_) (cb e).1 (cb e).2
 refine(λg1 g2=>?_) (Bool.and_eq_true_iff.mp g).1 (Bool.and_eq_true_iff.mp g).2
 have g2:=ag g2
 have hq:=lM g1 (y:=S [34]) (by decide+kernel)
 rw[<-oQ]at hq
 cases hb:p.2==S [34]with
 |false=>
  rw[hb]at e
  cases e
  rw[oQ,hb]at hq
  exact bZ (dQ (bS (aG rfl) bw (oQ▸hq)) (bv ⟨rfl,bv ⟨rfl,rfl,.mk ..⟩⟩))
 |true=>
  rw[hb]at e
  rw[oQ,hb]at hq
  refine bZ (ib (bS (aG rfl) bw (oQ▸hq)) (bZ ?_))
  obtain⟨st,op,res⟩:=s
  cases op with
  |none=>
   cases e
   exact ib (show DT.cmp .Is (DE.nm 2) (DE.k .none) _ lx=some (true,lx)from rfl) (aP (eC (aG rfl) rfl) (bv ⟨rfl,bv ⟨rfl,bv ⟨rfl,rfl,.mk ..⟩⟩⟩))
  |some o=>
   cases e
   refine dQ (show DT.cmp .Is (DE.nm 2) (DE.k .none) _ lx=some (false,lx)from rfl) ?_
   have tail:∀r:List (List Nat),Rn (((DS.asg 1 (DE.bin .Add (DE.nm 4) (DE.k (.int 1)))).cons ((DS.asg 2 (DE.k .none)).cons DS.nil)) [.dat (.str (S T)),.dat (.int st),.dat (.int o),.own (r.map λx=>.str (S x)),.dat (.int p.1),.dat (.str p.2),c,d] lx) (Nx lx (KP T ⟨p.1+1,none,r⟩)):=
    λr=>aP (eC (cL (aG rfl) bw (z:=.dat (.int ((p.1+1:Nat):Int))) rfl) rfl) (aP (eC bw rfl) (bv ⟨rfl,rfl,.mk ..⟩))
   cases hso:st==o with
   |true=>
    have h1:gF .NotEq (.dat (.int st)) (.dat (.int o))=some false:=KL.trans (congrArg some (by have:=eq_of_beq hso;subst this;simp))
    refine bZ (dQ (bS (aG rfl) (aG rfl) h1) (bv ⟨rfl,?_⟩))
    exact(tail res).mono λo q=>⟨q.1,bv ⟨rfl,bv ⟨rfl,q.2.1,by simpa [hso]using q.2.2⟩⟩⟩
   |false=>
    have h1:gF .NotEq (.dat (.int st)) (.dat (.int o))=some true:=KL.trans (congrArg some (by
     have:st≠o:=by simpa using hso
     have h2:((st:Int)==(o:Int))=false:=beq_eq_false_iff_ne.mpr (by exact λe=>this (Au e))
     rw[h2];rfl))
    refine bZ (ib (bS (aG rfl) (aG rfl) h1) (aP (mX (ds:=res.map λx=>.str (S x)) rfl (tA (lL (aG rfl) (lY (aG rfl)) (lY (aG rfl)) jz rfl (yV (a:=st) (b:=o) hz))) rfl (by rw[af];exact g2)) (bv ⟨rfl,?_⟩)))
    have em:(res++[sA T st o]).map (λx=>dI (S x))=res.map (λx=>dI (S x))++[dI (S (sA T st o))]:=by rw[aQ];rfl
    have t2:=tail (res++[sA T st o])
    rw[em]at t2
    exact t2.mono λo q=>⟨q.1,bv ⟨rfl,bv ⟨rfl,q.2.1,by simpa [hso]using q.2.2⟩⟩⟩
inductive Seg where
 |pl (a:List Nat)
 |qu (as:List (List Nat))
noncomputable def Seg.atoms:Seg->List (List Nat)
 |.pl a=>[a]
 |.qu as=>[34]::(as++[[34]])
noncomputable def Seg.out:Seg->List (List Nat)
 |.pl a=>[a]
 |.qu _=>[]
structure xL(a:List Nat):Prop where
 at':sU a
 ne:a≠[34]
 lt:∀c∈a,c < 1114112
inductive kT:Seg->Prop where
 |pl {a:List Nat} (h:xL a):kT (.pl a)
 |qu {as:List (List Nat)} (h:∀a∈as,xL a):kT (.qu as)
noncomputable def br(gs:List Seg):List Nat:=(gs.flatMap Seg.atoms).flatten
noncomputable def dP(gs:List Seg):List (List Nat):=gs.flatMap Seg.out
theorem kD{g:Seg}{gs:List Seg}:br (g::gs)=g.atoms.flatten++br gs:=by unfold br;rw[aX,cz]
theorem Ce{g gs:List Seg}:br (g++gs)=br g++br gs:=by unfold br;rw[qK,cz]
theorem xL.st{a:List Nat}(h:xL a){T:List Nat}{s:StS}{k:Nat}(hs:s.res.length<=4096):v9 T s (k,S a)=some s:=by
 have e:(S a==S [34])=false:=beq_eq_false_iff_ne.mpr λq=>h.ne (Cu q)
 unfold v9
 rw[rT h.lt,e]
 exact if_pos (by rw[jG];exact bE hs)
theorem y5{T:List Nat}{s:StS}:∀{as:List (List Nat)} (k:Nat),(∀a∈as,xL a)->s.res.length<=4096->dR (v9 T) s (hM k as)=some s
 |[],_,_,_=>rfl
 |a::as,k,h,hs=>by
  show(v9 T s (k+a.length - 1,S a)).bind _=_
  rw[(h a (.head _)).st hs,ac]
  exact y5 (k+a.length) (λb m=>h b (.tail _ m)) hs
theorem HB{T:List Nat}{s:StS}{k:Nat}(hs:s.res.length<=4096):v9 T s (k,S [34])=(match s.op with
 |none=>some ⟨s.start,some k,s.res⟩
 |some o=>some ⟨k+1,none,if(s.start==o)=true then s.res else s.res++[sA T s.start o]⟩):=by
 unfold v9
 rw[if_pos (by rw[aI];exact⟨show bk (S [34])=true by decide+kernel,bE hs⟩),if_pos (show(S [34]==S [34])=true by decide+kernel)]
 all_goals rfl
structure Jr(pre:List Nat)(u:List Nat)(m:Nat)(s:StS):Prop where
 op:s.op=none
 le:s.start<=pre.length
 eq:s.res.flatten++pre.drop s.start=u
 nr:s.res.length<=m
theorem Gk{pre post:List Nat}{a:Nat}(h:a<=pre.length):sA (pre++post) a pre.length=pre.drop a:=by
 unfold sA
 rw[fq (by rw[au];exact aF _ _),fq (by rw[au];exact J3 [Ql Q0 Q1] Q0 (Qa Q1 Q2) 1 [1] Qt h),jN h,List.take_append_of_le_length (by rw[eS];exact ai _),fb (by rw[eS];exact ai _)]
theorem Fm{pre post u:List Nat}{m:Nat}{s:StS}{g:Seg}(h:kT g)(i:Jr pre u m s)(hm:m < 4096):∃s',dR (v9 (pre++(g.atoms.flatten++post))) s (hM pre.length g.atoms)=some s'/\Jr (pre++g.atoms.flatten) (u++g.out.flatten) (m+1) s':=by
 cases h with
 |@pl a h=>
  refine⟨s,y5 (as:=[a]) pre.length (λb q=>by cases q with|head=>exact h|tail _ q=>exact by cases q) (ah i.nr (bf hm)),i.op,ah i.le (by rw[au];exact aF _ _),?_,cm i.nr⟩
  rw[jN i.le,<-aR,i.eq]
  rfl
 |@qu as h=>
  obtain⟨st,op,res⟩:=s
  obtain⟨rfl,hle,heq,hnr⟩:=i
  have hz:res.length<=4096:=ah hnr (bf hm)
  have e1:=HB (T:=pre++((Seg.qu as).atoms.flatten++post)) (s:=⟨st,none,res⟩) (k:=pre.length+[34].length - 1) hz
  have e2:dR (v9 (pre++((Seg.qu as).atoms.flatten++post))) ⟨st,some pre.length,res⟩ (hM (pre.length+[34].length) as)=some ⟨st,some pre.length,res⟩:=y5 _ h hz
  have e3:=HB (T:=pre++((Seg.qu as).atoms.flatten++post)) (s:=⟨st,some pre.length,res⟩) (k:=pre.length+1+as.flatten.length+[34].length - 1) hz
  have hl:(pre++(Seg.qu as).atoms.flatten).length=pre.length+1+as.flatten.length+1:=by
   show(pre++([34]::(as++[[34]])).flatten).length=_
   rw[dJ,cz,au,au,au]
   show pre.length+(1+(as.flatten.length+1))=_
   exact(hF _ _ _).symm
  have hc:sA (pre++((Seg.qu as).atoms.flatten++post)) st pre.length=pre.drop st:=Gk hle
  refine⟨⟨pre.length+1+as.flatten.length+1,none,if(st==pre.length)=true then res else res++[pre.drop st]⟩,?_,rfl,aJ hl.symm,?_,?_⟩
  ·show dR _ _ (((pre.length+[34].length - 1,S [34])::hM (pre.length+[34].length) (as++[[34]])))=_
   rw[rU]
   show(v9 _ _ _).bind _=_
   rw[e1]
   show dR _ (StS.mk st (some pre.length) res) _=_
   rw[kP,e2,ac]
   show(v9 (pre++((Seg.qu as).atoms.flatten++post)) (StS.mk st (some pre.length) res) (pre.length+1+as.flatten.length+[34].length - 1,S [34])).bind _=_
   rw[e3]
   dsimp only
   rw[hc]
   rfl
  ·rw[nV (aJ hl),aO]
   show _=u++[]
   rw[aO,<-heq]
   by_cases hq:(st==pre.length)=true
   ·rw[if_pos hq,nV (aJ (eq_of_beq hq).symm),aO]
   ·rw[if_neg hq,cz]
    show _++(pre.drop st++[])=_
    rw[aO]
  ·by_cases hq:(st==pre.length)=true
   ·rw[if_pos hq];exact cm hnr
   ·rw[if_neg hq,au];exact cQ hnr
theorem wH{post:List Nat}:∀{gs:List Seg} {pre u:List Nat} {m:Nat} {s:StS},(∀g∈gs,kT g)->Jr pre u m s->m+gs.length<=4096->∃s',dR (v9 (pre++(br gs++post))) s (hM pre.length (gs.flatMap Seg.atoms))=some s'/\Jr (pre++br gs) (u++(dP gs).flatten) (m+gs.length) s'
 |[],pre,u,m,s,_,i,_=>⟨s,rfl,by show Jr (pre++[]) (u++[]) m s;rw[aO,aO];exact i⟩
 |g::gs,pre,u,m,s,h,i,hm=>by
  rw[aT]at hm
  refine a7 (Fm (post:=br gs++post) (h g (.head _)) i (by exact J2 [Ql (Qa Q0 (Qs Q1 1)) (Qn 4096)] (Qs Q0 1) (Qn 4096) 1 [1] Qt hm)) λs1 e1 i1=>?_
  refine a7 (wH (post:=post) (gs:=gs) (λq m=>h q (.tail _ m)) i1 (by exact J2 [Ql (Qa Q0 (Qs Q1 1)) (Qn 4096)] (Qa (Qs Q0 1) Q1) (Qn 4096) 1 [1] Qt hm)) λs2 e2 i2=>?_
  refine⟨s2,?_,?_⟩
  ·rw[aX,rU,kP,kD,aR,e1,ac]
   rw[aR,au]at e2
   exact e2
  ·rw[kD,<-aR,aT,BM gs.length 1,<-hF]
   show Jr _ (u++(BO Seg.out (g::gs)).flatten) _ _
   rw[aX,cz,<-aR]
   exact i2
theorem AO{g:Seg}(h:kT g):∀a∈g.atoms,sU a/\∀c∈a,c < 1114112:=by
 have q:sU [34]/\∀c∈[34],c < 1114112:=⟨.one (by decide),by decide⟩
 cases h with
 |pl h=>intro a m;cases m with|head=>exact⟨h.at',h.lt⟩|tail _ m=>exact nomatch m
 |qu h=>
  intro a m
  cases m with
  |head=>exact q
  |tail _ m=>
   rcases List.mem_append.mp m with m|m
   ·exact⟨(h a m).at',(h a m).lt⟩
   ·cases m with|head=>exact q|tail _ m=>exact nomatch m
theorem rS{gs:List Seg}(h:∀g∈gs,kT g):∀a∈gs.flatMap Seg.atoms,sU a/\∀c∈a,c < 1114112:=λa m=>by
 refine a7 (List.mem_flatMap.mp m) λg mg ma=>?_
 exact AO (h g mg) a ma
theorem E7{gs:List Seg}(h:∀g∈gs,kT g):∀c∈br gs,c < 1114112:=λc m=>by
 refine a7 (List.mem_flatten.mp m) λa ma mc=>?_
 exact(rS h a ma).2 c mc
theorem vj:∀gs:List Seg,(dP gs).flatten.length<=(br gs).length
 |[]=>ai _
 |g::gs=>by
  have ih:=vj gs
  have h1:(dP (g::gs)).flatten.length=g.out.flatten.length+(dP gs).flatten.length:=by unfold dP;rw[aX,cz,au]
  rw[h1,kD,au]
  cases g with
  |pl a=>exact lh (ai _) ih
  |qu as=>exact ah (by rw[show(Seg.qu as).out.flatten.length=0 from rfl,cE];exact ih) (dK _ _)
theorem wV:∀{gs:List Seg},34 ∉ br gs->(dP gs).flatten=br gs
 |[],_=>rfl
 |g::gs,h=>by
  rw[kD,List.mem_append,not_or]at h
  rw[kD,<-wV h.2]
  cases g with
  |pl a=>unfold dP;rw[aX,cz];rfl
  |qu as=>exact absurd (List.mem_flatten.mpr ⟨[34],.head _,.head _⟩) h.1
inductive ql:List Nat->List (List Nat)->Prop where
 |no:ql [] []
 |par:ql [34,40] [[34],[40]]
theorem ql.fl{t:List Nat}{as:List (List Nat)}(h:ql t as):as.flatten=t/\(∀a∈as,sU a)/\∀c∈t,c < 1114112:=by
 cases h with
 |no=>exact⟨rfl,⟨(λ_ m=>nomatch m),(λ_ m=>nomatch m)⟩⟩
 |par=>exact⟨rfl,⟨λa m=>(by cases m with|head=>exact .one (by decide)|tail _ m=>cases m with|head=>exact .one (by decide)|tail _ m=>exact nomatch m),by decide⟩⟩
theorem vJ{T:List Nat}:gF .NotIn (.dat (.str (ad "\""))) (.dat (.str (S T)))=some (!decide (34∈T)):=by
 show some (!fK (S T) (ad "\""))=_
 rw[oQ]
 exact congrArg (λz=>some (!z)) (StrLaws.found_one (S T) 34)
theorem yh{gs:List Seg}{t:List Nat}{as:List (List Nat)}(h:∀g∈gs,kT g)(ht:ql t as)(hg:gs.length<=4000):∃s',dR (v9 (br gs++t)) ⟨0,none,[]⟩ (dX 0 false (br gs++t))=some s'/\s'.start<=(br gs++t).length/\s'.res.flatten++(br gs++t).drop s'.start=(dP gs).flatten++t/\s'.res.length<=4096:=by
 refine nG λkG=>?_;obtain⟨f1,f2,f3⟩:=ht.fl
 have e:dX 0 false (br gs++t)=hM 0 (gs.flatMap Seg.atoms)++hM (0+(br gs).length) as:=by
  unfold br
  rw[jy 0 λa m=>(rS h a m).1]
  have:=jy (tail:=[]) (0+(gs.flatMap Seg.atoms).flatten.length) f2
  rw[aO,f1]at this
  rw[this]
  show _++(_++[])=_
  rw[aO]
 refine a7 (wH (post:=t) (pre:=[]) (u:=[]) (m:=0) (s:=⟨0,none,[]⟩) h ⟨rfl,ai _,rfl,ai _⟩ (by exact J1 [Ql Q0 (Qn 4000)] (Qa (Qn 0) Q0) (Qn 4096) 1 [1] Qt hg)) λs1 e1 i1=>?_
 rw[bK]at e1 i1
 have e1:dR (v9 (br gs++t)) ⟨0,none,[]⟩ (hM 0 (gs.flatMap Seg.atoms))=some s1:=e1
 obtain⟨st,op,res⟩:=s1
 obtain⟨rfl,hle,heq,hnr⟩:=i1
 refine kG ?_
 rw[cE]at hnr
 rw[bK]at heq
 have hz:res.length<=4096:=ah hnr (by exact bo)
 rw[e,kP,e1,ac]
 have hlen:st<=(br gs++t).length:=by rw[au];exact ah hle (aF _ _)
 have heq2:res.flatten++(br gs++t).drop st=(dP gs).flatten++t:=by rw[jN hle,<-aR,heq]
 cases ht with
 |no=>exact⟨⟨st,none,res⟩,rfl,hlen,heq2,hz⟩
 |par=>
  have a1:=HB (T:=br gs++[34,40]) (s:=⟨st,none,res⟩) (k:=0+(br gs).length+[34].length - 1) hz
  have a2:xL [40]:=⟨.one (by decide),by decide,by decide⟩
  refine⟨⟨st,some (0+(br gs).length+[34].length - 1),res⟩,?_,hlen,heq2,hz⟩
  show(v9 _ _ _).bind _=_
  rw[a1]
  show(v9 (br gs++[34,40]) (StS.mk st (some (0+(br gs).length+[34].length - 1)) res) (0+(br gs).length+[34].length+[40].length - 1,S [40])).bind _=_
  rw[a2.st hz]
  rfl
theorem wz{gs:List Seg}{t:List Nat}{as:List (List Nat)}{lx:Lx}(h:∀g∈gs,kT g)(ht:ql t as)(hg:gs.length<=4000)(hz:(br gs++t).length<=4096):fStrip [.dat (.str (S (br gs++t)))] lx=some (.dat (.str (S ((dP gs).flatten++t))),lx):=by
 refine oG ht.fl λf1 f2 f3=>?_
 have hlt:∀c∈br gs++t,c < 1114112:=λc m=>(List.mem_append.mp m).elim (E7 h c) (f3 c)
 have hc:=vJ (T:=br gs++t)
 unfold fStrip yJ
 dsimp only
 refine lN (b:=false) (r:=.dat (.str (S ((dP gs).flatten++t)))) rfl ?_
 by_cases hq:34∈br gs++t
 ·rw[decide_eq_true hq]at hc
  refine KA (yh h ht hg) λs' e hs heq hn=>?_
  refine bZ (dQ (bS bw (aG rfl) hc) (bv ⟨rfl,?_⟩))
  refine aP (eC bw rfl) (aP (eC bw rfl) (aP rfl ?_))
  refine qx (KP (br gs++t)) (s:=⟨0,none,[]⟩) (enc:=oo) (step:=v9 (br gs++t)) (yP (aG rfl) hz hlt) e (.mk ..) ?_ ?_
  ·intro s x s' ρ h0 hR
   cases hR
   exact⟨_,rfl,KS hz h0⟩
  ·intro ρ hR
   cases hR with
   |mk a b c d=>
   have hl4:((dP gs).flatten++t).length<=4096:=by
    have:=vj gs
    rw[au]at hz ⊢
    exact J3 [Ql (Qa Q2 Q1) (Qn 4096),Ql Q0 Q2] (Qa Q0 Q1) (Qn 4096) 1 [1,1] Qt hz this
   have hlen:DE.call lenF (DL.cons (DE.nm 0) DL.nil) [.dat (.str (S (br gs++t))),.dat (.int s'.start),.dat (CR s'.op),.own (s'.res.map λx=>.str (S x)),a,b,c,d] lx=some (.dat (.int (br gs++t).length),lx):=by
    have h4:(4096:Nat)<=sizeLine:=by decide
    refine bM (aN (aG rfl) bl) ?_
    show((if decide ((br gs++t).length<=sizeLine)=true then some (Va.dat (aw ((br gs++t).length:Nat)))else none).map λv=>(v,lx))=_
    rw[if_pos (decide_eq_true (by exact bo))];rfl
   by_cases hlt':s'.start < (br gs++t).length
   ·refine bZ (ib (bS (aG rfl) hlen (z:=true) (congrArg some (decide_eq_true (by exact Int.ofNat_lt.mpr (hlt'))))) (aP (mX (ds:=s'.res.map λx=>.str (S x)) rfl (tA (lL (aG rfl) (lY (aG rfl)) jz jz rfl (xu hz hs))) rfl (by rw[af];exact hn)) (bv ⟨rfl,?_⟩)))
    have em:s'.res.map (λx=>dI (S x))++[dI (S ((br gs++t).drop s'.start))]=(s'.res++[(br gs++t).drop s'.start]).map (λx=>dI (S x)):=by rw[aQ];rfl
    have ej:(s'.res++[(br gs++t).drop s'.start]).flatten=(dP gs).flatten++t:=by rw[cz,<-heq];show _++(_++[])=_;rw[aO]
    have:=jd (l:=s'.res++[(br gs++t).drop s'.start]) (a:=DE.nm 3) (lx:=lx) (ρ:=[.dat (.str (S (br gs++t))),.dat (.int s'.start),.dat (CR s'.op),.own (s'.res.map (λx=>dI (S x))++[dI (S ((br gs++t).drop s'.start))]),a,b,c,d]) (r7 rfl rfl) (by rw[<-em];rfl) (by rw[ej];exact bo)
    rw[ej]at this
    exact kF this ⟨rfl,rfl⟩
   ·refine bZ (dQ (bS (aG rfl) hlen (z:=false) (congrArg some (decide_eq_false (by exact λt=>hlt' (Int.ofNat_lt.mp t))))) (bv ⟨rfl,?_⟩))
    have ej:s'.res.flatten=(dP gs).flatten++t:=by rw[<-heq,nV (Nat.not_lt.mp hlt'),aO]
    have:=jd (l:=s'.res) (a:=DE.nm 3) (lx:=lx) (ρ:=[.dat (.str (S (br gs++t))),.dat (.int s'.start),.dat (CR s'.op),.own (s'.res.map (λx=>dI (S x))),a,b,c,d]) (r7 rfl rfl) rfl (by rw[ej];exact bo)
    rw[ej]at this
    exact kF this ⟨rfl,rfl⟩
 ·rw[decide_eq_false hq]at hc
  rw[List.mem_append,not_or]at hq
  have e1:t=[]:=by cases ht with|no=>rfl|par=>exact absurd (.head _) hq.2
  subst e1
  rw[wV hq.1]
  exact oq (ib (bS bw (aG rfl) hc) (kF (aG rfl) ⟨(λe=>by cases e),rfl,rfl⟩))
noncomputable def jS(k:Int):List (List Nat)->Bool
 |[]=>k==0
 |a::r=>if a=[40]then jS (k+1) r else if a=[41]then(if k - 1 < 0 then false else jS (k - 1) r)else jS k r
noncomputable def Kk:DS:=(DS.ite (DT.cmp .Eq (DE.nm 3) (DE.k (.str (ad "(")))) ((DS.aug 1 .Add (DE.k (.int 1))).cons DS.nil) ((DS.ite (DT.cmp .Eq (DE.nm 3) (DE.k (.str (ad ")")))) ((DS.aug 1 .Sub (DE.k (.int 1))).cons ((DS.ite (DT.cmp .Lt (DE.nm 1) (DE.k (.int 0))) ((DS.ret (DE.k (.bool false))).cons DS.nil) DS.nil).cons DS.nil)) DS.nil).cons DS.nil)).cons DS.nil
theorem zr:ad "("=S [40]/\ad ")"=S [41]:=by decide+kernel
section
variable{lx:Lx}{tg:Tg}{b:DS}{d:D}{ds:List D}{ρ ρ1:List LV}{Q:Fl × List LV × Lx->Prop}
theorem kO(h:tg.asg true d ρ=some ρ1)(k:Rn (b ρ1 lx) λo=>o.1=.nxt/\Rn (lK tg b ds o.2.1 o.2.2) Q):Rn (lK tg b (d::ds) ρ lx) Q:=by
 obtain⟨⟨f,ρ2,l2⟩,e,rfl,k⟩:=k.eq
 have:lK tg b (d::ds) ρ lx=lK tg b ds ρ2 l2:=by
  show((tg.asg true d ρ).bind _)=_
  rw[h,ac,e];rfl
 rw[this]
 exact k
theorem F7(h:tg.asg true d ρ=some ρ1)(k:Rn (b ρ1 lx) λo=>∃r,o.1=.ret r/\Q o):Rn (lK tg b (d::ds) ρ lx) Q:=by
 obtain⟨⟨f,ρ2,l2⟩,e,r,rfl,k⟩:=k.eq
 refine .of ?_ k
 show((tg.asg true d ρ).bind _)=_
 rw[h,ac,e];rfl
theorem F8(h:tg.asg true d ρ=some ρ1)(k:Rn (b ρ1 lx) λo=>o.1=.brk/\Q (.nxt,o.2)):Rn (lK tg b (d::ds) ρ lx) Q:=by
 obtain⟨⟨f,ρ2,l2⟩,e,rfl,k⟩:=k.eq
 refine .of ?_ k
 show((tg.asg true d ρ).bind _)=_
 rw[h,ac,e];rfl
theorem vC(k:Q (.nxt,ρ,lx)):Rn (lK tg b [] ρ lx) Q:=.of rfl k
end
inductive Jg(T:List Nat)(lx:Lx)(z:Bool):Fl × List LV × Lx->Prop where
 |on (k:Int) (a b c d:LV) (h:z=(k==0)):Jg T lx z (.nxt,[.dat (.str (S T)),.dat (.int k),a,b,c,d],lx)
 |out (ρ:List LV) (h:z=false):Jg T lx z (.ret (.dat (.bool false)),ρ,lx)
theorem xy{T:List Nat}{lx:Lx}:∀{as:List (List Nat)} (p:Nat) (k:Int) (a b c d:LV),(∀x∈as,∀c∈x,c < 1114112)->Rn (lK (Tg.tup [2,3]) Kk ((hM p as).map oo) [.dat (.str (S T)),.dat (.int k),a,b,c,d] lx) (Jg T lx (jS k as))
 |[],p,k,a,b,c,d,_=>vC (.on k a b c d rfl)
 |x::as,p,k,a,b,c,d,h=>by
  have ih:=λp k a b=>xy (T:=T) (lx:=lx) (as:=as) p k a b c d λy m=>h y (.tail _ m)
  have hx:=h x (.head _)
  have e1:=Ls hx (b:=[40]) (by decide)
  have e2:=Ls hx (b:=[41]) (by decide)
  rw[<-zr.1]at e1
  rw[<-zr.2]at e2
  show Rn (lK _ _ (oo (p+x.length - 1,S x)::(hM (p+x.length) as).map oo) _ _) _
  by_cases h1:x=[40]
  ·rw[decide_eq_true h1]at e1
   have eb:jS k (x::as)=jS (k+1) as:=by rw[jS,if_pos h1]
   rw[eb]
   exact kO rfl (bZ (ib (bS (aG rfl) bw e1) (aP (lP (d:=.int (k+1)) rfl rfl bw rfl) (bv ⟨rfl,bv ⟨rfl,ih _ _ _ _⟩⟩))))
  ·rw[decide_eq_false h1]at e1
   by_cases h2:x=[41]
   ·rw[decide_eq_true h2]at e2
    by_cases h3:k - 1 < 0
    ·have eb:jS k (x::as)=false:=by rw[jS,if_neg h1,if_pos h2,if_pos h3]
     rw[eb]
     refine F7 rfl (oq (dQ (bS (aG rfl) bw e1) (oq (ib (bS (aG rfl) bw e2) (aP (lP (d:=.int (k - 1)) rfl rfl bw rfl) (oq (ib (bS (aG rfl) bw (z:=true) (congrArg some (decide_eq_true h3))) (kF bw ?_))))))))
     exact⟨(λe=>by cases e),(λe=>by cases e),(λe=>by cases e),_,rfl,.out _ rfl⟩
    ·have eb:jS k (x::as)=jS (k - 1) as:=by rw[jS,if_neg h1,if_pos h2,if_neg h3]
     rw[eb]
     exact kO rfl (bZ (dQ (bS (aG rfl) bw e1) (bZ (ib (bS (aG rfl) bw e2) (aP (lP (d:=.int (k - 1)) rfl rfl bw rfl) (bZ (dQ (bS (aG rfl) bw (z:=false) (congrArg some (decide_eq_false h3))) (bv ⟨rfl,bv ⟨rfl,bv ⟨rfl,bv ⟨rfl,ih _ _ _ _⟩⟩⟩⟩))))))))
   ·rw[decide_eq_false h2]at e2
    have eb:jS k (x::as)=jS k as:=by rw[jS,if_neg h1,if_neg h2]
    rw[eb]
    exact kO rfl (bZ (dQ (bS (aG rfl) bw e1) (bZ (dQ (bS (aG rfl) bw e2) (bv ⟨rfl,bv ⟨rfl,bv ⟨rfl,ih _ _ _ _⟩⟩⟩)))))
theorem ue{gs:List Seg}(h:∀g∈gs,kT g):∀a∈dP gs,sU a/\∀c∈a,c < 1114112:=λa m=>by
 refine a7 (List.mem_flatMap.mp m) λg mg ma=>?_
 cases h g mg with
 |pl q=>cases ma with|head=>exact⟨q.at',q.lt⟩|tail _ m=>exact by cases m
 |qu q=>exact by cases ma
theorem D0{as:List (List Nat)}(h:∀a∈as,sU a):dX 0 false as.flatten=hM 0 as:=by
 have:=jy (tail:=[]) 0 h
 rw[aO]at this
 rw[this]
 exact aO _
theorem Ej{gs:List Seg}{lx:Lx}(h:∀g∈gs,kT g)(hg:gs.length<=4000)(hz:(br gs).length<=4096):fCheck [.dat (.str (S (br gs)))] lx=some (.dat (.bool (jS 0 (dP gs))),lx):=by
 have hs:=wz (lx:=lx) h .no hg (by rw[aO];exact hz)
 rw[aO,aO]at hs
 have ho:=ue h
 have hl:=ah (vj gs) hz
 have hlt:∀c∈(dP gs).flatten,c < 1114112:=λc m=>by
  refine a7 (List.mem_flatten.mp m) λa ma mc=>?_
  exact(ho a ma).2 c mc
 unfold fCheck yM
 dsimp only
 refine lN (b:=false) (r:=.dat (.bool (jS 0 (dP gs)))) rfl ?_
 refine aP (eC (bM (aN (aG rfl) bl) hs) rfl) (aP (eC bw rfl) ?_)
 refine a7 ((xy (T:=(dP gs).flatten) (lx:=lx) 0 0 .un .un .un .un λa m=>(ho a m).2).eq) λo e hE=>?_
 have hf:=vB (it:=DI.esc (DE.nm 0)) (tg:=Tg.tup [2,3]) (b:=Kk) (lx:=lx) (ρ:=[.dat (.str (S (dP gs).flatten)),.dat (.int 0),.un,.un,.un,.un]) (yP (aG rfl) hl hlt) (by rw[D0 λa m=>(ho a m).1];exact e)
 generalize jS 0 (dP gs)=z at hE
 cases hE with
 |on k a b c d hk=>
  subst hk
  exact aP hf (kF (CV (bS (aG rfl) bw Hk)) ⟨rfl,rfl⟩)
 |out ρ hk=>
  subst hk
  exact oq (Rn.of hf ⟨(λe=>by cases e),rfl,rfl⟩)
noncomputable def mF:Nat->List Seg
 |0=>[.pl [40],.pl [32]]
 |1=>[.pl [92,41],.pl [40],.pl [9]]
 |2=>[.qu [[92,34],[41]],.pl [40],.pl [12]]
 |3=>[.pl [40],.pl [100],.pl [92,92]]
 |4=>[.pl [92,34],.pl [40],.pl [101]]
 |5=>[.pl [41]]
 |6=>[.pl [41],.pl [92,40]]
 |7=>[.pl [41],.qu [[40],[92,92]]]
 |_=>[.pl [41],.pl [92,34]]
noncomputable def eV(codes:List Nat):List Seg:=codes.flatMap mF
theorem xO{c:Nat}(h:(c != 92&&(c != 34&&dl c 1114112))=true):xL [c]:=by
 rw[aI,aI]at h
 refine oG h λh1 h2 h3=>?_
 refine⟨.one (bne_iff_ne.mp h1),λe=>?_,λd m=>?_⟩
 ·exact absurd (c7 e).1 (bne_iff_ne.mp h2)
 ·cases m with
  |head=>exact ag h3
  |tail _ m=>exact by cases m
theorem IW{c:Nat}(h:dl c 1114112=true):xL [92,c]:=by
 refine⟨.esc c,(λe=>by cases(c7 e).2),λd m=>?_⟩
 cases m with
 |head=>decide
 |tail _ m=>cases m with
  |head=>exact ag h
  |tail _ m=>exact by cases m
theorem iU{α:Type}{P:α->Prop}{a:α}{l:List α}(h:P a)(k:∀x∈l,P x):∀x∈a::l,P x:=λx m=>by
 cases m with
 |head=>exact h
 |tail _ m=>exact k x m
theorem sM{α:Type}{P:α->Prop}:∀x∈([]:List α),P x:=λx m=>by cases m
theorem Fk:∀c:Nat,∀g∈mF c,kT g
 |0=>iU (.pl (xO rfl)) (iU (.pl (xO rfl)) sM)
 |1=>iU (.pl (IW rfl)) (iU (.pl (xO rfl)) (iU (.pl (xO rfl)) sM))
 |2=>iU (.qu (iU (IW rfl) (iU (xO rfl) sM))) (iU (.pl (xO rfl)) (iU (.pl (xO rfl)) sM))
 |3=>iU (.pl (xO rfl)) (iU (.pl (xO rfl)) (iU (.pl (IW rfl)) sM))
 |4=>iU (.pl (IW rfl)) (iU (.pl (xO rfl)) (iU (.pl (xO rfl)) sM))
 |5=>iU (.pl (xO rfl)) sM
 |6=>iU (.pl (xO rfl)) (iU (.pl (IW rfl)) sM)
 |7=>iU (.pl (xO rfl)) (iU (.qu (iU (xO rfl) (iU (IW rfl) sM))) sM)
 |_+8=>iU (.pl (xO rfl)) (iU (.pl (IW rfl)) sM)
theorem nZ{codes:List Nat}:∀g∈eV codes,kT g:=λg m=>by
 refine a7 (List.mem_flatMap.mp m) λc _ mg=>?_
 exact Fk c g mg
theorem iE:∀c:Nat,br (mF c)=ce c/\(mF c).length<=3/\(ce c).length<=8
 |0=>⟨rfl,by decide,by decide⟩
 |1=>⟨rfl,by decide,by decide⟩
 |2=>⟨rfl,by decide,by decide⟩
 |3=>⟨rfl,by decide,by decide⟩
 |4=>⟨rfl,by decide,by decide⟩
 |5=>⟨rfl,by decide,by decide⟩
 |6=>⟨rfl,by decide,by decide⟩
 |7=>⟨rfl,by decide,by decide⟩
 |_+8=>⟨rfl,ag rfl,ag rfl⟩
noncomputable def qC(codes:List Nat):List Nat:=(codes.map ce).flatten
theorem iD:∀codes:List Nat,br (eV codes)=qC codes/\(eV codes).length<=3 * codes.length/\(qC codes).length<=8 * codes.length
 |[]=>⟨rfl,ai _,ai _⟩
 |c::codes=>by
  refine(λh1 h2 h3=>?_) (iD codes).1 (iD codes).2.1 (iD codes).2.2
  refine(λw1 w2 w3=>?_) (iE c).1 (iE c).2.1 (iE c).2.2
  have e1:eV (c::codes)=mF c++eV codes:=aX
  have e2:qC (c::codes)=ce c++qC codes:=by unfold qC;rw[bX,dJ]
  rw[e1,e2,Ce,h1,w1,au,au,aT]
  exact⟨rfl,by exact J3 [Ql Q1 (Qm 3 Q2),Ql Q0 (Qn 3)] (Qa Q0 Q1) (Qm 3 (Qs Q2 1)) 1 [1,1] Qt h2 w2,by exact J3 [Ql Q1 (Qm 8 Q2),Ql Q0 (Qn 8)] (Qa Q0 Q1) (Qm 8 (Qs Q2 1)) 1 [1,1] Qt h3 w3⟩
noncomputable def vR(k:Int):List Nat->Bool
 |[]=>k==0
 |c::r=>if mQ 5 c=true then vR (k+1) r else if k - 1 < 0 then false else vR (k - 1) r
theorem Ep(k:Int)(r:List (List Nat)):∀c:Nat,jS k (dP (mF c)++r)=if mQ 5 c=true then jS (k+1) r else if k - 1 < 0 then false else jS (k - 1) r
 |0=>rfl
 |1=>rfl
 |2=>rfl
 |3=>rfl
 |4=>rfl
 |5=>rfl
 |6=>rfl
 |7=>rfl
 |_+8=>rfl
theorem vQ:∀(codes:List Nat) (k:Int),jS k (dP (eV codes))=vR k codes
 |[],k=>rfl
 |c::codes,k=>by
  have e1:dP (eV (c::codes))=dP (mF c)++dP (eV codes):=by unfold dP eV;rw[aX,qK]
  rw[e1,Ep,vQ codes,vQ codes]
  rfl
noncomputable def mM(n:Nat)(codes:List Nat)(p m:Nat):Bool:=mQ n (codes.getD m 9)&&vR 0 ((codes.drop (m+1)).take (p - (m+1)))
noncomputable def yv(n:Nat)(codes:List Nat)(s:List (Int × Int))(p:Nat):Option (List (Int × Int)):=if(bT s.length 30&&dl p codes.length)=true then some (if mQ n (codes.getD p 9)=true then s else match(aM p).find? (mM n codes p)with
 |none=>s
 |some m=>s++[((m:Int),(p:Int))])else none
noncomputable def wX(n:Nat)(codes:List Nat):Option (List (Int × Int)):=dR (yv n codes) [] (aM codes.length)
inductive BA(a b:LV)(s:List (Int × Int)):List LV->Prop where
 |mk (c d e f g:LV):BA a b s [a,b,.own (s.map bQ),c,d,e,f,g]
noncomputable def HY:DS:=(DS.ite ((DT.cmp .In ((DE.nm 0).item (DE.nm 4)) (DE.nm 1)).and ((DT.cmp .Is (DE.call fCheck (DL.cons ((DE.k (.str (ad ""))).join ((DE.nm 0).cut (DO.of (DE.bin .Add (DE.nm 4) (DE.k (.int 1)))) (DO.of (DE.nm 3)) DO.no)) DL.nil)) (DE.k (.bool true))).and DT.tt)) ((DS.app 2
 ((DM.of (DE.nm 4)).tup2 (DE.nm 3))).cons (DS.brk.cons DS.nil)) DS.nil).cons DS.nil
noncomputable def KV:DS:=(DS.ite (DT.cmp .NotIn ((DE.nm 0).item (DE.nm 3)) (DE.nm 1)) ((DS.for (DI.range (DL.cons (DE.nm 3) DL.nil)) (Tg.nm 4) HY).cons DS.nil) DS.nil).cons DS.nil
section
variable{n:Nat}{codes:List Nat}{lx:Lx}
theorem Hi{it:DI}{tg:Tg}{b q:DS}{ρ:List LV}{l1:Lx}{ds:List D}{Q:Fl × List LV × Lx->Prop}(h:it ρ lx=some (true,ds,l1))(k:Rn (lK tg b ds ρ l1) λo=>o.1=.nxt/\Rn (q o.2.1 o.2.2) Q):Rn (DS.cons (DS.for it tg b) q ρ lx) Q:=by
 refine bZ ?_
 unfold DS.for
 rw[h]
 exact k
theorem tT{i j k:Nat}{ρ:List LV}(h:ρ[i]? =some (.dat (.list (codes.map wordD))))(hj:ρ[j]? =some (.dat (.int k)))(hk:k < codes.length)(hz:codes.length<=64):DE.item (DE.nm i) (DE.nm j) ρ lx=some (.dat (wordD (codes.getD k 9)),lx):=by
 have e:(codes.map wordD)[k]? =some (wordD (codes.getD k 9)):=by
  rw[aW,bA,aD hk];rfl
 exact fh (aG h) (aG hj) rfl (nL e) (by exact E9 (bf (ay hk hz)) rfl)
theorem zV{k:Nat}(hc:dq codes=true)(hk:k < codes.length):codes.getD k 9 < 9:=by
 rw[bA,aD hk]
 exact ou hc (uR hk)
theorem H4{p m:Nat}{b c e f g:LV}(hn:n=4\/n=5)(hc:dq codes=true)(hz:codes.length<=64)(hp:p<=codes.length)(hm:m < p):
  ((DT.cmp .In ((DE.nm 0).item (DE.nm 4)) (DE.nm 1)).and ((DT.cmp .Is (DE.call fCheck (DL.cons ((DE.k (.str (ad ""))).join ((DE.nm 0).cut (DO.of (DE.bin .Add (DE.nm 4) (DE.k (.int 1)))) (DO.of (DE.nm 3)) DO.no)) DL.nil)) (DE.k (.bool true))).and DT.tt)) [.dat (.list (codes.map wordD)),.dat (cr n),c,.dat (.int p),.dat (.int m),e,f,g] lx=some (mM n codes p m,lx):=by
 have hml:m < codes.length:=ay hm hp
 refine(λs1 s2 s3=>?_) (iD ((codes.drop (m+1)).take (p - (m+1)))).1 (iD ((codes.drop (m+1)).take (p - (m+1)))).2.1 (iD ((codes.drop (m+1)).take (p - (m+1)))).2.2
 have hsl:((codes.drop (m+1)).take (p - (m+1))).length<=64:=by rw[nB,eS];exact ah (Nat.min_le_right _ _) (ah (xY _ _) hz)
 have hcut:=Ed (ds:=codes.map wordD) (a:=m+1) (b:=p) (by rw[af];exact Nat.lt_of_succ_le ‹_›) (by rw[af];assumption) (by rw[af];exact bo)
 have hd:((codes.map wordD).drop (m+1)).take (p - (m+1))=(((codes.drop (m+1)).take (p - (m+1))).map ce).map λx=>dI (S x):=by
  rw[bO,<-q9,<-hH];rfl
 rw[hd]at hcut
 have hj:=jd (lx:=lx) (l:=((codes.drop (m+1)).take (p - (m+1))).map ce) (ρ:=[.dat (.list (codes.map wordD)),.dat (cr n),c,.dat (.int p),.dat (.int m),e,f,g])
  (a:=(DE.nm 0).cut (DO.of (DE.bin .Add (DE.nm 4) (DE.k (.int 1)))) (DO.of (DE.nm 3)) DO.no) (lL (aG rfl) (lY (x:=((m+1:Nat):Int)) (cL (aG rfl) bw EB)) (lY (aG rfl)) jz rfl hcut) rfl (by show(qC _).length<=_;exact J2 [Ql Q1 (Qn 64),Ql Q0 (Qm 8 Q1)] Q0 (Qn 8192) 1 [8,1] Qt hsl s3)
 have hk:=Ej (lx:=lx) (gs:=eV ((codes.drop (m+1)).take (p - (m+1)))) nZ (by exact J2 [Ql Q0 (Qm 3 Q1),Ql Q1 (Qn 64)] Q0 (Qn 4000) 1 [1,3] Qt s2 hsl) (by rw[s1];exact J2 [Ql Q1 (Qn 64),Ql Q0 (Qm 8 Q1)] Q0 (Qn 4096) 1 [8,1] Qt hsl s3)
 rw[s1,vQ]at hk
 have:=lQ (bS (op:=.In) (tT (i:=0) (j:=4) (k:=m) (ρ:=[.dat (.list (codes.map wordD)),.dat (cr n),c,.dat (.int p),.dat (.int m),e,f,g]) (lx:=lx) rfl rfl hml hz) (aG (i:=1) rfl) (xf hn (zV hc hml)))
  (lQ (bS (op:=.Is) (bM (aN hj bl) hk) (bw (d:=.bool true)) (z:=vR 0 ((codes.drop (m+1)).take (p - (m+1)))) rfl) tR)
 rw[dU]at this
 exact this
theorem CZ{p:Nat}{s:List (Int × Int)}(hn:n=4\/n=5)(hc:dq codes=true)(hz:codes.length<=64)(hp:p<=codes.length)(hs:s.length<=30):∀(l:List Nat) (d e f g:LV),(∀m∈l,m < p)->Rn (lK (Tg.nm 4) HY (l.map λm=>aw (m:Nat)) [.dat (.list (codes.map wordD)),.dat (cr n),.own (s.map bQ),.dat (.int p),d,e,f,g] lx)
  (Nx lx (BA (.dat (.list (codes.map wordD))) (.dat (cr n)) (match l.find? (mM n codes p)with|none=>s|some m=>s++[((m:Int),(p:Int))])))
 |[],d,e,f,g,_=>vC ⟨rfl,rfl,.mk ..⟩
 |m::l,d,e,f,g,h=>by
  have ht:=H4 (lx:=lx) (b:=.un) (c:=.own (s.map bQ)) (e:=e) (f:=f) (g:=g) hn hc hz hp (h m (.head _))
  cases hb:mM n codes p m with
  |true=>
   rw[hb]at ht
   rw[List.find?_cons_of_pos hb]
   have em:(s++[((m:Int),(p:Int))]).map bQ=s.map bQ++[.tuple [.int m,.int p]]:=by rw[aQ];rfl
   refine F8 rfl (oq (ib ht (aP (mX (ds:=s.map bQ) rfl (rH (tA (aG rfl)) (aG rfl)) rfl (by rw[af];exact bo)) ?_)))
   refine oq (.of rfl ⟨(λe=>by cases e),(λe=>by cases e),rfl,rfl,rfl,?_⟩)
   show BA _ _ _ [_,_,LV.own (s.map bQ++[.tuple [.int m,.int p]]),_,_,_,_,_]
   rw[<-em]
   exact .mk ..
  |false=>
   rw[hb]at ht
   rw[List.find?_cons_of_neg (by rw[hb];decide)]
   exact kO rfl (bZ (dQ ht (bv ⟨rfl,bv ⟨rfl,CZ hn hc hz hp hs l (.dat (.int m)) e f g λx q=>h x (.tail _ q)⟩⟩)))
theorem JQ{p:Nat}{s:List (Int × Int)}{d e f g:LV}(hn:n=4\/n=5)(hc:dq codes=true)(hz:codes.length<=64)(hp:p<=codes.length)(hs:s.length<=30):Rn (((DS.for (DI.range (DL.cons (DE.nm 3) DL.nil)) (Tg.nm 4) HY).cons DS.nil) [.dat (.list (codes.map wordD)),.dat (cr n),.own (s.map bQ),.dat (.int p),d,e,f,g] lx)
  (Nx lx (BA (.dat (.list (codes.map wordD))) (.dat (cr n)) (match(aM p).find? (mM n codes p)with|none=>s|some m=>s++[((m:Int),(p:Int))]))):=by
 have hr:DI.range (DL.cons (DE.nm 3) DL.nil) [.dat (.list (codes.map wordD)),.dat (cr n),.own (s.map bQ),.dat (.int p),d,e,f,g] lx=some (true,(aM p).map λi=>aw (i:Nat),lx):=kH (n:=p) (a:=DE.nm 3) (aG rfl) (by exact ah hp hz)
 apply Hi hr
 exact(CZ (lx:=lx) hn hc hz hp hs (aM p) d e f g λm q=>List.mem_range.mp q).mono λo q=>⟨q.1,bv ⟨rfl,q.2.1,q.2.2⟩⟩
theorem JR{p:Nat}{s s':List (Int × Int)}{d e f g:LV}(hn:n=4\/n=5)(hc:dq codes=true)(hz:codes.length<=64)(e0:yv n codes s p=some s'):Rn (KV [.dat (.list (codes.map wordD)),.dat (cr n),.own (s.map bQ),.dat (.int p),d,e,f,g] lx) (Nx lx (BA (.dat (.list (codes.map wordD))) (.dat (cr n)) s')):=by
 unfold yv at e0
 refine(λgs e0=>?_) (cb e0).1 (cb e0).2
 refine(λgs gp=>?_) (Bool.and_eq_true_iff.mp gs).1 (Bool.and_eq_true_iff.mp gs).2
 have hs:=ag gs
 have hp:p < codes.length:=ag gp
 have hin:=qr hn (zV hc hp)
 have hit:=tT (i:=0) (j:=3) (k:=p) (ρ:=[.dat (.list (codes.map wordD)),.dat (cr n),.own (s.map bQ),.dat (.int p),d,e,f,g]) (lx:=lx) rfl rfl hp hz
 cases hb:mQ n (codes.getD p 9)with
 |true=>
  rw[hb]at hin e0
  cases e0
  exact bZ (dQ (bS hit (aG rfl) hin) (bv ⟨rfl,bv ⟨rfl,rfl,.mk ..⟩⟩))
 |false=>
  rw[hb]at hin e0
  cases e0
  refine bZ (ib (bS hit (aG rfl) hin) ?_)
  exact(JQ hn hc hz (bf hp) hs).mono λo q=>⟨q.1,bv ⟨rfl,q.2.1,q.2.2⟩⟩
theorem FF{z:List (Int × Int)}(hn:n=4\/n=5)(hc:dq codes=true)(hz:codes.length<=64)(e:wX n codes=some z):fNest [.dat (.list (codes.map wordD)),.dat (cr n)] lx=some (.dat (.list (z.map bQ)),lx):=by
 have hl:(codes.map wordD).length=codes.length:=af _
 unfold fNest DH
 dsimp only
 refine lN (b:=false) (r:=.bor (.list (z.map bQ))) rfl (aP rfl ?_)
 refine qx (BA (.dat (.list (codes.map wordD))) (.dat (cr n))) (s:=[]) (l:=aM codes.length) (enc:=λi:Nat=>aw (i:Nat)) (step:=yv n codes) (kH (hl▸lH rfl (by exact J2 [Qe Q0 Q1,Ql Q1 (Qn 64)] Q0 (Qn 4096) 1 [1,1] Qt hl hz)) hz) e (.mk ..) ?_ ?_
 ·intro s x s' ρ h0 hR
  cases hR
  exact⟨_,rfl,JR hn hc hz h0⟩
 ·intro ρ hR
  cases hR
  exact kF (r7 rfl rfl) ⟨rfl,rfl⟩
end
noncomputable def bare(c:Nat):List Nat:=if hJ [40,41,100,101,12] c=true then [c]else [92,c]
noncomputable def tD(w:List Nat):List Nat:=w.flatMap bare
noncomputable def ET(w:List Nat):List Nat:=w.flatMap λc=>if c==92||c==34 then [92,c]else [c]
noncomputable def AN:Nat->List Nat
 |0=>[32]
 |1=>[9]
 |2=>[10]
 |_=>[13]
noncomputable def pM:Nat->List Nat
 |0=>[]
 |1=>[9]
 |2=>[10]
 |_=>[13]
theorem ua:∀c:Fin 9,gX (gX (eE c.val) (ad "\\") (ad "\\\\")) (ad "\"") (ad "\\\"")=S (ET (ce c.val))/\(gX (eE c.val) (ad "\\") (ad "\\\\")).length<=100:=by decide+kernel
theorem AH:ad "()de\u000c"=S [40,41,100,101,12]:=by decide+kernel
section
variable{ρ:List LV}{lx:Lx}
theorem zq{y z x:Str}{o:DE}{l1:Lx}(h:o ρ lx=some (.dat (.str x),l1))(hz:x.length<=4096):DE.repl y z o ρ lx=some (.dat (.str (gX x y z)),l1):=by
 unfold DE.repl
 rw[h,ac]
 show(if decide (x.length<=1048576)=true then _ else _)=_
 rw[if_pos (decide_eq_true (by exact bo))]
theorem xH{a b:List Nat}(h:a.length+b.length<=4096):qT .Add (.dat (.str (S a))) (.dat (.str (S b)))=some (.dat (.str (S (a++b)))):=by
 have h4:(4096:Nat)<=sizeLine:=by decide
 rw[<-t7]
 show(none:Option Va).or (((if decide ((S a).length+(S b).length<=sizeLine)=true then some (Va.dat (.str (S a++S b)))else none):Option Va).or _)=_
 rw[wI,wI,if_pos (decide_eq_true (by exact bo))]
 rfl
theorem Kr{a b:List Nat}(h:a.length+b.length<=4096):GI .Add (.dat (.str (S a))) (.dat (.str (S b)))=some (.dat (.str (S (a++b)))):=by
 have h4:(4096:Nat)<=sizeLine:=by decide
 rw[<-t7]
 show(none:Option Va).or ((if decide ((S a).length+(S b).length<=sizeLine)=true then some (Va.dat (.str (S a++S b)))else none):Option Va)=_
 rw[wI,wI,if_pos (decide_eq_true (by exact bo))]
 rfl
noncomputable def zn(c:Nat):D:=.str (S [c])
theorem Bu{i:Nat}{w:List Nat}(h:ρ[i]? =some (.dat (.str (S w))))(hz:w.length<=64):cw [none,none] (DI.val (DE.nm i)) (Tg.nm 1) DT.tt (cF (DE.ite (DT.cmp .In (DE.nm 1) (DE.k (.str (ad "()de\u000c")))) (DE.nm 1) (DE.bin .Add (DE.k (.str (ad "\\"))) (DE.nm 1)))) ρ lx=some ((w.map bare).map (λx=>dI (S x)),lx):=by
 rw[bO]
 refine iT (enc:=zn) (l:=w) (λρ=>∃a,ρ=[.un,a]) (fC (aG h) rfl) rfl ⟨_,rfl⟩ (by exact bo) λc ρ _ ⟨a,hρ⟩=>?_
 subst hρ
 refine⟨[.un,.dat (zn c)],rfl,⟨_,rfl⟩,?_⟩
 have hin:DT.cmp .In (DE.nm 1) (DE.k (.str (ad "()de\u000c"))) [.un,.dat (zn c)] lx=some (hJ [40,41,100,101,12] c,lx):=by
  refine bS (aG rfl) bw ?_
  show some (fK (ad "()de\u000c") (S [c]))=_
  rw[AH]
  exact congrArg some ((StrLaws.found_one (S [40,41,100,101,12]) c).trans (by
   show decide (c∈[40,41,100,101,12])=_
   rw[wk,decide_eq_true_iff,List.contains_iff_mem]))
 unfold DE.ite
 rw[hin,ac]
 show(if hJ [40,41,100,101,12] c=true then _ else _)=some (Va.dat (.str (S (bare c))),lx)
 unfold bare
 by_cases hb:hJ [40,41,100,101,12] c=true
 ·rw[if_pos hb,if_pos hb];rfl
 ·rw[if_neg hb,if_neg hb]
  exact cL bw (aG (d:=zn c) rfl) (by rw[xA];exact xH (a:=[92]) (b:=[c]) (ag rfl))
theorem uo{w:List Nat}:(w.map bare).flatten=tD w:=by rw[tD,BO]
theorem GF(c:Nat):(bare c).length<=2:=by
 unfold bare
 split
 ·exact a8 1
 ·exact ai 2
theorem yQ:∀w:List Nat,(tD w).length<=2 * w.length
 |[]=>ai _
 |c::w=>by
  have h1:=yQ w
  have h2:=GF c
  unfold tD at *
  rw[aX,au,aT]
  exact J3 [Ql Q1 (Qm 2 Q2),Ql Q0 (Qn 2)] (Qa Q0 Q1) (Qm 2 (Qs Q2 1)) 1 [1,1] Qt h1 h2
theorem yq:∀w:List Nat,(ET w).length<=2 * w.length
 |[]=>ai _
 |c::w=>by
  have:=yq w
  unfold ET at *
  rw[aX,au,aT]
  split
  ·show 2+_<=_;exact J2 [Ql Q0 (Qm 2 Q1)] (Qa (Qn 2) Q0) (Qm 2 (Qs Q1 1)) 1 [1] Qt this
  ·show 1+_<=_;exact J2 [Ql Q0 (Qm 2 Q1)] (Qa (Qn 1) Q0) (Qm 2 (Qs Q1 1)) 1 [1] Qt this
end
theorem lU:ad " \t\n\u000d"=S [32,9,10,13]/\ad ""=S []/\ad "\t"=S [9]/\ad "\n"=S [10]/\ad "\u000d"=S [13]:=by decide+kernel
theorem JE(q:Nat)(h:q < 4):jt (.str (ad " \t\n\u000d")) (q:Int)=some (.str (S (AN q))):=by
 rw[lU.1]
 match q,h with
 |0,_=>rfl
 |1,_=>rfl
 |2,_=>rfl
 |3,_=>rfl
theorem JD(q:Nat)(h:q < 4):jt (.list [.str (ad ""),.str (ad "\t"),.str (ad "\n"),.str (ad "\u000d")]) (q:Int)=some (.str (S (pM q))):=by
 refine Jp lU λ_ h1 h2 h3 h4=>?_
 rw[h1,h2,h3,h4]
 match q,h with
 |0,_=>rfl
 |1,_=>rfl
 |2,_=>rfl
 |3,_=>rfl
theorem kQ(y:Int){m:Nat}(h:0 < m):y.fmod (m:Int)=((y.fmod (m:Int)).toNat:Int)/\(y.fmod (m:Int)).toNat < m:=by
 have h1:=Int.fmod_nonneg_of_pos y (b:=(m:Int)) (by exact Int.natCast_pos.mpr h)
 have h2:=Int.fmod_lt_of_pos y (b:=(m:Int)) (by exact Int.natCast_pos.mpr h)
 exact⟨(Int.toNat_of_nonneg h1).symm,(Int.toNat_lt h1).mpr h2⟩
noncomputable def Cg(x:Int):Bool:=(x.fdiv 8).fmod 2==1
noncomputable def u8(x:Int):Nat:=((x.fdiv 16).fmod 4).toNat
noncomputable def je(st:Bool)(q c:Nat):List Nat:=if st=true then tD (ce c)++AN q else 34::(ET (ce c)++34::pM q)
noncomputable def qR(x:Int)(c:Nat):List Nat:=je (Cg x) (u8 x) c
theorem Cs(q:Nat):(AN q).length<=1/\(pM q).length<=1:=by
 match q with
 |0=>decide
 |1=>decide
 |2=>decide
 |_+3=>exact⟨ai 1,ai 1⟩
theorem D3(st:Bool)(q c:Nat):(je st q c).length<=19:=by
 have h1:=(iE c).2.2
 have h2:=yQ (ce c)
 have h3:=yq (ce c)
 have h4:=Cs q
 unfold je
 split
 ·rw[au];exact J3 [Ql Q1 (Qn 1),Ql Q0 (Qm 2 Q2),Ql Q2 (Qn 8)] (Qa Q0 Q1) (Qn 19) 1 [1,1,2] Qt h4.1 h2 h1
 ·rw[aT,au,aT];exact J3 [Ql Q1 (Qn 1),Ql Q0 (Qm 2 Q2),Ql Q2 (Qn 8)] (Qs (Qa Q0 (Qs Q1 1)) 1) (Qn 19) 1 [1,1,2] Qt h4.2 h3 h1
structure DrS where
 op:Nat
 codes:List Nat
 picks:List Int
 text:List Nat
noncomputable def ie(x:Int):Nat:=5+((x.fdiv 2).fmod 4).toNat
noncomputable def Gg(n:Nat)(X:Nat->Int)(s:DrS)(k:Nat):Option DrS:=
 if(bT s.codes.length 30&&(bT s.picks.length 30&&(bT s.text.length 3000&&bT k 9)))=true then(
 if(2 * (s.op:Int) - k==0||(decide ((s.op:Int) < n)&&(X k).fmod 2==0))=true then(if dl s.op n=true then some ⟨s.op+1,s.codes++[s.op],s.picks,s.text++qR (X k) s.op⟩else none)
 else some ⟨s.op,s.codes++[ie (X k)],s.picks++[((X k).fdiv 64).fmod (2 * (s.op:Int) - k)],s.text++qR (X k) (ie (X k))⟩)else none
noncomputable def cellsD(c:Nat):D:=.list ((iu c).map λx=>.str (S x))
noncomputable def fZ(n:Nat):D:=.list ((aM n).map cellsD)
noncomputable def sB:List Int:=[8,32,24,107,48,21,127,2,13,33]
noncomputable def oF(script:List Int)(n k:Nat):Int:=sB.getD k 0+(qf script (some (k:Int)) none (some (2 * (n:Int)))).sum
noncomputable def Ly:DE:=DE.bin .Add ((DE.list (DL.cons (DE.k (.int 8)) (DL.cons (DE.k (.int 32)) (DL.cons (DE.k (.int 24)) (DL.cons (DE.k (.int 107)) (DL.cons (DE.k (.int 48)) (DL.cons (DE.k (.int 21)) (DL.cons (DE.k (.int 127)) (DL.cons (DE.k (.int 2)) (DL.cons (DE.k (.int 13)) (DL.cons
 (DE.k (.int 33)) DL.nil))))))))))).item (DE.nm 6)) (DE.call sumF (DL.cons ((DE.nm 0).cut (DO.of (DE.nm 6)) DO.no (DO.of (DE.bin .Mult (DE.k (.int 2)) (DE.call lenF (DL.cons (DE.nm 1) DL.nil))))) DL.nil))
noncomputable def Lw:DT:=(DT.cmp .Eq (DE.nm 8) (DE.k (.int 0))).or (((DT.cmp .Lt (DE.nm 5) (DE.call lenF (DL.cons (DE.nm 1) DL.nil))).and ((DT.cmp .Eq (DE.bin .Mod (DE.nm 7) (DE.k (.int 2))) (DE.k (.int 0))).and DT.tt)).or DT.ff)
noncomputable def LJ:DS:=(DS.app 2 (DM.of ((DE.nm 1).item (DE.nm 5)))).cons ((DS.aug 5 .Add (DE.k (.int 1))).cons DS.nil)
noncomputable def K8:DE:=DE.list (DL.cons (DE.list (DL.cons (DE.k (.str (ad ")"))) DL.nil)) (DL.cons (DE.list (DL.cons (DE.k (.str (ad ")"))) (DL.cons (DE.k (.str (ad "\\("))) DL.nil))) (DL.cons (DE.list (DL.cons (DE.k (.str (ad ")"))) (DL.cons (DE.k (.str (ad "\"(\\\\\""))) DL.nil)))
 (DL.cons (DE.list (DL.cons (DE.k (.str (ad ")"))) (DL.cons (DE.k (.str (ad "\\\""))) DL.nil))) DL.nil))))
noncomputable def LH:DS:=(DS.app 2 (DM.of (K8.item (DE.bin .Mod (DE.bin .FloorDiv (DE.nm 7) (DE.k (.int 2))) (DE.k (.int 4)))))).cons ((DS.app 3 (DM.of (DE.bin .Mod (DE.bin .FloorDiv (DE.nm 7) (DE.k (.int 64))) (DE.nm 8)))).cons DS.nil)
noncomputable def Lv:DS:=DS.ite (DT.cmp .Eq (DE.bin .Mod (DE.bin .FloorDiv (DE.nm 7) (DE.k (.int 8))) (DE.k (.int 2))) (DE.k (.int 1)))
 ((DS.aug 4 .Add (DE.bin .Add ((DE.k (.str (ad ""))).join (DE.comp (cw [none,none] (DI.val (DE.nm 9)) (Tg.nm 1) DT.tt (cF (DE.ite (DT.cmp .In (DE.nm 1) (DE.k (.str (ad "()de\u000c")))) (DE.nm 1) (DE.bin .Add (DE.k (.str (ad "\\"))) (DE.nm 1)))))))
  ((DE.k (.str (ad " \t\n\u000d"))).item (DE.bin .Mod (DE.bin .FloorDiv (DE.nm 7) (DE.k (.int 16))) (DE.k (.int 4)))))).cons DS.nil)
 ((DS.aug 4 .Add (DE.bin .Add (DE.bin .Add (DE.bin .Add (DE.k (.str (ad "\""))) (DE.repl (ad "\"") (ad "\\\"") (DE.repl (ad "\\") (ad "\\\\") (DE.nm 9)))) (DE.k (.str (ad "\""))))
  ((DE.list (DL.cons (DE.k (.str (ad ""))) (DL.cons (DE.k (.str (ad "\t"))) (DL.cons (DE.k (.str (ad "\n"))) (DL.cons (DE.k (.str (ad "\u000d"))) DL.nil))))).item (DE.bin .Mod (DE.bin .FloorDiv (DE.nm 7) (DE.k (.int 16))) (DE.k (.int 4)))))).cons DS.nil)
noncomputable def Lu:DS:=(DS.asg 9 ((DE.k (.str (ad ""))).join ((DE.nm 2).item (DE.k (.int 1)).neg))).cons (Lv.cons DS.nil)
noncomputable def IA:DS:=(DS.asg 7 Ly).cons ((DS.asg 8 (DE.bin .Sub (DE.bin .Mult (DE.k (.int 2)) (DE.nm 5)) (DE.nm 6))).cons ((DS.ite Lw LJ LH).cons Lu))
noncomputable def xt(a b:LV)(rows:List D)(picks:List Int)(text:List Nat)(op:Nat)(k x w:LV)(wd c d e:LV):List LV:=[a,b,.own rows,.own (picks.map .int),.dat (.str (S text)),.dat (.int op),k,x,w,wd,c,d,e]
inductive KI(a b:LV)(s:DrS):List LV->Prop where
 |mk (k x w wd c d e:LV):KI a b s (xt a b (s.codes.map cellsD) s.picks s.text s.op k x w wd c d e)
section
variable{lx:Lx}{a b k w c d e wd:LV}{rows:List D}{picks:List Int}{text:List Nat}{op:Nat}{x:Int}
theorem fd(x:Int)(m:Int)(h:(small m&&m != 0)=true):qT .FloorDiv (.dat (.int x)) (.dat (.int m))=some (.dat (.int (x.fdiv m))):=by
 show(if(small m&&m != 0)=true then some (Va.dat (.int (x.fdiv m)))else none)=_
 rw[if_pos h]
theorem md(x:Int)(m:Int)(h:(m != 0)=true):qT .Mod (.dat (.int x)) (.dat (.int m))=some (.dat (.int (x.fmod m))):=by
 show(if(m != 0)=true then some (Va.dat (.int (x.fmod m)))else none)=_
 rw[if_pos h]
theorem Ea{ρ:List LV}{i:Nat}{m q:Int}(h:ρ[i]? =some (.dat (.int x)))(hm:(small m&&m != 0)=true)(hq:(q != 0)=true):DE.bin .Mod (DE.bin .FloorDiv (DE.nm i) (DE.k (.int m))) (DE.k (.int q)) ρ lx=some (.dat (.int ((x.fdiv m).fmod q)),lx):=
 cL (cL (aG h) bw (fd x m hm)) bw (md _ q hq)
theorem A8{ds:List D}{d:D}:jt (.list (ds++[d])) (-1)=some d:=by
 show(cP (-1) (ds++[d]).length).bind ((ds++[d])[·]?)=_
 have e:cP (-1) (ds++[d]).length=some ds.length:=by
  have h1:(-1:Int) < 0:=by decide
  have h2:(-1:Int)+((ds++[d]).length:Nat)=(ds.length:Nat):=by rw[au];show(-1:Int)+((ds.length+1:Nat):Int)=_;omega
  unfold cP
  simp only[h1,if_true,h2]
  rw[if_pos (by rw[aI];exact⟨decide_eq_true (by exact bN _),decide_eq_true (by rw[au];show _ < ((ds.length+1:Nat):Int);exact Int.ofNat_lt.mpr (J1 [] (Qs Q0 1) (Qs Q0 1) 1 [] Qt))⟩)]
  rfl
 rw[e]
 show(ds++[d])[ds.length]? =_
 rw[lm (ai _),s9];rfl
theorem BS(n:Nat):(eE n).length<=8:=(iE n).2.2
theorem K7{cd:Nat}(hc:cd < 9)(hz:text.length<=3000):Rn (Lv (xt a b rows picks text op k (.dat (.int x)) w (.dat (.str (eE cd))) c d e) lx) (Nx lx λρ=>ρ=xt a b rows picks (text++qR x cd) op k (.dat (.int x)) w (.dat (.str (eE cd))) c d e):=by
 have h8:=Ea (lx:=lx) (ρ:=xt a b rows picks text op k (.dat (.int x)) w (.dat (.str (eE cd))) c d e) (i:=7) (x:=x) (m:=8) (q:=2) rfl rfl rfl
 have h16:=Ea (lx:=lx) (ρ:=xt a b rows picks text op k (.dat (.int x)) w (.dat (.str (eE cd))) c d e) (i:=7) (x:=x) (m:=16) (q:=4) rfl rfl rfl
 refine(λf1 f2=>?_) (kQ (x.fdiv 16) (m:=4) (by decide)).1 (kQ (x.fdiv 16) (m:=4) (by decide)).2
 have f1:(x.fdiv 16).fmod 4=(u8 x:Int):=f1
 have f2:u8 x < 4:=f2
 rw[f1]at h16
 have hl:=D3 (Cg x) (u8 x) cd
 have hw:=BS cd
 have hw':(ce cd).length<=8:=hw
 have hq1:=yq (ce cd)
 have hq2:=yQ (ce cd)
 have hs:=Cs (u8 x)
 cases hst:Cg x with
 |true=>
  have e1:qR x cd=tD (ce cd)++AN (u8 x):=by unfold qR je;rw[hst,if_pos rfl]
  rw[e1]
  have hj:=jd (lx:=lx) (ρ:=xt a b rows picks text op k (.dat (.int x)) w (.dat (.str (eE cd))) c d e) (l:=(ce cd).map bare) (dN (Bu (lx:=lx) (i:=9) (w:=ce cd) rfl (by exact bo))) rfl (by rw[uo];exact J2 [Ql Q0 (Qm 2 Q1),Ql Q1 (Qn 8)] Q0 (Qn 8192) 1 [1,2] Qt hq2 hw')
  rw[uo]at hj
  exact ib (bS h8 bw (Hk.trans (congrArg some hst))) (aP (lP rfl rfl (cL hj (fh bw h16 rfl (JE _ f2) (by exact E9 (bf f2) rfl)) (xH (by exact J3 [Ql Q1 (Qn 1),Ql Q0 (Qm 2 Q2),Ql Q2 (Qn 8)] (Qa Q0 Q1) (Qn 4096) 1 [1,1,2] Qt hs.1 hq2 hw'))) (Kr (by rw[au];exact J4 [Ql Q2 (Qn 1),Ql Q1 (Qm 2 Q3),Ql Q3 (Qn 8),Ql Q0 (Qn 3000)] (Qa Q0 (Qa Q1 Q2)) (Qn 4096) 1 [1,1,2,1] Qt hs.1 hq2 hw' hz))) (bv ⟨rfl,rfl,rfl⟩))
 |false=>
  have e1:qR x cd=[34]++ET (ce cd)++[34]++pM (u8 x):=by unfold qR je;rw[hst,if_neg (by decide)];simp
  rw[e1]
  have r1:gX (gX (eE cd) (ad "\\") (ad "\\\\")) (ad "\"") (ad "\\\"")=S (ET (ce cd)):=(ua ⟨cd,hc⟩).1
  have r2:(gX (eE cd) (ad "\\") (ad "\\\\")).length<=100:=(ua ⟨cd,hc⟩).2
  have hr:=zq (y:=ad "\"") (z:=ad "\\\"") (zq (y:=ad "\\") (z:=ad "\\\\") (aG (d:=.str (eE cd)) (lx:=lx) (ρ:=xt a b rows picks text op k (.dat (.int x)) w (.dat (.str (eE cd))) c d e) (i:=9) rfl) (by exact bo)) (by exact bo)
  rw[r1]at hr
  have hk:DE.k (.str (ad "\"")) (xt a b rows picks text op k (.dat (.int x)) w (.dat (.str (eE cd))) c d e) lx=some (.dat (.str (S [34])),lx):=by rw[<-oQ];rfl
  exact dQ (bS h8 bw (Hk.trans (congrArg some hst))) (aP (lP rfl rfl (cL (cL (cL hk hr (xH (by show 1+_<=_;exact J2 [Ql Q0 (Qm 2 Q1),Ql Q1 (Qn 8)] (Qa (Qn 1) Q0) (Qn 4096) 1 [1,2] Qt hq1 hw'))) hk (xH (by rw[au];show 1+_+1<=_;exact J2 [Ql Q0 (Qm 2 Q1),Ql Q1 (Qn 8)] (Qs (Qa (Qn 1) Q0) 1) (Qn 4096) 1 [1,2] Qt hq1 hw'))) (fh (jc (aN bw (aN bw (aN bw (aN bw bl)))) rfl rfl) h16 rfl (JD _ f2) (by exact E9 (bf f2) rfl)) (xH (by rw[au,au];show 1+_+1+_<=_;exact J3 [Ql Q1 (Qn 1),Ql Q0 (Qm 2 Q2),Ql Q2 (Qn 8)] (Qa (Qs (Qa (Qn 1) Q0) 1) Q1) (Qn 4096) 1 [1,1,2] Qt hs.2 hq1 hw'))) (Kr (by rw[au,au,au];show _+(1+_+1+_)<=_;exact J4 [Ql Q2 (Qn 1),Ql Q1 (Qm 2 Q3),Ql Q3 (Qn 8),Ql Q0 (Qn 3000)] (Qa Q0 (Qa (Qs (Qa (Qn 1) Q1) 1) Q2)) (Qn 4096) 1 [1,1,2,1] Qt hs.2 hq1 hw' hz))) (bv ⟨rfl,rfl,rfl⟩))
theorem Kd{cd:Nat}{cs:List Nat}(hc:cd < 9)(hz:text.length<=3000):Rn (Lu (xt a b ((cs++[cd]).map cellsD) picks text op k (.dat (.int x)) w wd c d e) lx) (Nx lx λρ=>ρ=xt a b ((cs++[cd]).map cellsD) picks (text++qR x cd) op k (.dat (.int x)) w (.dat (.str (eE cd))) c d e):=by
 have hm:(cs++[cd]).map cellsD=cs.map cellsD++[cellsD cd]:=by rw[aQ];rfl
 have hw:(ce cd).length<=8:=(iE cd).2.2
 have hj:DE.join (DE.k (.str (ad ""))) ((DE.nm 2).item (DE.k (.int 1)).neg) (xt a b ((cs++[cd]).map cellsD) picks text op k (.dat (.int x)) w wd c d e) lx=some (.dat (.str (eE cd)),lx):=by
  refine jd (l:=iu cd) (r:=.bor (cellsD cd)) ?_ rfl (by show(ce cd).length<=_;exact bo)
  rw[hm]
  exact fh (r:=.bor (.list (cs.map cellsD++[cellsD cd]))) (r7 (i:=2) rfl rfl) (mL bw) rfl A8 (by decide)
 refine aP (eC hj rfl) (bZ ((K7 hc hz).mono λo p=>⟨p.1,bv ⟨rfl,p.2.1,p.2.2⟩⟩))
end
theorem dh:ad " "=S [32]/\ad "\\)"=S [92,41]/\ad "\"\\\")\""=S [34,92,34,41,34]/\ad "\u000c"=S [12]/\ad "d"=S [100]/\ad "\\\\"=S [92,92]/\ad "\\\""=S [92,34]/\ad "e"=S [101]/\ad "\\("=S [92,40]/\ad "\"(\\\\\""=S [34,40,92,92,34]:=by decide+kernel
section
variable{n:Nat}{lx:Lx}{ρ:List LV}{c d e w wd x k:LV}{script:List Int}
theorem Iy:K8 ρ lx=some (.dat (.list ((aM 4).map λi=>cellsD (5+i))),lx):=by
 refine(λh1 h2 h3 h4 h5 h6 h7 h8 h9 h10=>?_) dh.1 dh.2.1 dh.2.2.1 dh.2.2.2.1 dh.2.2.2.2.1 dh.2.2.2.2.2.1 dh.2.2.2.2.2.2.1 dh.2.2.2.2.2.2.2.1 dh.2.2.2.2.2.2.2.2.1 dh.2.2.2.2.2.2.2.2.2
 unfold K8
 rw[zr.2,h7,h9,h10]
 rfl
theorem Ec{α β:Type}(f:α->β)(ds:List α)(lo hi st:Option Int):qf (ds.map f) lo hi st=(qf ds lo hi st).map f:=by
 unfold qf
 rw[af,List.map_filterMap]
 refine congrArg (λg=>List.filterMap g _) (funext λi=>?_)
 rw[aW]
theorem pO{α:Type}{f:Nat->α}{m j:Nat}(h:j < m):((aM m).map f)[j]? =some (f j):=by
 rw[aW,List.getElem?_range h];rfl
theorem wv{l:List Int}:sumF [.dat (.list (l.map .int))] lx=some (.dat (.int l.sum),lx):=by
 show((((lX (l.map .int)).or _).map λis=>Va.dat (.int is.sum)).map λv=>(v,lx))=_
 rw[im];rfl
theorem pW(h:ρ[1]? =some (.dat (fZ n)))(hn:n<=5):DE.call lenF (DL.cons (DE.nm 1) DL.nil) ρ lx=some (.dat (.int n),lx):=by
 have:=lH (lx:=lx) (i:=1) (l:=(aM n).map cellsD) h (by rw[af,bL];exact bo)
 rwa [af,bL]at this
theorem IB{j:Nat}(hn:n=4\/n=5)(hs:script.length<=63)(h0:ρ[0]? =some (.dat (.list (script.map .int))))(h1:ρ[1]? =some (.dat (fZ n)))(h6:ρ[6]? =some (.dat (.int j)))(hj:j<=9):Ly ρ lx=some (.dat (.int (oF script n j)),lx):=by
 have h4:(63:Nat)<=sizeLine:=by decide
 have hc:tF (.list (script.map .int)) (some (j:Int)) none (some (2 * (n:Int)))=some (.list ((qf script (some (j:Int)) none (some (2 * (n:Int)))).map .int)):=by
  rw[<-Ec]
  show(if decide (some (2 * (n:Int))≠some (0:Int)/\(script.map aw).length<=sizeLine)=true then some (cj (qf (script.map .int) _ _ _))else none)=_
  rw[if_pos (decide_eq_true ⟨λe=>by have:=ao e;omega,by rw[af];exact bo⟩)]
 have hi:(sB.map aw)[j]? =some (.int (sB.getD j 0)):=by
  rw[aW,bA,aD (show j < sB.length from dc hj)];rfl
 exact cL (fh (d:=.list (sB.map .int)) (jc (aN bw (aN bw (aN bw (aN bw (aN bw (aN bw (aN bw (aN bw (aN bw (aN bw bl)))))))))) rfl rfl) (aG h6) rfl (nL hi) (by omega))
  (bM (aN (lL (aG h0) (lY (aG h6)) jz (lY (cL bw (pW h1 (by exact G6 hn)) AW)) rfl hc) bl) wv) EB
theorem Iz{s:DrS}{j:Nat}{y:Int}{a:LV}(hn:n=4\/n=5):Lw (xt a (.dat (fZ n)) (s.codes.map cellsD) s.picks s.text s.op k (.dat (.int y)) (.dat (.int (2 * (s.op:Int) - j))) wd c d e) lx=some ((2 * (s.op:Int) - j==0||(decide ((s.op:Int) < n)&&y.fmod 2==0)),lx):=by
 have:=oU (bS (op:=.Eq) (a:=DE.nm 8) (b:=DE.k (.int 0)) (ρ:=xt a (.dat (fZ n)) (s.codes.map cellsD) s.picks s.text s.op k (.dat (.int y)) (.dat (.int (2 * (s.op:Int) - j))) wd c d e) (lx:=lx) (aG rfl) bw Hk)
  (oU (lQ (bS (op:=.Lt) (aG (i:=5) rfl) (pW rfl (by exact G6 hn)) (z:=decide ((s.op:Int) < n)) rfl) (lQ (bS (op:=.Eq) (cL (aG (i:=7) rfl) (bw (d:=.int 2)) (md y 2 rfl)) (bw (d:=.int 0)) Hk) tR)) zM)
 rw[dU,Aw]at this
 exact this
theorem Gf{s s':DrS}{j:Nat}(hn:n=4\/n=5)(hs:script.length<=63)(e0:Gg n (oF script n) s j=some s'):
  Rn (IA (xt (.dat (.list (script.map .int))) (.dat (fZ n)) (s.codes.map cellsD) s.picks s.text s.op (.dat (.int j)) x w wd c d e) lx) (Nx lx (KI (.dat (.list (script.map .int))) (.dat (fZ n)) s')):=by
 unfold Gg at e0
 refine(λg e0=>?_) (cb e0).1 (cb e0).2
 rw[aI,aI,aI]at g
 refine(λg1 g2 g3 g4=>?_) g.1 g.2.1 g.2.2.1 g.2.2.2
 have z1:=ag g1
 have z2:=ag g2
 have z3:=ag g3
 have z4:=ag g4
 refine aP (eC (IB (j:=j) hn hs rfl rfl rfl z4) rfl) (aP (eC (cL (cL bw (aG rfl) AW) (aG rfl) yf) rfl) ?_)
 have hC:=Iz (lx:=lx) (k:=.dat (.int j)) (wd:=wd) (c:=c) (d:=d) (e:=e) (s:=s) (j:=j) (y:=oF script n j) (a:=.dat (.list (script.map .int))) hn
 cases hb:(2 * (s.op:Int) - j==0||(decide ((s.op:Int) < n)&&(oF script n j).fmod 2==0))with
 |true=>
  rw[hb]at hC e0
  refine(λgo e0=>?_) (cb (show(if _=true then _ else _)=_ from e0)).1 (cb (show(if _=true then _ else _)=_ from e0)).2
  cases e0
  have ho:s.op < n:=ag go
  have hit:jt (fZ n) (s.op:Int)=some (cellsD s.op):=nL (pO ho)
  refine bZ (ib hC (aP (mX (ds:=s.codes.map cellsD) rfl (tA (fh (aG rfl) (aG (d:=.int s.op) rfl) rfl hit (by exact E9 (ah (bf ho) (G6 hn)) rfl))) rfl (by rw[af];exact bo)) (aP (lP (d:=.int (s.op+1:Nat)) rfl rfl bw rfl) (bv ⟨rfl,?_⟩))))
  have em:s.codes.map cellsD++[cellsD s.op]=(s.codes++[s.op]).map cellsD:=by rw[aQ];rfl
  have hw:=Kd (lx:=lx) (a:=.dat (.list (script.map .int))) (b:=.dat (fZ n)) (k:=.dat (.int j)) (w:=.dat (.int (2 * (s.op:Int) - j))) (wd:=wd) (c:=c) (d:=d) (e:=e) (picks:=s.picks) (text:=s.text) (op:=s.op+1) (x:=oF script n j) (cd:=s.op) (cs:=s.codes) (by exact ay ho (ah (G6 hn) (ag rfl))) z3
  rw[<-em]at hw
  refine Rn.mono hw λo q=>⟨q.1,q.2.1,?_⟩
  rw[q.2.2,em]
  exact KI.mk (s:=⟨s.op+1,s.codes++[s.op],s.picks,s.text++qR (oF script n j) s.op⟩) ..
 |false=>
  rw[hb]at hC e0
  cases e0
  refine(λf1 f2=>?_) (kQ ((oF script n j).fdiv 2) (m:=4) (by decide)).1 (kQ ((oF script n j).fdiv 2) (m:=4) (by decide)).2
  have f2:(((oF script n j).fdiv 2).fmod 4).toNat < 4:=f2
  have hw0:(2 * (s.op:Int) - j != 0)=true:=by
   rw[Bool.or_eq_false_iff]at hb
   rw[bne,hb.1];rfl
  have hcx:ie (oF script n j) < 9:=Nat.add_lt_add_left f2 5
  have h4:=Ea (lx:=lx) (ρ:=xt (.dat (.list (script.map .int))) (.dat (fZ n)) (s.codes.map cellsD) s.picks s.text s.op (.dat (.int j)) (.dat (.int (oF script n j))) (.dat (.int (2 * (s.op:Int) - j))) wd c d e) (i:=7) (x:=oF script n j) (m:=2) (q:=4) rfl rfl rfl
  rw[show((oF script n j).fdiv 2).fmod 4=((((oF script n j).fdiv 2).fmod 4).toNat:Int)from f1]at h4
  have hit:jt (.list ((aM 4).map λi=>cellsD (5+i))) ((((oF script n j).fdiv 2).fmod 4).toNat:Int)=some (cellsD (ie (oF script n j))):=nL (pO f2)
  refine bZ (dQ hC (aP (mX (ds:=s.codes.map cellsD) rfl (tA (fh Iy h4 rfl hit (by exact E9 (bf f2) rfl))) rfl (by rw[af];exact bo)) (aP (mX (ds:=s.picks.map .int) rfl (tA (cL (cL (aG rfl) bw (fd _ 64 rfl)) (aG rfl) (md _ _ hw0))) rfl (by rw[af];exact bo)) (bv ⟨rfl,?_⟩))))
  have em:s.codes.map cellsD++[cellsD (ie (oF script n j))]=(s.codes++[ie (oF script n j)]).map cellsD:=by rw[aQ];rfl
  have ep:s.picks.map aw++[.int (((oF script n j).fdiv 64).fmod (2 * (s.op:Int) - j))]=(s.picks++[((oF script n j).fdiv 64).fmod (2 * (s.op:Int) - j)]).map aw:=by rw[aQ];rfl
  have hw:=Kd (lx:=lx) (a:=.dat (.list (script.map .int))) (b:=.dat (fZ n)) (k:=.dat (.int j)) (w:=.dat (.int (2 * (s.op:Int) - j))) (wd:=wd) (c:=c) (d:=d) (e:=e) (picks:=s.picks++[((oF script n j).fdiv 64).fmod (2 * (s.op:Int) - j)]) (text:=s.text) (op:=s.op) (x:=oF script n j) (cd:=ie (oF script n j)) (cs:=s.codes) hcx z3
  unfold xt at hw
  rw[<-em,<-ep]at hw
  refine Rn.mono hw λo q=>⟨q.1,q.2.1,?_⟩
  rw[q.2.2,em,ep]
  exact KI.mk (s:=⟨s.op,s.codes++[ie (oF script n j)],s.picks++[((oF script n j).fdiv 64).fmod (2 * (s.op:Int) - j)],s.text++qR (oF script n j) (ie (oF script n j))⟩) ..
noncomputable def Kc(script:List Int)(n:Nat):Option DrS:=dR (Gg n (oF script n)) ⟨0,[],[],[]⟩ (aM (2 * n))
theorem HZ:DE.list (DL.cons (DE.list (DL.cons (DE.k (.str (ad "("))) (DL.cons (DE.k (.str (ad " "))) DL.nil))) (DL.cons (DE.list (DL.cons (DE.k (.str (ad "\\)"))) (DL.cons (DE.k (.str (ad "("))) (DL.cons (DE.k (.str (ad "\t"))) DL.nil)))) (DL.cons (DE.list
  (DL.cons (DE.k (.str (ad "\"\\\")\""))) (DL.cons (DE.k (.str (ad "("))) (DL.cons (DE.k (.str (ad "\u000c"))) DL.nil)))) (DL.cons (DE.list (DL.cons (DE.k (.str (ad "("))) (DL.cons (DE.k (.str (ad "d"))) (DL.cons (DE.k (.str (ad "\\\\"))) DL.nil)))) (DL.cons (DE.list
  (DL.cons (DE.k (.str (ad "\\\""))) (DL.cons (DE.k (.str (ad "("))) (DL.cons (DE.k (.str (ad "e"))) DL.nil)))) DL.nil))))) ρ lx=some (.dat (fZ 5),lx):=by
 refine(λh1 h2 h3 h4 h5 h6 h7 h8 h9 h10=>?_) dh.1 dh.2.1 dh.2.2.1 dh.2.2.2.1 dh.2.2.2.2.1 dh.2.2.2.2.2.1 dh.2.2.2.2.2.2.1 dh.2.2.2.2.2.2.2.1 dh.2.2.2.2.2.2.2.2.1 dh.2.2.2.2.2.2.2.2.2
 rw[zr.1,h1,h2,h3,h4,h5,h6,h7,h8,lU.2.2.1]
 rfl
theorem sb{i:Nat}{codes:List Nat}(h:ρ[i]? =some (.dat (.list (codes.map cellsD))))(hz:codes.length<=64):cw [none,none] (DI.val (DE.nm i)) (Tg.nm 1) DT.tt (cF (DE.join (DE.k (.str (ad ""))) (DE.nm 1))) ρ lx=some (codes.map wordD,lx):=by
 refine iT (enc:=cellsD) (l:=codes) (λρ=>∃a,ρ=[.un,a]) (fC (aG h) rfl) rfl ⟨_,rfl⟩ (by exact bo) λc ρ _ ⟨a,hρ⟩=>?_
 subst hρ
 refine⟨[.un,.dat (cellsD c)],rfl,⟨_,rfl⟩,?_⟩
 exact jd (l:=iu c) (aG (d:=cellsD c) rfl) rfl (by have:=(iE c).2.2;show(ce c).length<=_;exact bo)
theorem D8{s:DrS}(hs:script.length<=63)(e:Kc script (4+script.length % 2)=some s)(hz:s.codes.length<=64):
  fDrawn [.dat (.list (script.map .int))] lx=some (.dat (.tuple [cr (4+script.length % 2),.list (s.codes.map cellsD),.list (s.picks.map .int),.str (S s.text)]),lx):=by
 have hn:4+script.length % 2=4\/4+script.length % 2=5:=by exact KN _
 generalize hN:4+script.length % 2=n at *
 have hn5:n<=5:=by exact G6 (hN▸KN _)
 have hsl:(script.map aw).length=script.length:=af _
 have hlen:∀ρ:List LV,ρ[0]? =some (.dat (.list (script.map .int)))->DE.call lenF (DL.cons (DE.nm 0) DL.nil) ρ lx=some (.dat (.int script.length),lx):=λρ h=>hsl▸lH h (by exact J2 [Qe Q0 Q1,Ql Q1 (Qn 63)] Q0 (Qn 4096) 1 [1,1] Qt hsl hs)
 have hcut:tF (fZ 5) none (some (n:Int)) none=some (fZ n):=by
  have:=rm (ds:=(aM 5).map cellsD) (b:=n) (by decide)
  refine this.trans (congrArg (λl=>some (cj l)) ?_)
  rcases hn with rfl|rfl<;>rfl
 have hm:(script.length:Int).fmod 2=((script.length % 2:Nat):Int):=by rw[Int.fmod_eq_emod_of_nonneg _ (by decide)];exact rfl
 have hi:∀ρ:List LV,ρ[0]? =some (.dat (.list (script.map .int)))->DE.bin .Add (DE.k (.int 4)) (DE.bin .Mod (DE.call lenF (DL.cons (DE.nm 0) DL.nil)) (DE.k (.int 2))) ρ lx=some (.dat (.int (n:Int)),lx):=λρ h=>by
  have:=cL (bw (d:=.int 4) (ρ:=ρ) (lx:=lx)) (cL (hlen ρ h) (bw (d:=.int 2)) (md _ 2 rfl)) EB
  rw[hm,show(4:Int)+((script.length % 2:Nat):Int)=(n:Int)by exact congrArg Int.ofNat hN]at this
  exact this
 unfold fDrawn yL
 dsimp only
 refine lN (b:=false) (r:=.bor (.tuple [cr n,.list (s.codes.map cellsD),.list (s.picks.map .int),.str (S s.text)])) rfl ?_
 refine aP (eC HZ rfl) (aP (eC (lL (aG rfl) jz (lY (hi _ rfl)) jz rfl hcut) rfl) (aP rfl (aP rfl (aP (eC bw rfl) (aP (eC bw rfl) ?_)))))
 refine qx (KI (.dat (.list (script.map .int))) (.dat (fZ n))) (s:=⟨0,[],[],[]⟩) (l:=aM (2 * n)) (enc:=λi:Nat=>aw (i:Nat)) (step:=Gg n (oF script n)) ?_ e ?_ ?_ ?_
 ·refine kH (n:=2 * n) ?_ (by exact ah (gJ 2 hn5) (ag rfl))
  exact cL bw (pW rfl hn5) AW
 ·rw[lU.2.1]
  exact .mk ..
 ·intro s x s' ρ h0 hR
  cases hR
  exact⟨_,rfl,Gf hn hs h0⟩
 ·intro ρ hR
  obtain⟨k,x,w,wd,c,d,e⟩:=hR
  refine kF (r:=.bor (.tuple [cr n,.list (s.codes.map cellsD),.list (s.picks.map .int),.str (S s.text)])) ?_ ⟨rfl,rfl⟩
  have hc:=aN (dN (sb (lx:=lx) (i:=1) (codes:=aM n) (ρ:=xt (.dat (.list (script.map .int))) (.dat (fZ n)) (s.codes.map cellsD) s.picks s.text s.op k x w wd c d e) rfl (by rw[bL];exact bo))) (aN (r7 (i:=2) rfl rfl) (aN (r7 (i:=3) rfl rfl) (aN (r7 (i:=4) rfl rfl) bl)))
  unfold DE.tupX DE.tup DE.tupB
  rw[hc]
  rfl
end
noncomputable def sg(l:List Nat):List Str:=l.map λc=>S [c]
theorem jY(a b:Nat):(S [a]==S [b])=(a==b):=by
 by_cases h:a=b
 ·subst h;simp
 ·rw[beq_eq_false_iff_ne.mpr h]
  exact beq_eq_false_iff_ne.mpr λe=>h (c7 (Cu e)).1
noncomputable def EZ(c:Nat):Bool:=c==10||c==9||c==13||c==32
theorem pZ(c:Nat):nE (S [c])=EZ c:=by
 unfold nE EZ
 rw[lU.2.2.2.1,lU.2.2.1,lU.2.2.2.2,dh.1,jY,jY,jY,jY]
theorem rh(c:Nat):jV (S [c])=(c==34):=by
 unfold jV
 rw[oQ,jY]
noncomputable def ig(c:Nat)(l:Int):Int:=if(c==10)=true then l+1 else l
theorem IQ(c:Nat)(l:Int):bump (S [c]) l=ig c l:=by
 unfold bump ig
 rw[lU.2.2.2.1,jY]
inductive vT(stop:Str->Bool)(f:Nat->List Nat)(c:Nat):Prop where
 |one (h:f c=[c]) (hs:stop (S [c])=false) (hb:c≠92) (hn:c≠10)
 |esc (h:f c=[92,c]) (hs:stop (S [92])=false) (hn:c≠10)
section
variable{stop:Str->Bool}{f:Nat->List Nat}{l:Int}{r:List Nat}{acc:Str}
theorem kS{c:Nat}(h:c≠10):ig c l=l:=by
 unfold ig
 rw[if_neg (by simpa using h)]
theorem CC{c:Nat}:(LexSt.mk [] (sg (c::r)) l).rdb=⟨[],sg r,ig c l⟩:=by
 show LexSt.mk [] (sg r) (bump (S [c]) l)=_
 rw[IQ]
theorem oM{k c:Nat}:eK stop (k+1) ⟨[],sg (c::r),l⟩ acc=if stop (S [c])=true then(acc,⟨[],sg r,ig c l⟩)else eK stop k (fu (S [c]) ⟨[],sg r,ig c l⟩).2 (acc++(fu (S [c]) ⟨[],sg r,ig c l⟩).1):=by
 rw[eK]
 show(if(sg (c::r)).isEmpty=true then _ else if stop (S [c])=true then(acc,(LexSt.mk [] (sg (c::r)) l).rdb)else eK stop k (fu (S [c]) (LexSt.mk [] (sg (c::r)) l).rdb).2 (acc++(fu (S [c]) (LexSt.mk [] (sg (c::r)) l).rdb).1))=_
 rw[if_neg (λe=>nomatch e),CC]
theorem uV{k c:Nat}:d7 (k+1) ⟨[],sg (c::r),l⟩=if EZ c=true then d7 k ⟨[],sg r,ig c l⟩else if(c==34)=true then eK jV fuel ⟨[],sg r,ig c l⟩ (S [])else eK nE fuel (fu (S [c]) ⟨[],sg r,ig c l⟩).2 (S []++(fu (S [c]) ⟨[],sg r,ig c l⟩).1):=by
 rw[d7]
 show(if(sg (c::r)).isEmpty=true then _ else if nE (S [c])=true then d7 k (LexSt.mk [] (sg (c::r)) l).rdb else if jV (S [c])=true then eK jV fuel (LexSt.mk [] (sg (c::r)) l).rdb (ad "")else eK nE fuel (fu (S [c]) (LexSt.mk [] (sg (c::r)) l).rdb).2 (ad ""++(fu (S [c]) (LexSt.mk [] (sg (c::r)) l).rdb).1))=_
 rw[if_neg (λe=>nomatch e),CC,pZ,rh,lU.2.1]
theorem tO{k c:Nat}(h:stop (S [c])=true):eK stop (k+1) ⟨[],sg (c::r),l⟩ acc=(acc,⟨[],sg r,ig c l⟩):=by
 rw[oM,if_pos h]
theorem AA{k c:Nat}(h:vT stop f c):eK stop (k+1) ⟨[],sg (f c++r),l⟩ acc=eK stop k ⟨[],sg r,l⟩ (acc++S [c]):=by
 cases h with
 |one e hs hb hn=>
  rw[e]
  show eK stop (k+1) ⟨[],sg (c::r),l⟩ acc=_
  rw[oM,if_neg (by rw[hs];decide),kS hn]
  unfold fu
  rw[xA,jY,if_neg (by simpa using hb)]
 |esc e hs hn=>
  rw[e]
  show eK stop (k+1) ⟨[],sg (92::c::r),l⟩ acc=_
  rw[oM,if_neg (by rw[hs];decide),kS (by decide)]
  unfold fu
  rw[xA,jY,if_pos (by decide),CC,kS hn]
  rfl
theorem rD{w:List Nat}:∀{k:Nat} {acc:List Nat},(∀c∈w,vT stop f c)->eK stop (w.length+k) ⟨[],sg (w.flatMap f++r),l⟩ (S acc)=eK stop k ⟨[],sg r,l⟩ (S (acc++w)):=by
 induction w with
 |nil=>intro k acc _;rw[aO,cM,cE];rfl
 |cons c w ih=>
  intro k acc h
  rw[aX,aR,aT,lg,AA (h c (.head _)),t7,ih λx m=>h x (.tail _ m),aR]
  rfl
end
theorem Bs{c:Nat}(h:c≠10):vT nE bare c:=by
 by_cases hb:hJ [40,41,100,101,12] c=true
 ·refine .one (by unfold bare;rw[if_pos hb]) ?_ ?_ h
  ·rw[pZ]
   have:=List.contains_iff_mem.mp hb
   simp only[Ap,dw,or_false]at this
   rcases this with rfl|rfl|rfl|rfl|rfl<;>rfl
  ·rintro rfl
   exact absurd hb (by decide)
 ·exact .esc (by unfold bare;rw[if_neg hb]) (by rw[pZ];rfl) h
noncomputable def yr(c:Nat):List Nat:=if c==92||c==34 then [92,c]else [c]
theorem CH{c:Nat}(h:c≠10):vT jV yr c:=by
 by_cases hb:(c==92||c==34)=true
 ·exact .esc (by unfold yr;rw[if_pos hb]) (by rw[rh];rfl) h
 ·have hb':=hb
  rw[Bool.or_eq_true,not_or]at hb'
  exact .one (by unfold yr;rw[if_neg hb]) (by rw[rh];exact Bool.eq_false_iff.mpr hb'.2) (λe=>hb'.1 (by rw[e];rfl)) h
theorem Fd{k c:Nat}{r:List Nat}{l:Int}(h:EZ c=true):d7 (k+1) ⟨[],sg (c::r),l⟩=d7 k ⟨[],sg r,ig c l⟩:=by
 rw[uV,if_pos h]
theorem Cr{k:Nat}{r:List Nat}{l:Int}:d7 (k+1) ⟨[],sg (34::r),l⟩=eK jV fuel ⟨[],sg r,l⟩ (S []):=by
 rw[uV,if_neg (by decide),if_pos (by decide),kS (by decide)]
theorem tZ{k c:Nat}{r:List Nat}{l:Int}(h1:EZ c=false)(h2:c≠34):d7 (k+1) ⟨[],sg (c::r),l⟩=eK nE (fuel+1) ⟨[],sg (c::r),l⟩ (S []):=by
 rw[uV,oM,h1,if_neg (by decide),if_neg (by simpa using h2),pZ,h1,if_neg (by decide)]
noncomputable def nl(l:List Nat):Int:=((l.countP λc=>c==10:Nat):Int)
theorem iQ(a b:List Nat):nl (a++b)=nl a+nl b:=by unfold nl;rw[List.countP_append];exact rfl
theorem vN(c:Nat)(l:Int):ig c l=l+nl [c]:=by
 unfold ig nl
 by_cases h:(c==10)=true
 ·have:=eq_of_beq h;subst this;rfl
 ·rw[if_neg h];simp[List.countP_cons,h]
theorem rE:∀c:Nat,(ce c).all (λd=>d != 10)=true/\(ce c).isEmpty=false
 |0=>⟨rfl,rfl⟩
 |1=>⟨rfl,rfl⟩
 |2=>⟨rfl,rfl⟩
 |3=>⟨rfl,rfl⟩
 |4=>⟨rfl,rfl⟩
 |5=>⟨rfl,rfl⟩
 |6=>⟨rfl,rfl⟩
 |7=>⟨rfl,rfl⟩
 |_+8=>⟨rfl,rfl⟩
theorem m3{c d:Nat}(m:d∈ce c):d≠10:=bne_iff_ne.mp (List.all_eq_true.mp (rE c).1 d m)
theorem Bt{c:Nat}(w:List Nat):∃h t,bare c++w=h::t/\EZ h=false/\h≠34:=by
 unfold bare
 by_cases hb:hJ [40,41,100,101,12] c=true
 ·rw[if_pos hb]
  have:=List.contains_iff_mem.mp hb
  simp only[Ap,dw,or_false]at this
  refine⟨c,w,rfl,?_,?_⟩<;>rcases this with rfl|rfl|rfl|rfl|rfl<;>decide
 ·rw[if_neg hb]
  exact⟨92,c::w,rfl,by decide,by decide⟩
theorem HC(q:Nat):∃s,AN q=[s]/\EZ s=true:=by
 match q with
 |0=>exact⟨32,rfl,rfl⟩
 |1=>exact⟨9,rfl,rfl⟩
 |2=>exact⟨10,rfl,rfl⟩
 |_+3=>exact⟨13,rfl,rfl⟩
def tK(p:List Nat):Prop:=p=[]\/∃s,p=[s]/\EZ s=true
theorem AL(q:Nat):tK (pM q):=by
 match q with
 |0=>exact .inl rfl
 |1=>exact .inr ⟨9,rfl,rfl⟩
 |2=>exact .inr ⟨10,rfl,rfl⟩
 |_+3=>exact .inr ⟨13,rfl,rfl⟩
theorem AI{p r:List Nat}{k:Nat}{l:Int}(h:tK p):∃k',k<=k'+1/\k'<=k/\d7 k ⟨[],sg (p++r),l⟩=d7 k' ⟨[],sg r,l+nl p⟩\/k=0:=by
 cases k with
 |zero=>exact⟨0,.inr rfl⟩
 |succ k=>
  rcases h with rfl|⟨s,rfl,hs⟩
  ·exact⟨k+1,.inl ⟨by exact aF _ _,by exact ai _,by rw[show l+nl []=l from Int.add_zero l];rfl⟩⟩
  ·refine⟨k,.inl ⟨by exact ai _,by exact aF _ _,?_⟩⟩
   show d7 (k+1) ⟨[],sg (s::r),l⟩=_
   rw[Fd hs,vN]
theorem rQ{p r:List Nat}{k:Nat}{l:Int}(h:tK p):∃k',d7 (k+2) ⟨[],sg (p++r),l⟩=d7 (k'+1) ⟨[],sg r,l+nl p⟩:=by
 obtain⟨k',h|h⟩:=AI (r:=r) (k:=k+2) (l:=l) h
 ·refine oG h λh1 h2 h3=>?_
  exact⟨k' - 1,by rw[h3,show k' - 1+1=k' by exact k7 (ah (dK 1 _) (Nat.le_of_succ_le_succ h1))]⟩
 ·exact absurd h (by exact nofun)
noncomputable def lO(st:Bool)(q:Nat):List Nat:=if st=true then []else pM q
theorem Cb{st:Bool}{q c:Nat}{p r:List Nat}{l:Int}(hp:tK p):(LexSt.mk [] (sg (p++(je st q c++r))) l).tok=(eE c,⟨[],sg (lO st q++r),l+nl (p++je st q c) - nl (lO st q)⟩):=by
 refine nG λkG=>?_;obtain⟨m,hm⟩:∃m,fuel=m+12:=⟨fuel - 12,by have:=m8;exact rfl⟩
 have hw:=(iE c).2.2
 have e1:(LexSt.mk [] (sg (p++(je st q c++r))) l).tok=d7 (m+10+2) ⟨[],sg (p++(je st q c++r)),l⟩:=by
  unfold LexSt.tok
  rw[if_pos (by rfl),hm]
 refine cU (rQ (k:=m+10) (r:=je st q c++r) (l:=l) hp) λk e2=>?_
 refine kG ?_
 rw[e1,e2,iQ]
 cases st with
 |true=>
  refine a7 (HC q) λs hs hws=>?_
  have he:je true q c=tD (ce c)++[s]:=by unfold je;rw[if_pos rfl,hs]
  have hne:=(rE c).2
  cases hwc:ce c with
  |nil=>rw[hwc]at hne;exact nomatch hne
  |cons d w=>
   have hh:∃h t,tD (ce c)++([s]++r)=h::t/\EZ h=false/\h≠34:=by
    rw[hwc,tD,aX,aR]
    exact Bt _
   refine xP hh λh t eh h1 h2=>?_
   rw[he,aR,eh,tZ h1 h2,<-eh,show fuel+1=(ce c).length+(fuel - (ce c).length+1)by exact congrArg nz (mo (J3 [Ql Q0 (Qn 8),Qe Q1 (Qs Q2 12)] Q0 Q1 1 [1,.negSucc 0] Qt hw hm)).symm]
   rw[show tD (ce c)=(ce c).flatMap bare from rfl,rD (k:=fuel - (ce c).length+1) (acc:=[]) λd m=>Bs (m3 m)]
   have hst:=tO (stop:=nE) (r:=r) (l:=l+nl p) (acc:=S ([]++ce c)) (k:=fuel - (ce c).length) (c:=s) (by rw[pZ];exact hws)
   refine hst.trans (congrArg (λz=>(eE c,LexSt.mk [] (sg r) z)) ?_)
   have hn:nl ((ce c).flatMap bare)=0:=by
    have:∀w:List Nat,(∀d∈w,d≠10)->nl (w.flatMap bare)=0:=by
     intro w
     induction w with
     |nil=>intro _;rfl
     |cons d w ih=>
      intro h
      rw[aX,iQ,ih λx m=>h x (.tail _ m)]
      have hd:=h d (.head _)
      unfold bare nl
      split<;>simp[hd]
    exact this _ λd m=>m3 m
   rw[iQ,hn,vN]
   show _=_ - nl []
   show _=_ - (0:Int)
   rw[kA,Int.sub_zero,jF]
 |false=>
  have he:je false q c=[34]++(ET (ce c)++([34]++pM q)):=by unfold je;rw[if_neg (by decide)];rfl
  rw[he,aR,aR,aR]
  show d7 (k+1) ⟨[],sg (34::(ET (ce c)++([34]++(pM q++r)))),l+nl p⟩=_
  rw[Cr,show fuel=(ce c).length+(fuel - (ce c).length - 1+1)by exact((congrArg (_+ ·) (k7 (pA (J3 [Ql Q0 (Qn 8),Qe Q1 (Qs Q2 12)] (Qa (Qn 1) Q0) Q1 1 [1,.negSucc 0] Qt hw hm)))).trans (mo (J3 [Ql Q0 (Qn 8),Qe Q1 (Qs Q2 12)] Q0 Q1 1 [1,.negSucc 0] Qt hw hm))).symm]
  rw[show ET (ce c)=(ce c).flatMap yr from rfl,rD (k:=fuel - (ce c).length - 1+1) (acc:=[]) λd m=>CH (m3 m)]
  have hst:=tO (stop:=jV) (r:=pM q++r) (l:=l+nl p) (acc:=S ([]++ce c)) (k:=fuel - (ce c).length - 1) (c:=34) (by rw[rh];rfl)
  refine hst.trans (congrArg (λz=>(eE c,LexSt.mk [] (sg (pM q++r)) z)) ?_)
  have hn:nl ((ce c).flatMap yr)=0:=by
   have:∀w:List Nat,(∀d∈w,d≠10)->nl (w.flatMap yr)=0:=by
    intro w
    induction w with
    |nil=>intro _;rfl
    |cons d w ih=>
     intro h
     rw[aX,iQ,ih λx m=>h x (.tail _ m)]
     have hd:=h d (.head _)
     unfold yr nl
     split<;>simp[hd]
   exact this _ λd m=>m3 m
  rw[iQ,iQ,iQ,hn,kS (by decide)]
  rw[show nl [34]=0 from rfl,show lO false q=pM q from rfl]
  rw[kA,kA,kA,<-jF,Int.add_sub_cancel]
theorem Jv{p:List Nat}{l:Int}(hp:tK p):(LexSt.mk [] (sg (p++[122])) l).tok=(S [122],⟨[],[],l+nl p⟩):=by
 refine nG λkG=>?_;obtain⟨m,hm⟩:∃m,fuel=m+12:=⟨fuel - 12,by have:=m8;exact rfl⟩
 have e1:(LexSt.mk [] (sg (p++[122])) l).tok=d7 (m+10+2) ⟨[],sg (p++[122]),l⟩:=by
  unfold LexSt.tok
  rw[if_pos (by rfl),hm]
 refine cU (rQ (k:=m+10) (r:=[122]) (l:=l) hp) λk e2=>?_
 refine kG ?_
 rw[e1,e2,tZ (by decide) (by decide),oM,if_neg (by rw[pZ];decide),kS (by decide),hm]
 unfold fu
 rw[xA,jY,if_neg (by decide),t7]
 rfl
theorem E4{l:Int}:(LexSt.mk [] [] l).tok=(S [],⟨[],[],l⟩):=by
 refine nG λkG=>?_;obtain⟨m,hm⟩:∃m,fuel=m+12:=⟨fuel - 12,by have:=m8;exact rfl⟩
 refine kG ?_
 unfold LexSt.tok
 rw[if_pos (by rfl),hm,d7]
 show(if true=true then(ad "",_)else _)=_
 rw[if_pos rfl,lU.2.1]
noncomputable def alphaN:List Nat:=[40,41,92,34,32,9,10,13,12,100,101,122]
theorem GK:alpha=alphaN.map λc=>S [c]:=by decide+kernel
structure Ae(l:List Nat):Prop where
 len:l.length<=4096
 mem:∀c∈l,c∈alphaN
theorem Ae.okR{l:List Nat}(h:Ae l){ps:List Str}{k:Int}:(LexSt.mk ps (sg l) k).okR=true:=CS (by show(l.map _).length<=_;rw[af];exact h.len) λc m=>by
 obtain⟨d,md,rfl⟩:=List.mem_map.mp m
 rw[GK]
 exact List.mem_map.mpr ⟨d,h.mem d md,rfl⟩
theorem Ae.suf{a b:List Nat}(h:Ae (a++b)):Ae b:=⟨ah (by rw[au];exact dK _ _) h.len,λc m=>h.mem c (cT _ m)⟩
abbrev It:=Bool × Nat × Nat
noncomputable def D4(i:It):List Nat:=je i.1 i.2.1 i.2.2
noncomputable def f7(is:List It):List Nat:=is.flatMap D4
theorem mW:∀c:Nat,(ce c).all (λd=>alphaN.contains d)=true
 |0=>rfl
 |1=>rfl
 |2=>rfl
 |3=>rfl
 |4=>rfl
 |5=>rfl
 |6=>rfl
 |7=>rfl
 |_+8=>rfl
theorem t5(q:Nat):(∀c∈AN q,c∈alphaN)/\∀c∈pM q,c∈alphaN:=by
 match q with
 |0=>exact⟨by decide,by decide⟩
 |1=>exact⟨by decide,by decide⟩
 |2=>exact⟨by decide,by decide⟩
 |_+3=>exact⟨λc m=>(show ∀c∈[13],c∈alphaN by decide) c m,λc m=>(show ∀c∈[13],c∈alphaN by decide) c m⟩
theorem Be(i:It):∀c∈D4 i,c∈alphaN:=by
 obtain⟨st,q,w⟩:=i
 have hw:∀d∈ce w,d∈alphaN:=λd m=>List.contains_iff_mem.mp (List.all_eq_true.mp (mW w) d m)
 have two:∀{x y c:Nat},c∈[x,y]->x∈alphaN->y∈alphaN->c∈alphaN:=λm hx hy=>by
  cases m with
  |head=>exact hx
  |tail _ m=>cases m with
   |head=>exact hy
   |tail _ m=>exact nomatch m
 intro c m
 unfold D4 je at m
 dsimp only at m
 cases st with
 |true=>
  rw[if_pos rfl]at m
  rcases List.mem_append.mp m with m|m
  ·obtain⟨d,md,mc⟩:=List.mem_flatMap.mp m
   unfold bare at mc
   by_cases hb:hJ [40,41,100,101,12] d=true
   ·rw[if_pos hb]at mc
    exact List.mem_singleton.mp mc▸hw d md
   ·rw[if_neg hb]at mc
    exact two mc (by decide) (hw d md)
  ·exact(t5 q).1 c m
 |false=>
  rw[if_neg (by decide)]at m
  rcases List.mem_cons.mp m with rfl|m
  ·decide
  rcases List.mem_append.mp m with m|m
  ·obtain⟨d,md,mc⟩:=List.mem_flatMap.mp m
   by_cases hb:(d==92||d==34)=true
   ·rw[if_pos hb]at mc
    exact two mc (by decide) (hw d md)
   ·rw[if_neg hb]at mc
    exact List.mem_singleton.mp mc▸hw d md
  rcases List.mem_cons.mp m with rfl|m
  ·decide
  ·exact(t5 q).2 c m
theorem o8:∀is:List It,(f7 is).length<=19 * is.length
 |[]=>ai _
 |i::is=>by
  have h1:=o8 is
  have h2:=D3 i.1 i.2.1 i.2.2
  unfold f7 at *
  rw[aX,au,aT]
  unfold D4 at *
  exact J3 [Ql Q1 (Qm 19 Q2),Ql Q0 (Qn 19)] (Qa Q0 Q1) (Qm 19 (Qs Q2 1)) 1 [1,1] Qt h1 h2
theorem E6{is:List It}(h:is.length<=64):Ae ([]++(f7 is++[122])):=by
 have:=o8 is
 refine⟨by rw[bK,au];show _+1<=_;exact J2 [Ql Q0 (Qm 19 Q1),Ql Q1 (Qn 64)] (Qs Q0 1) (Qn 4096) 1 [1,19] Qt this h,λc m=>?_⟩
 rcases List.mem_append.mp (show c∈f7 is++[122]from m)with m|m
 ·refine a7 (List.mem_flatMap.mp m) λi _ mi=>?_
  exact Be i c mi
 ·exact List.mem_singleton.mp m▸(by decide)
theorem yc{i:Nat}{ρ:List LV}{A:cH}{t:LexSt}{x:Str}{t':LexSt}(hi:ρ[i]? =some .lex)(hf:t.fits=true)(h:t.tok=(x,t')):DE.tok i ρ (some (A,t))=some (.dat (.str x),some (A,t')):=by
 unfold DE.tok eM
 rw[hi]
 show(if t.fits=true then some (Va.dat (.str t.tok.1),some (A,t.tok.2))else none)=_
 rw[if_pos hf,h]
theorem Ae.fits{l:List Nat}(h:Ae l){k:Int}:(LexSt.mk [] (sg l) k).fits=true:=vE h.okR (bH _)
theorem tS{A:cH}:∀(is:List It) (ds out:List D) (u:LV) (p:List Nat) (l:Int),ds.length=is.length->tK p->Ae (p++(f7 is++[122]))->out.length+is.length<=4096->
  ∃u' p' l',tK p'/\Ae (p'++[122])/\l'+nl p'=l+nl (p++f7 is)/\lW true (Tg.nm 1) DT.tt (cF (DE.tok 2)) ds out [.un,u,.lex] (some (A,⟨[],sg (p++(f7 is++[122])),l⟩))=some (out++is.map λi=>wordD i.2.2,[.un,u',.lex],some (A,⟨[],sg (p'++[122]),l'⟩))
 |[],ds,out,u,p,l,hd,hp,ho,hz=>by
  obtain rfl:=List.length_eq_zero_iff.mp hd
  refine⟨u,p,l,hp,ho,?_,?_⟩
  ·show _=l+nl (p++[]);rw[aO]
  ·rw[BN,aO];rfl
 |i::is,[],out,u,p,l,hd,_,_,_=>nomatch hd
 |i::is,d::ds,out,u,p,l,hd,hp,ho,hz=>by
  obtain⟨st,q,c⟩:=i
  have h4:(4096:Nat)<=sizeLine:=by decide
  have ea:f7 ((st,q,c)::is)++[122]=je st q c++(f7 is++[122]):=by unfold f7;rw[aX,aR];rfl
  have ht:=Cb (st:=st) (q:=q) (c:=c) (p:=p) (r:=f7 is++[122]) (l:=l) hp
  have hb:tK (lO st q):=by
   cases st with
   |true=>exact .inl rfl
   |false=>exact AL q
  rw[ea]at ho
  rw[aT]at hz
  have hd:ds.length=is.length:=s8 hd
  have hob:Ae (lO st q++(f7 is++[122])):=by
   have h2:=ho.suf
   cases st with
   |true=>exact h2.suf
   |false=>
    have e3:je false q c++(f7 is++[122])=(34::(ET (ce c)++[34]))++(pM q++(f7 is++[122])):=by unfold je;rw[if_neg (by decide)];simp
    rw[e3]at h2
    exact h2.suf
  refine nG λkG=>?_;obtain⟨u',p',l',hX⟩:=tS is ds (out++[wordD c]) (.dat d) (lO st q) (l+nl (p++je st q c) - nl (lO st q)) (by assumption) hb hob (by rw[au];show _+1+_<=_;exact J2 [Ql (Qa Q0 (Qs Q1 1)) (Qn 4096)] (Qa (Qs Q0 1) Q1) (Qn 4096) 1 [1] Qt hz);refine kG ?_;refine(λa1 a2 a3 a4=>?_) hX.1 hX.2.1 hX.2.2.1 hX.2.2.2
  refine⟨u',p',l',a1,a2,?_,?_⟩
  ·rw[a3]
   have:f7 ((st,q,c)::is)=je st q c++f7 is:=by unfold f7;rw[aX];rfl
   rw[this,iQ,iQ,iQ,iQ]
   rw[<-jF (_ - _),Int.sub_add_cancel,jF,jF]
  ·rw[ea]
   have he:cF (DE.tok 2) out [.un,.dat d,.lex] (some (A,⟨[],sg (p++(je st q c++(f7 is++[122]))),l⟩))=some (out++[wordD c],[.un,.dat d,.lex],some (A,⟨[],sg (lO st q++(f7 is++[122])),l+nl (p++je st q c) - nl (lO st q)⟩)):=by
    unfold cF
    rw[yc (x:=eE c) rfl ho.fits ht]
    show(if decide (out.length<=sizeLine)=true then _ else _)=_
    rw[if_pos (decide_eq_true (by exact J3 [Ql (Qn 4096) Q1,Ql (Qa Q0 (Qs Q2 1)) (Qn 4096)] Q0 Q1 1 [1,1] Qt h4 hz))]
    rfl
   show(cF (DE.tok 2) out [.un,.dat d,.lex] (some (A,⟨[],sg (p++(je st q c++(f7 is++[122]))),l⟩))).bind _=_
   rw[he,ac,bX]
   rw[aR]at a4
   exact a4
noncomputable def mV(c:Nat):Nat:=if dl c 5=true then c else 5
abbrev Tr:=Nat × List Nat × List Nat
noncomputable def rf:Nat->List Int
 |0=>[]
 |w+1=>rf w++[(w:Int)]
noncomputable def GW(n k:Nat)(s:Tr):List Tr:=
 (if dl s.1 n=true then [(s.1+1,s.2.1++[s.1],s.2.2)]else [])++(if BL (2 * s.1 - k) 0=true then []else [(s.1,s.2.1++[5],(2 * s.1 - k)::s.2.2)])
noncomputable def w8(n:Nat):Nat->List Tr
 |0=>[(0,[],[])]
 |k+1=>(w8 n k).flatMap (GW n k)
noncomputable def E1:List Nat->List (List Int)
 |[]=>[[]]
 |w::ws=>(E1 ws).flatMap λv=>(rf w).map λp=>v++[p]
noncomputable def mR:List Int->List Int->Bool
 |[],[]=>true
 |x::a,y::b=>wa x y&&mR a b
 |_,_=>false
noncomputable def lD:List (Int × Int)->List (Int × Int)->Bool
 |[],[]=>true
 |x::a,y::b=>wa x.1 y.1&&(wa x.2 y.2&&lD a b)
 |_,_=>false
noncomputable def qQ(l:List (Int × Int)):List Int:=(gN (l.map λa=>a.2 - a.1)).reverse
noncomputable def rJ:List Int->List Int->List Int->Int->Int->Int->Bool
 |x::a,y::b,z::c,p,q,r=>!m7 (q+y) (p+x)&&(!m7 (r+z) (q+y)&&rJ a b c (p+x) (q+y) (r+z))
 |[],[],[],_,_,_=>true
 |_,_,_,_,_,_=>false
noncomputable def kb(l:List (Int × Int)):Int × Int:=(((eG r9 l:Nat):Int),((eG vI l:Nat):Int))
noncomputable def G3(a b:Int × Int):Bool:=wa a.1 b.1&&wa a.2 b.2
noncomputable def Jl(a b:Int):Int:=if m7 a b=true then b else a
noncomputable def GX(acc:List (Int × Int))(x:Int):List (Int × Int):=acc++[(x,1+((acc.filter λp=>m7 p.1 x).map (·.2)).foldl Jl 0)]
noncomputable def oX(l:List Int):Int:=((l.foldl GX []).map (·.2)).foldl Jl 0
theorem H1:Jl=λa b=>if a < b then b else a:=by
 funext a b
 unfold Jl
 rw[ft]
 by_cases h:a < b
 ·rw[decide_eq_true h,if_pos rfl,if_pos h]
 ·rw[decide_eq_false h,if_neg (by decide),if_neg h]
theorem uf(l:List Int):l.foldl Jl 0=oW (0::l):=by rw[H1];rfl
theorem Ax{l sz:List Int}:∀{k:Nat},k<=l.length->sz.length=k->(aM k).map (λj=>(l.getD j 0,sz.getD j 0))=(l.take k).zip sz:=by
 intro k hk hs
 refine List.ext_getElem? λi=>?_
 by_cases hi:i < k
 ·rw[pO hi,List.getElem?_zip_eq_some.mpr ⟨?_,?_⟩]
  ·rw[Aq hi,aD (by exact ah hi hk),bA,aD (by exact ah hi hk)];rfl
  ·show _=some (sz.getD i 0)
   rw[bA,aD (by exact J3 [Ql (Qs Q0 1) Q2,Qe Q1 Q2] (Qs Q0 1) Q1 1 [1,.negSucc 0] Qt hi hs)];rfl
 ·rw[oJ (by rw[af,bL];exact Nat.not_lt.mp ‹_›),oJ (by rw[List.length_zip,nB];exact ah (Nat.min_le_left _ _) (ah (Nat.min_le_left _ _) (Nat.not_lt.mp hi)))]
theorem HW{l sz:List Int}{k:Nat}(hk:k < l.length)(hs:sz.length=k):iG l sz k=1+((((l.take k).zip sz).filter λp=>m7 p.1 (l.getD k 0)).map (·.2)).foldl Jl 0:=by
 rw[uf,<-Ax (bf hk) hs,List.filter_map,bO]
 unfold iG
 refine congrArg (λm=>1+oW (0::m)) (congrArg (xZ _) (congrArg (λp=>List.filter p (aM k)) (funext λj=>?_)))
 exact(ft _ _).symm
theorem Ff{l:List Int}:∀{k:Nat},k<=l.length->(l.take k).foldl GX []=(l.take k).zip ((aM k).foldl (λsz k=>sz++[iG l sz k]) [])/\((aM k).foldl (λsz k=>sz++[iG l sz k]) []).length=k:=by
 intro k
 induction k with
 |zero=>intro _;exact⟨rfl,rfl⟩
 |succ k ih=>
  intro hk
  refine(λh1 h2=>?_) (ih (bD hk)).1 (ih (bD hk)).2
  have hkl:k < l.length:=hk
  have ht:l.take (k+1)=l.take k++[l.getD k 0]:=by rw[List.take_add_one,aD hkl,bA,aD hkl];rfl
  rw[ht,List.foldl_append,h1,wj,List.foldl_append]
  generalize(aM k).foldl (λsz k=>sz++[iG l sz k]) []=sz at *
  refine⟨?_,by show(sz++[_]).length=_;rw[au,h2];rfl⟩
  show(l.take k).zip sz++[(l.getD k 0,_)]=(l.take k++[l.getD k 0]).zip (sz++[iG l sz k])
  rw[List.zip_append (by rw[nB,h2];exact fq (bD hk)),<-HW hkl h2]
  rfl
theorem C8(l:List Int):oX l=oW (0::jm l):=by
 refine en (Ff (l:=l) (ai l.length)) λh1 h2=>?_
 rw[uQ]at h1
 unfold oX
 rw[uf,h1]
 refine congrArg (λm=>oW (0::m)) ?_
 show xZ Prod.snd _=_
 rw[List.map_snd_zip (aJ h2)]
 rfl
noncomputable def KO(n:Nat)(k:Nat->Bool):Bool:=match n with
 |0=>k 0
 |1=>k 1
 |2=>k 2
 |3=>k 3
 |4=>k 4
 |5=>k 5
 |6=>k 6
 |7=>k 7
 |8=>k 8
 |9=>k 9
 |n=>k n
noncomputable def Im(x:Int)(k:Int->Bool):Bool:=match x with
 |.ofNat n=>KO n λm=>k (.ofNat m)
 |.negSucc n=>KO n λm=>k (.negSucc m)
noncomputable def Hh:List Int->(List Int->Bool)->Bool
 |[],k=>k []
 |x::l,k=>Im x λy=>Hh l λm=>k (y::m)
noncomputable def F6:List (Int × Int)->(List (Int × Int)->Bool)->Bool
 |[],k=>k []
 |x::l,k=>Im x.1 λy=>Im x.2 λz=>F6 l λm=>k ((y,z)::m)
noncomputable def F5:List (List Int)->(List (List Int)->Bool)->Bool
 |[],k=>k []
 |x::l,k=>Hh x λy=>F5 l λm=>k (y::m)
theorem DQ(n:Nat)(k:Nat->Bool):KO n k=k n:=by
 unfold KO
 split<;>rfl
theorem qb(x:Int)(k:Int->Bool):Im x k=k x:=by
 cases x with
 |ofNat n=>exact DQ n λm=>k (.ofNat m)
 |negSucc n=>exact DQ n λm=>k (.negSucc m)
theorem qa:∀(l:List Int) (k:List Int->Bool),Hh l k=k l
 |[],_=>rfl
 |x::l,k=>by rw[Hh,qb,qa l]
theorem om:∀(l:List (Int × Int)) (k:List (Int × Int)->Bool),F6 l k=k l
 |[],_=>rfl
 |x::l,k=>by rw[F6,qb,qb,om l]
theorem zJ:∀(l:List (List Int)) (k:List (List Int)->Bool),F5 l k=k l
 |[],_=>rfl
 |x::l,k=>by rw[F5,qa,zJ l]
noncomputable def GT(ov:List (List Int)):List (Int × Int):=ov.map λr=>((r.length:Int),if m7 r.length 1=true then(r.length:Int)else 1)
noncomputable def Hl(ov:List (List Int)):List (Int × Int):=ov.map λr=>(if m7 r.length 1=true then(r.length:Int)else 1,(r.length:Int))
noncomputable def G9(ov:List (List Int)):List (Int × Int):=ov.map λr=>(oX (r.map λx=> -x),oX r)
noncomputable def pR{α:Type}(a:Option α)(f:α->Bool):Bool:=match a with
 |some x=>f x
 |none=>false
noncomputable def DP(n:Nat)(pat:List Nat)(x:Int)(ds as:List Int)(gl gn:List Int)(tn tl:List (Int × Int))(picks:List Int):Bool:=
 pR (qS n false picks pat) λfree=>pR (qS n true picks pat) λback=>F6 free λfree=>F6 back λback=>
  (bT free.length 5&&bT back.length 5)&&(mR ds (free.map (·.2))&&(mR as (gN (free.map (·.1)))&&(rJ gl (qQ free) gn 0 0 0&&
  ((pR (lV free) λc2=>pR (lV back) λc3=>Im c2.1 λa=>Im c2.2 λb=>wa (a+b) x&&(G3 c3 (b,a)&&(G3 (a,b) (kb free)&&G3 c3 (kb back))))&&
  (pR (ud free) λov=>pR (ye free) λtf=>F5 ov λov=>lD tf (G9 ov)&&(lD tn (GT ov)&&lD tl (Hl ov)))))))
noncomputable def iF(n:Nat)(t:Tr):Bool:=
 pR (wX n t.2.1) λnest=>pR (wZ n t.2.1) λline=>F6 nest λnest=>F6 line λline=>pR (lV nest) λc0=>pR (lV line) λc1=>pR (ye nest) λtn=>pR (ye line) λtl=>
  Im c0.1 λx=>Hh (nest.map (·.2)) λds=>Hh (gN (nest.map (·.1))) λas=>Hh (qQ line) λgl=>Hh (qQ nest) λgn=>F6 tn λtn=>F6 tl λtl=>
   (bT nest.length 5&&bT line.length 5)&&(mR (line.map (·.2)) ds&&(mR (gN (line.map (·.1))) as&&(G3 c0 (x,0)&&(G3 c1 (0,x)&&(G3 (x,0) (kb nest)&&(G3 (0,x) (kb line)&&(E1 t.2.2).all (DP n t.2.1 x ds as gl gn tn tl)))))))
theorem qe{a b:Int}(h:wa a b=true):a=b:=eq_of_beq ((zQ a b).symm.trans h)
theorem kM:∀{a b:List Int},mR a b=true->a=b
 |[],[],_=>rfl
 |[],_::_,h=>by cases h
 |_::_,[],h=>by cases h
 |x::a,y::b,h=>by
  refine(λh1 h2=>?_) (Bool.and_eq_true_iff.mp (show(wa x y&&mR a b)=true from h)).1 (Bool.and_eq_true_iff.mp (show(wa x y&&mR a b)=true from h)).2
  rw[qe h1,kM h2]
theorem mI{a b:Int × Int}(h:G3 a b=true):a=b:=by
 refine en (Bool.and_eq_true_iff.mp h) λh1 h2=>?_
 exact Prod.ext (qe h1) (qe h2)
theorem lC:∀{a b:List (Int × Int)},lD a b=true->a=b
 |[],[],_=>rfl
 |[],_::_,h=>by cases h
 |_::_,[],h=>by cases h
 |x::a,y::b,h=>by
  refine(λh1 h2=>?_) (Bool.and_eq_true_iff.mp (show(wa x.1 y.1&&(wa x.2 y.2&&lD a b))=true from h)).1 (Bool.and_eq_true_iff.mp (show(wa x.1 y.1&&(wa x.2 y.2&&lD a b))=true from h)).2
  refine(λh2 h3=>?_) (Bool.and_eq_true_iff.mp h2).1 (Bool.and_eq_true_iff.mp h2).2
  rw[show x=y from Prod.ext (qe h1) (qe h2),lC h3]
theorem not_lt{a b:Int}(h:(!m7 a b)=true):b<=a:=by
 rw[ft]at h
 have:=of_decide_eq_false (Bool.not_eq_true' _▸h)
 exact Int.not_lt.mp ‹_›
theorem tU:∀{a b c:List Int} {p q r:Int},rJ a b c p q r=true->p<=q->q<=r->∀k,p+(a.take k).sum<=q+(b.take k).sum/\q+(b.take k).sum<=r+(c.take k).sum
 |a,b,c,p,q,r,h,hp,hq,0=>by simp only[List.take_zero,List.sum_nil];exact⟨jP hp 0,jP hq 0⟩
 |[],[],[],p,q,r,h,hp,hq,k+1=>by simp only[q8,List.sum_nil];exact⟨jP hp 0,jP hq 0⟩
 |x::a,y::b,z::c,p,q,r,h,hp,hq,k+1=>by
  refine(λh1 h2=>?_) (Bool.and_eq_true_iff.mp (show(!m7 (q+y) (p+x)&&(!m7 (r+z) (q+y)&&rJ a b c (p+x) (q+y) (r+z)))=true from h)).1 (Bool.and_eq_true_iff.mp (show(!m7 (q+y) (p+x)&&(!m7 (r+z) (q+y)&&rJ a b c (p+x) (q+y) (r+z)))=true from h)).2
  refine(λh2 h3=>?_) (Bool.and_eq_true_iff.mp h2).1 (Bool.and_eq_true_iff.mp h2).2
  have:=tU h3 (not_lt h1) (not_lt h2) k
  simp only[List.take_succ_cons,Ao]
  simp only[<-jF];exact this
 |[],_::_,_,_,_,_,h,_,_,_+1=>by cases h
 |[],[],_::_,_,_,_,h,_,_,_+1=>by cases h
 |_::_,[],_,_,_,_,h,_,_,_+1=>by cases h
 |_::_,_::_,[],_,_,_,h,_,_,_+1=>by cases h
structure lS(nest line free back:List (Int × Int)):Prop where
 ln:nest.length<=5
 ll:line.length<=5
 lf:free.length<=5
 lb:back.length<=5
 d1:nest.map (·.2)=free.map (·.2)
 d2:line.map (·.2)=free.map (·.2)
 a1:gN (nest.map (·.1))=gN (free.map (·.1))
 a2:gN (line.map (·.1))=gN (free.map (·.1))
 sums:∀k,((qQ line).take k).sum<=((qQ free).take k).sum/\((qQ free).take k).sum<=((qQ nest).take k).sum
 cnt:∃a b,lV nest=some (a+b,0)/\lV line=some (0,a+b)/\lV free=some (a,b)/\lV back=some (b,a)/\kb nest=(a+b,0)/\kb line=(0,a+b)/\kb free=(a,b)/\kb back=(b,a)
 tabs:∃ov,ud free=some ov/\ye free=some (G9 ov)/\ye nest=some (GT ov)/\ye line=some (Hl ov)
theorem kf{a b:Bool}(h:(a&&b)=true):a=true/\b=true:=Bool.and_eq_true_iff.mp h
theorem lT{α:Type}{a:Option α}{f:α->Bool}(h:pR a f=true):∃x,a=some x/\f x=true:=by
 cases a with
 |none=>exact by cases h
 |some x=>exact⟨x,rfl,h⟩
theorem HU{n:Nat}{t:Tr}{picks:List Int}(h:iF n t=true)(m:picks∈E1 t.2.2):
  ∃nest line free back,wX n t.2.1=some nest/\wZ n t.2.1=some line/\qS n false picks t.2.1=some free/\qS n true picks t.2.1=some back/\lS nest line free back:=by
 unfold iF at h
 refine a7 (lT h) λnest e1 h=>?_
 refine a7 (lT h) λline e2 h=>?_
 rw[om,om]at h
 refine a7 (lT h) λc0 p0 h=>?_
 refine a7 (lT h) λc1 p1 h=>?_
 refine a7 (lT h) λtn q0 h=>?_
 refine a7 (lT h) λtl q1 h=>?_
 rw[qb,qa,qa,qa,qa,om,om]at h
 refine en (kf h) λhl h=>?_
 refine en (kf hl) λl1 l2=>?_
 refine en (kf h) λb1 h=>?_
 refine en (kf h) λb2 h=>?_
 refine en (kf h) λb3 h=>?_
 refine en (kf h) λb4 h=>?_
 refine en (kf h) λb5 h=>?_
 refine en (kf h) λb6 h=>?_
 have hf:=List.all_eq_true.mp h picks m
 unfold DP at hf
 refine a7 (lT hf) λfree e3 hf=>?_
 refine a7 (lT hf) λback e4 hf=>?_
 rw[om,om]at hf
 refine en (kf hf) λhl hf=>?_
 refine en (kf hl) λl3 l4=>?_
 refine en (kf hf) λf1 hf=>?_
 refine en (kf hf) λf2 hf=>?_
 refine en (kf hf) λf3 hf=>?_
 refine en (kf hf) λf4 f5=>?_
 refine a7 (lT f4) λc2 p2 f4=>?_
 refine nG λkG=>?_;obtain⟨c3,p3,f4⟩:=lT f4
 rw[qb,qb]at f4
 refine en (kf f4) λg1 f4=>?_
 refine en (kf f4) λg2 f4=>?_
 refine en (kf f4) λg3 g4=>?_
 refine a7 (lT f5) λov o1 f5=>?_
 obtain⟨tf,o2,f5⟩:=lT f5
 rw[zJ]at f5
 obtain⟨t1,f5⟩:=kf f5
 obtain⟨t2,t3⟩:=kf f5
 refine kG ?_
 have hx:=qe g1
 have d1:=kM f1
 have a1:=kM f2
 refine⟨nest,line,free,back,e1,e2,e3,e4,ag l1,ag l2,ag l3,ag l4,d1,(kM b1).trans d1,a1,(kM b2).trans a1,λk=>?_,
  ⟨c2.1,c2.2,?_,?_,p2,?_,?_,?_,?_,?_⟩,ov,o1,?_,?_,?_⟩
 ·have:=tU f3 (pE 0) (pE 0) k
  simp only[kA]at this;exact this
 ·rw[p0,mI b3,hx]
 ·rw[p1,mI b4,hx]
 ·rw[p3,mI g2]
 ·rw[<-mI b5,hx]
 ·rw[<-mI b6,hx]
 ·rw[<-mI g3]
 ·rw[<-mI g4,mI g2]
 ·rw[o2,lC t1]
 ·rw[q0,lC t2]
 ·rw[q1,lC t3]
theorem Dv{α:Type}{L:List α}{t:α}{i m j:Nat}(h:L[j]? =some t)(h1:i<=j)(h2:j < i+m):t∈(L.drop i).take m:=by
 refine aU (i:=j - i) ?_
 rw[Aq (by exact Nat.sub_lt_left_of_lt_add h1 h2),fc,show i+(j - i)=j by exact mo h1,h]
theorem IL:(((w8 4 8).drop 0).take 14).all (iF 4)=true:=by decide+kernel
theorem IK:(((w8 5 10).drop 0).take 1).all (iF 5)=true:=by decide+kernel
theorem IJ:(((w8 5 10).drop 1).take 1).all (iF 5)=true:=by decide+kernel
theorem II:(((w8 5 10).drop 2).take 2).all (iF 5)=true:=by decide+kernel
theorem IH:(((w8 5 10).drop 4).take 2).all (iF 5)=true:=by decide+kernel
theorem IG:(((w8 5 10).drop 6).take 3).all (iF 5)=true:=by decide+kernel
theorem IF:(((w8 5 10).drop 9).take 5).all (iF 5)=true:=by decide+kernel
theorem Gx:(((w8 5 10).drop 14).take 4).all (iF 5)=true:=by decide+kernel
theorem Gw:(((w8 5 10).drop 18).take 11).all (iF 5)=true:=by decide+kernel
theorem Gv:(((w8 5 10).drop 29).take 13).all (iF 5)=true:=by decide+kernel
theorem zw:(w8 4 8).length=14/\(w8 5 10).length=42:=by decide+kernel
theorem fO{n i m j:Nat}{L:List Tr}{t:Tr}(c:((L.drop i).take m).all (iF n)=true)(h:L[j]? =some t)(h1:i<=j)(h2:j < i+m):iF n t=true:=List.all_eq_true.mp c t (Dv h h1 h2)
theorem FO{t:Tr}(h:t∈w8 4 8):iF 4 t=true:=by
 refine cU (List.mem_iff_getElem?.mp h) λj e=>?_
 have hj:=(List.getElem?_eq_some_iff.mp e).1
 rw[zw.1]at hj
 exact fO IL e (by exact J1 [] (Qn 0) Q0 1 [] Qt) (by assumption)
theorem FN{t:Tr}(h:t∈w8 5 10):iF 5 t=true:=by
 refine cU (List.mem_iff_getElem?.mp h) λj e=>?_
 have hj:=(List.getElem?_eq_some_iff.mp e).1
 rw[zw.2]at hj
 by_cases h0:j < 1
 ·exact fO IK e (by exact J1 [] (Qn 0) Q0 1 [] Qt) (by assumption)
 by_cases h1:j < 2
 ·exact fO IJ e (by exact(bI h0)) (by assumption)
 by_cases h2:j < 4
 ·exact fO II e (by exact(bI h1)) (by assumption)
 by_cases h4:j < 6
 ·exact fO IH e (by exact(bI h2)) (by assumption)
 by_cases h6:j < 9
 ·exact fO IG e (by exact(bI h4)) (by assumption)
 by_cases h9:j < 14
 ·exact fO IF e (by exact(bI h6)) (by assumption)
 by_cases h14:j < 18
 ·exact fO Gx e (by exact(bI h9)) (by assumption)
 by_cases h18:j < 29
 ·exact fO Gw e (by exact(bI h14)) (by assumption)
 exact fO Gv e (by exact(bI h18)) (by assumption)
structure Lp(n k:Nat)(s:DrS)(is:List It)(ws:List Nat):Prop where
 len:is.length=k
 plen:s.picks.length<=k
 codes:s.codes=is.map λi=>i.2.2
 text:s.text=f7 is
 ok:dq s.codes=true
 lo:k<=2 * s.op
 hi:s.op<=n
 lv:(s.op,s.codes.map mV,ws)∈w8 n k
 vec:s.picks∈E1 ws
theorem qt:∀{w p:Nat},p < w->(p:Int)∈rf w
 |w+1,p,h=>by
  unfold rf
  by_cases hp:p < w
  ·exact eA _ (qt hp)
  ·rw[show p=w by exact eu (J2 [Ql (Qs Q0 1) (Qs Q1 1)] Q0 Q1 1 [1] Qt h) ((bI hp))]
   exact cT _ (.head _)
theorem sD{l:List Nat}{c:Nat}(h:dq l=true)(hc:c < 9):dq (l++[c])=true:=by
 unfold dq at *
 rw[List.all_append,h,jG]
 show(dl c 9&&true)=true
 rw[dU]
 exact bE hc
theorem xq{is:List It}{i:It}:f7 (is++[i])=f7 is++D4 i:=by
 unfold f7
 rw[qK,aX]
 exact congrArg _ (aO _)
theorem Ge{n k:Nat}{X:Nat->Int}{s:DrS}{is:List It}{ws:List Nat}(hn:n<=5)(hk:k < 2 * n)(j:Lp n k s is ws):∃s' is' ws',Gg n X s k=some s'/\Lp n (k+1) s' is' ws':=by
 refine nG λkG=>?_;obtain⟨j1,j2,j3,j4,j5,j6,j7,j8,j9⟩:=j
 refine kG ?_
 have hlen:s.codes.length=k:=by rw[j3,af,j1]
 have htx:=o8 is
 have g:(bT s.codes.length 30&&(bT s.picks.length 30&&(bT s.text.length 3000&&bT k 9)))=true:=by
  rw[aI,aI,aI]
  exact⟨bE (by exact J3 [Ql (Qs Q1 1) (Qm 2 Q2),Ql Q2 (Qn 5),Qe Q0 Q1] Q0 (Qn 30) 1 [1,2,1] Qt hk hn hlen),bE (by exact J3 [Ql (Qs Q1 1) (Qm 2 Q2),Ql Q2 (Qn 5),Ql Q0 Q1] Q0 (Qn 30) 1 [1,2,1] Qt hk hn j2),bE (by rw[j4];exact J4 [Ql (Qs Q1 1) (Qm 2 Q2),Ql Q2 (Qn 5),Qe Q3 Q1,Ql Q0 (Qm 19 Q3)] Q0 (Qn 3000) 1 [19,38,19,1] Qt hk hn j1 htx),bE (by exact J2 [Ql (Qs Q0 1) (Qm 2 Q1),Ql Q1 (Qn 5)] Q0 (Qn 9) 1 [1,2] Qt hk hn)⟩
 have hl:∀t:Tr,t∈GW n k (s.op,s.codes.map mV,ws)->t∈w8 n (k+1):=λt m=>List.mem_flatMap.mpr ⟨_,j8,m⟩
 unfold Gg
 rw[if_pos g]
 cases hb:(2 * (s.op:Int) - k==0||(decide ((s.op:Int) < n)&&(X k).fmod 2==0))with
 |true=>
  have ho:s.op < n:=by
   rcases Bool.or_eq_true_iff.mp hb with h|h
   ·have:=eq_of_beq h
    exact J3 [Qe (Qm 2 Q0) Q2,Ql (Qs Q2 1) (Qm 2 Q1)] (Qs Q0 1) Q1 2 [1,1] Qt (Au (Int.sub_eq_zero.mp this)) hk
   ·have:=of_decide_eq_true (Bool.and_eq_true_iff.mp h).1
    exact(Int.ofNat_lt.mp this)
  refine Y3 _ (is++[(Cg (X k),u8 (X k),s.op)]) ws ⟨(if_pos rfl).trans (if_pos (bE ho)),?_,cm j2,?_,?_,sD j5 (by exact J2 [Ql (Qs Q0 1) Q1,Ql Q1 (Qn 5)] (Qs Q0 1) (Qn 9) 1 [1,1] Qt ho hn),by show _<=2 * (s.op+1);exact J2 [Ql Q0 (Qm 2 Q1)] (Qs Q0 1) (Qm 2 (Qs Q1 1)) 1 [1] Qt j6,ho,hl _ ?_,j9⟩
  ·rw[au,j1];rfl
  ·show s.codes++[s.op]=_
   rw[j3,aQ];rfl
  ·show s.text++qR (X k) s.op=_
   rw[xq,j4];rfl
  ·refine eA _ ?_
   have:(s.codes++[s.op]).map mV=s.codes.map mV++[s.op]:=by
    rw[aQ]
    show _++[mV s.op]=_
    rw[show mV s.op=s.op from if_pos (bE (show s.op+1<=5 by exact ah ho hn))]
   show(s.op+1,(s.codes++[s.op]).map mV,ws)∈(if dl s.op n=true then [(s.op+1,s.codes.map mV++[s.op],ws)]else [])
   rw[if_pos (show dl s.op n=true from bE ho),this]
   exact .head _
 |false=>
  have hw:0 < 2 * s.op - k:=by
   have h:=(Bool.or_eq_false_iff.mp hb).1
   have:2 * (s.op:Int) - k≠0:=λe=>by rw[e]at h;exact nomatch h
   exact Nat.sub_pos_of_lt (Nat.lt_of_le_of_ne j6 λe=>this (Int.sub_eq_zero.mpr (congrArg Int.ofNat e).symm))
  have hwi:2 * (s.op:Int) - k=((2 * s.op - k:Nat):Int):=by exact(Int.ofNat_sub j6).symm
  refine nG λkG=>?_;obtain⟨f1,f2⟩:=kQ ((X k).fdiv 64) hw
  obtain⟨c1,c2⟩:=kQ ((X k).fdiv 2) (m:=4) (by decide)
  refine kG ?_
  have hc:ie (X k) < 9:=Nat.add_lt_add_left c2 5
  refine Y3 _ (is++[(Cg (X k),u8 (X k),ie (X k))]) ((2 * s.op - k)::ws) ⟨if_neg (by decide),?_,?_,?_,?_,sD j5 hc,by show _<=2 * s.op;exact Nat.lt_of_sub_pos hw,j7,hl _ ?_,?_⟩
  ·rw[au,j1];rfl
  ·show(s.picks++[_]).length<=_
   rw[au];exact cQ j2
  ·show s.codes++[ie (X k)]=_
   rw[j3,aQ];rfl
  ·show s.text++qR (X k) (ie (X k))=_
   rw[xq,j4];rfl
  ·refine cT _ ?_
   have:(s.codes++[ie (X k)]).map mV=s.codes.map mV++[5]:=by
    rw[aQ]
    show _++[mV (ie (X k))]=_
    rw[show mV (ie (X k))=5 from if_neg (λe=>by have:=ag e;unfold ie at this;omega)]
   show(s.op,(s.codes++[ie (X k)]).map mV,(2 * s.op - k)::ws)∈(if BL (2 * s.op - k) 0=true then []else [(s.op,s.codes.map mV++[5],(2 * s.op - k)::ws)])
   rw[if_neg (λe=>by have:=Nat.eq_of_beq_eq_true e;exact cq hw this),this]
   exact .head _
  ·show s.picks++[((X k).fdiv 64).fmod (2 * (s.op:Int) - k)]∈_
   rw[hwi,f1]
   exact List.mem_flatMap.mpr ⟨_,j9,List.mem_map.mpr ⟨_,qt f2,rfl⟩⟩
theorem D9{n:Nat}{X:Nat->Int}(hn:n<=5):∀k,k<=2 * n->∃s is ws,dR (Gg n X) ⟨0,[],[],[]⟩ (aM k)=some s/\Lp n k s is ws
 |0,_=>Y3 ⟨0,[],[],[]⟩ [] [] ⟨rfl,rfl,ai _,rfl,rfl,rfl,ai _,bH _,.head _,.head _⟩
 |k+1,h=>by
  refine I8 (D9 (X:=X) hn k (bD h)) λs is ws e j=>?_
  refine I8 (Ge (X:=X) hn h j) λs' is' ws' e' j'=>?_
  refine Y3 s' is' ws' ⟨?_,j'⟩
  rw[wj,kP,e,ac]
  show(Gg n X s k).bind _=_
  rw[e'];rfl
section
variable{n:Nat}{codes:List Nat}
theorem vK{c:Nat}(h:c < 5):mV c=c:=if_pos (bE h)
theorem yY{c:Nat}(h:¬c < 5):mV c=5:=if_neg λe=>h (ag e)
theorem o3(hn:n<=5)(c:Nat):mQ n (mV c)=mQ n c:=by
 by_cases h:c < 5
 ·rw[vK h]
 ·rw[yY h]
  unfold mQ
  rw[nh,nh,decide_eq_false (by exact nA (hn)),decide_eq_false (by exact nA (ah hn (bI h)))]
theorem Hm{c:Nat}(h:c < 9):dl (mV c) 9=dl c 9:=by
 rw[nh,nh,decide_eq_true h]
 by_cases h:c < 5
 ·rw[vK h];exact decide_eq_true (by exact bo)
 ·rw[yY h];rfl
theorem qc{σ α β:Type}{st:σ->β->Option σ}{st':σ->α->Option σ}{f:α->β}:∀{l:List α} {s:σ},(∀s x,x∈l->st s (f x)=st' s x)->dR st s (l.map f)=dR st' s l
 |[],_,_=>rfl
 |x::l,s,h=>by
  show(st s (f x)).bind _=(st' s x).bind _
  rw[h s x (.head _)]
  exact congrArg _ (funext λs=>qc λs y m=>h s y (.tail _ m))
theorem zv{x:Nat × Nat}(m:x∈codes.zipIdx):x.1∈codes:=by
 exact List.fst_mem_of_mem_zipIdx m
theorem zf:(codes.map mV).zipIdx=codes.zipIdx.map λp=>(mV p.1,p.2):=by
 rw[List.zipIdx_map]
 rfl
theorem zY{turned:Bool}{picks:List Int}(hn:n<=5)(hc:dq codes=true):qS n turned picks (codes.map mV)=qS n turned picks codes:=by
 unfold qS
 rw[zf]
 refine congrArg _ (qc λs x m=>?_)
 have hx:=ou hc (zv m)
 unfold Gu
 dsimp only
 rw[o3 hn,Hm hx]
theorem rj{h:Nat}(hh:h < 5):∀{l:List Nat},(l.map mV).idxOf h=l.idxOf h/\(l.map mV).contains h=l.contains h
 |[]=>⟨rfl,rfl⟩
 |c::l=>by
  refine(λi1 i2=>?_) (rj hh (l:=l)).1 (rj hh (l:=l)).2
  have e:(mV c==h)=(c==h):=by
   by_cases hc:c < 5
   ·rw[vK hc]
   ·rw[yY hc,beq_eq_false_iff_ne.mpr (by exact cq ‹_›),beq_eq_false_iff_ne.mpr (by exact cq (ah hh (bI hc)))]
  rw[bX,oD,oD,lw,lw,i1,i2,e,BEq.comm (a:=h),e,BEq.comm (a:=c)]
  exact⟨rfl,rfl⟩
theorem H9{α:Type}{c:Bool}{a b d:α}(h:a=b):(if c=true then a else d)=if c=true then b else d:=by rw[h]
theorem Db{s:List Nat × List (Int × Int)}{x:Nat × Nat}(hn:n<=5)(hx:x.1 < 9):vn n (codes.map mV) s (mV x.1,x.2)=vn n codes s x:=by
 unfold vn
 dsimp only
 rw[o3 hn,Hm hx]
 refine H9 ?_
 cases hb:mQ n x.1 with
 |true=>
  rw[if_pos rfl,if_pos rfl,vK (ay (ag hb) hn)]
 |false=>
  rw[if_neg (by decide),if_neg (by decide)]
  cases s.1 with
  |nil=>rfl
  |cons h q=>
   dsimp only
   cases hh:dl h 5 with
   |false=>rw[x5,x5,if_neg (by decide),if_neg (by decide)]
   |true=>
    refine(λi1 i2=>?_) (rj (ag hh) (l:=codes)).1 (rj (ag hh) (l:=codes)).2
    rw[i1,i2]
theorem FM(hn:n<=5)(hc:dq codes=true):wZ n (codes.map mV)=wZ n codes:=by
 unfold wZ
 rw[zf]
 have key:dR (vn n (codes.map mV)) ([],[]) (codes.zipIdx.map λp=>(mV p.1,p.2))=dR (vn n codes) ([],[]) codes.zipIdx:=qc λs x m=>Db hn (ou hc (zv m))
 rw[key]
theorem vP:∀{l:List Nat} {k:Int},vR k (l.map mV)=vR k l
 |[],_=>rfl
 |c::l,k=>by
  rw[bX,vR,vR,o3 (ai 5),vP,vP]
theorem xg(hn:n<=5)(p:Nat):mQ n ((codes.map mV).getD p 9)=mQ n (codes.getD p 9):=by
 rw[bA,bA,aW]
 cases codes[p]? with
 |none=>rfl
 |some c=>exact o3 hn c
theorem FG(hn:n<=5):wX n (codes.map mV)=wX n codes:=by
 have hm:mM n (codes.map mV)=mM n codes:=by
  funext p m
  unfold mM
  rw[xg hn,<-q9,<-hH,vP]
 have ht:yv n (codes.map mV)=yv n codes:=by
  funext s p
  unfold yv
  rw[hm,xg hn,af]
 unfold wX
 rw[ht,af]
theorem Bg{n:Nat}(hn:n=4\/n=5)(X:Nat->Int):∃s is nest line free back,dR (Gg n X) ⟨0,[],[],[]⟩ (aM (2 * n))=some s/\is.length=2 * n/\s.codes=is.map (λi=>i.2.2)/\s.text=f7 is/\dq s.codes=true/\s.picks.length<=10/\
  wX n s.codes=some nest/\wZ n s.codes=some line/\qS n false s.picks s.codes=some free/\qS n true s.picks s.codes=some back/\lS nest line free back:=by
 have hn5:n<=5:=by exact G6 hn
 refine I8 (D9 (X:=X) hn5 (2 * n) (ai _)) λs is ws e j=>?_
 have hp:iF n (s.op,s.codes.map mV,ws)=true:=by
  have:=j.lv
  rcases hn with rfl|rfl
  ·exact FO this
  ·exact FN this
 refine Kv (HU hp j.vec) λnest line free back e1 e2 e3 e4 a=>?_
 refine Y6 s is nest line free back ⟨e,j.len,j.codes,j.text,j.ok,by have:=j.plen;exact J2 [Ql Q0 (Qm 2 Q1),Ql Q1 (Qn 5)] Q0 (Qn 10) 1 [1,2] Qt this hn5,?_,?_,?_,?_,a⟩
 ·rw[<-FG hn5];exact e1
 ·rw[<-FM hn5 j.ok];exact e2
 ·rw[<-zY hn5 j.ok];exact e3
 ·rw[<-zY hn5 j.ok];exact e4
end
section
variable{ρ:List LV}{lx:Lx}{codes:List Nat}
theorem Fh{c:Nat}:Sh 0 (wordD c):=.str (rT λd m=>by
 have:=List.contains_iff_mem.mp (List.all_eq_true.mp (mW c) d m)
 have h:∀d∈alphaN,d < 1114112:=by decide
 exact h d this)
theorem uY{α:Type}{f:α->D}{k:Nat}{l:List α}(h:∀x∈l,Sh k (f x)):Sh (k+1) (.list (l.map f)):=.list λd m=>by
 obtain⟨x,mx,rfl⟩:=List.mem_map.mp m
 exact h x mx
theorem AE{q:DS}{Q:Fl × List LV × Lx->Prop}(h2:ρ[2]? =some (.dat (.list (codes.map cellsD))))(h6:ρ[6]? =some (.dat (.list (codes.map wordD))))(hz:codes.length<=64)(k:Rn (q ρ lx) Q):
  Rn (DS.cons (DS.ite (DT.cmp .NotEq (DE.nm 6) (DE.comp (cw [none,none] (DI.val (DE.nm 2)) (Tg.nm 1) DT.tt (cF (DE.join (DE.k (.str (ad ""))) (DE.nm 1)))))) ((DS.ret (DE.k (.bool false))).cons DS.nil) DS.nil) q ρ lx) Q:=
 bZ (dQ (bS (aG h6) (dN (sb h2 hz)) (fR ((uY (k:=0) λc _=>Fh).mono (by decide)) rfl rfl)) (bv ⟨rfl,k⟩))
noncomputable def notQ(x:List Nat):Bool:=!(x.headD 0==34)
theorem m6:∀c:Nat,dP (mF c)=(iu c).filter notQ/\(iu c).all (λx=>!x.isEmpty)=true/\(iu c).length<=3
 |0=>⟨rfl,rfl,by decide⟩
 |1=>⟨rfl,rfl,by decide⟩
 |2=>⟨rfl,rfl,by decide⟩
 |3=>⟨rfl,rfl,by decide⟩
 |4=>⟨rfl,rfl,by decide⟩
 |5=>⟨rfl,rfl,by decide⟩
 |6=>⟨rfl,rfl,by decide⟩
 |7=>⟨rfl,rfl,by decide⟩
 |_+8=>⟨rfl,rfl,ag rfl⟩
noncomputable def dg(codes:List Nat):List (List Nat):=dP (eV codes)
theorem rG:dg codes=codes.flatMap λc=>(iu c).filter notQ:=by
 unfold dg dP eV
 rw[List.flatMap_assoc]
 exact congrArg (λf=>BO f codes) (funext λc=>(m6 c).1)
noncomputable def il(x:List Nat):D:=.str (S x)
theorem A9{x:List Nat}(h:x.isEmpty=false):jt (il x) 0=some (.str (S [x.headD 0])):=by
 cases x with
 |nil=>exact nomatch h
 |cons c x=>
  show((cP 0 (c::x).length).bind ((S (c::x)).cps[·]?)).map (λc=>dI ⟨#[c]⟩)=_
  have:cP 0 (c::x).length=some 0:=jb (k:=0) (nR _)
  rw[this]
  rfl
theorem ya(h2:ρ[2]? =some (.dat (.list (codes.map cellsD))))(hz:codes.length<=64):
  cw [none,none,none] (DI.val (DE.nm 2)) (Tg.nm 1) DT.tt (o9 (DI.val (DE.nm 1)) (Tg.nm 2) ((DT.cmp .NotEq ((DE.nm 2).item (DE.k (.int 0))) (DE.k (.str (ad "\"")))).and DT.tt) (DE.nm 2)) ρ lx=some ((dg codes).map il,lx):=by
 have h4:(4096:Nat)<=sizeLine:=by decide
 have hb:(codes.flatMap λc=>((iu c).filter notQ).map il).length<=3 * codes.length:=by
  clear h2 hz
  induction codes with
  |nil=>exact ai _
  |cons c r ih=>
   have h1:=bP notQ (iu c)
   have h2:=(m6 c).2.2
   rw[aX,au,af,aT]
   exact J4 [Ql Q1 (Qm 3 Q2),Ql Q3 (Qn 3),Ql Q0 Q3] (Qa Q0 Q1) (Qm 3 (Qs Q2 1)) 1 [1,1,1] Qt ih h2 h1
 obtain⟨ρ',e,_⟩:=lF (fz:=true) (tg:=Tg.nm 1) (ifs:=DT.tt) (em:=o9 (DI.val (DE.nm 1)) (Tg.nm 2) ((DT.cmp .NotEq ((DE.nm 2).item (DE.k (.int 0))) (DE.k (.str (ad "\"")))).and DT.tt) (DE.nm 2)) (enc:=cellsD) (p:=λ_=>true) (g:=λc=>((iu c).filter notQ).map il)
  (I:=λρ=>∃a b,ρ=[.un,a,b]) (lx:=lx) codes [] [.un,.un,.un] (λc ρ out _ ⟨a,b,hρ⟩ hlen=>by
   subst hρ
   refine⟨[.un,.dat (cellsD c),b],rfl,Y2 _ _ rfl,rfl,λ_=>?_⟩
   obtain⟨ρ2,e2,b',h2⟩:=eO (fz:=true) (tg:=Tg.nm 2) (ifs:=(DT.cmp .NotEq ((DE.nm 2).item (DE.k (.int 0))) (DE.k (.str (ad "\"")))).and DT.tt) (elt:=DE.nm 2) (enc:=il) (p:=notQ) (f:=il)
    (I:=λρ=>∃b,ρ=[.un,.dat (cellsD c),b]) (lx:=lx) (iu c) out [.un,.dat (cellsD c),b] (λx ρ mx ⟨b,hρ⟩=>by
     subst hρ
     have hne:x.isEmpty=false:=by
      have:=List.all_eq_true.mp (m6 c).2.1 x mx
      cases hx:x.isEmpty with
      |false=>rfl
      |true=>rw[hx]at this;exact nomatch this
     refine⟨[.un,.dat (cellsD c),.dat (il x)],rfl,⟨_,rfl⟩,?_,λ_=>rfl⟩
     have hx0:x.headD 0 < 1114112:=by
      have hm:x.headD 0∈x:=by
       cases x with
       |nil=>exact nomatch hne
       |cons d x=>exact .head _
      have h1:x.headD 0∈ce c:=List.mem_flatten.mpr ⟨x,mx,hm⟩
      have h2:=List.contains_iff_mem.mp (List.all_eq_true.mp (mW c) _ h1)
      exact(show ∀d∈alphaN,d < 1114112 by decide) _ h2
     have hq:gF .NotEq (.dat (.str (S [x.headD 0]))) (.dat (.str (ad "\"")))=some (notQ x):=by
      rw[oQ]
      show(gF .Eq _ _).map (λz=>!z)=_
      rw[lM (rT λd m=>by rw[List.mem_singleton.mp m];exact hx0) (rT (by decide)),jY]
      rfl
     have:=lQ (bS (op:=.NotEq) (fh (aG (i:=2) (ρ:=[.un,.dat (cellsD c),.dat (il x)]) (lx:=lx) rfl) (bw (d:=.int 0)) rfl (A9 hne) (by decide)) bw hq) tR
     rwa [dU]at this) ⟨_,rfl⟩ (by rw[af]at hlen;exact hlen)
   exact⟨ρ2,e2,_,_,h2⟩) ⟨_,_,rfl⟩ (by simp only[cM,cE];exact J3 [Ql (Qn 4096) Q1,Ql Q0 (Qm 3 Q2),Ql Q2 (Qn 64)] Q0 Q1 1 [1,1,3] Qt h4 hb hz)
 have hf:codes.filter (λ_=>true)=codes:=List.filter_eq_self.mpr λ_ _=>rfl
 rw[hf,bK]at e
 refine(yW rfl (fC (aG h2) rfl) e).trans (congrArg (λz=>some (z,lx)) ?_)
 rw[rG,List.map_flatMap]
theorem jp:(dg codes).flatten.length<=8 * codes.length/\(dg codes).length<=3 * codes.length:=by
 refine oG (iD codes) λh1 h2 h3=>?_
 refine⟨ah (vj (eV codes)) (by rw[h1];exact h3),?_⟩
 rw[rG]
 clear h1 h2 h3
 induction codes with
 |nil=>exact ai _
 |cons c r ih=>
  have h1:=bP notQ (iu c)
  have h2:=(m6 c).2.2
  rw[aX,au,aT]
  exact J4 [Ql Q1 (Qm 3 Q2),Ql Q3 (Qn 3),Ql Q0 Q3] (Qa Q0 Q1) (Qm 3 (Qs Q2 1)) 1 [1,1,1] Qt ih h2 h1
end
section
variable{ρ:List LV}{lx:Lx}{codes:List Nat}
theorem HT:ad "\"("=S [34,40]/\ad "z"=S [122]:=by decide+kernel
theorem re:∀a∈dg codes,sU a/\∀c∈a,c < 1114112:=ue nZ
theorem zK:∀c∈(dg codes).flatten,c < 1114112:=λc m=>by
 refine a7 (List.mem_flatten.mp m) λa ma mc=>?_
 exact(re a ma).2 c mc
theorem yg{q:DS}{Q:Fl × List LV × Lx->Prop}(h6:ρ[6]? =some (.dat (.list (codes.map wordD))))(h8:ρ[8]? =some (.dat (.str (S (dg codes).flatten))))(hz:codes.length<=64)(k:Rn (q ρ lx) Q):
  Rn (DS.cons (DS.ite (DT.cmp .NotEq (DE.call fStrip (DL.cons (DE.bin .Add (DE.join (DE.k (.str (ad ""))) (DE.nm 6)) (DE.k (.str (ad "\"(")))) DL.nil)) (DE.bin .Add (DE.nm 8) (DE.k (.str (ad "\"("))))) ((DS.ret (DE.k (.bool false))).cons DS.nil) DS.nil) q ρ lx) Q:=by
 refine oG (iD codes) λs1 s2 s3=>?_
 refine en (jp (codes:=codes)) λu1 u2=>?_
 have hj:=jd (lx:=lx) (ρ:=ρ) (a:=DE.nm 6) (l:=codes.map ce) (aG h6) (by rw[bO];rfl) (by show(qC codes).length<=_;exact J2 [Ql Q1 (Qn 64),Ql Q0 (Qm 8 Q1)] Q0 (Qn 8192) 1 [8,1] Qt hz s3)
 have hs:=wz (lx:=lx) (gs:=eV codes) nZ .par (by exact J2 [Ql Q0 (Qm 3 Q1),Ql Q1 (Qn 64)] Q0 (Qn 4000) 1 [1,3] Qt s2 hz) (by rw[s1,au];show _+2<=_;exact J2 [Ql Q1 (Qn 64),Ql Q0 (Qm 8 Q1)] (Qs Q0 2) (Qn 4096) 1 [8,1] Qt hz s3)
 rw[s1]at hs
 rw[HT.1]
 have h1:=bM (aN (cL hj (bw (d:=.str (S [34,40]))) (xH (by show(qC codes).length+2<=_;exact J2 [Ql Q1 (Qn 64),Ql Q0 (Qm 8 Q1)] (Qs Q0 2) (Qn 4096) 1 [8,1] Qt hz s3))) bl) hs
 have h2:=cL (aG (lx:=lx) h8) (bw (d:=.str (S [34,40]))) (xH (by show _+2<=_;exact J2 [Ql Q1 (Qn 64),Ql Q0 (Qm 8 Q1)] (Qs Q0 2) (Qn 4096) 1 [8,1] Qt hz u1))
 have hok:Sh 8 (.str (S ((dg codes).flatten++[34,40]))):=.str (rT λc m=>(List.mem_append.mp m).elim (zK c) λm=>(show ∀d∈[34,40],d < 1114112 by decide) c m)
 exact bZ (dQ (bS h1 h2 (fR hok rfl rfl)) (bv ⟨rfl,k⟩))
noncomputable def dd(codes:List Nat):List (List Nat):=dg codes++[[92]]
noncomputable def Dg(V:List (List Nat))(i:Nat):Int:=((V.take (i+1)).flatten.length:Int) - 1
theorem yA{V:List (List Nat)}(h7:ρ[7]? =some (.own (V.map il)))(hz:V.length<=64)(hl:V.flatten.length<=4096):
  cw [none,none,none,some 7] (DI.range (DL.cons (DE.call lenF (DL.cons (DE.nm 7) DL.nil)) DL.nil)) (Tg.nm 1) DT.tt (cF (DE.bin .Sub (DE.call lenF (DL.cons (DE.join (DE.k (.str (ad ""))) ((DE.nm 3).cut DO.no (DO.of (DE.bin .Add (DE.nm 1) (DE.k (.int 1)))) DO.no)) DL.nil)) (DE.k (.int 1)))) ρ lx=some ((aM V.length).map λi=>aw (Dg V i),lx):=by
 have h4:(4096:Nat)<=sizeLine:=by decide
 have hlen:DE.call lenF (DL.cons (DE.nm 7) DL.nil) ρ lx=some (.dat (.int V.length),lx):=by
  refine bM (aN (r7 h7 rfl) bl) ?_
  show((if decide ((V.map il).length<=sizeLine)=true then some (Va.dat (aw ((V.map il).length:Nat)))else none).map λv=>(v,lx))=_
  rw[if_pos (decide_eq_true (by rw[af];exact bo)),af]
  rfl
 have hc:ox [none,none,none,some 7] ρ=some [.un,.un,.un,.bor (.list (V.map il))]:=by
  show((((ρ[7]?.map LV.cap).bind λv=>(some []:Option (List LV)).map (v:: ·)).map (LV.un:: ·)).map (LV.un:: ·)).map (LV.un:: ·)=_
  rw[h7];rfl
 refine iT (enc:=λi:Nat=>aw (i:Nat)) (l:=aM V.length) (λρ=>∃a,ρ=[.un,a,.un,.bor (.list (V.map il))]) (kH hlen hz) hc ⟨_,rfl⟩ (by rw[bL];exact bo) λi ρ m ⟨a,hρ⟩=>?_
 subst hρ
 refine⟨[.un,.dat (.int i),.un,.bor (.list (V.map il))],rfl,⟨_,rfl⟩,?_⟩
 have hfl:(V.take (i+1)).flatten.length<=4096:=by
  have:V.flatten.length=(V.take (i+1)).flatten.length+(V.drop (i+1)).flatten.length:=by rw[<-au,<-cz,List.take_append_drop]
  exact J3 [Qe Q1 (Qa Q0 Q2),Ql Q1 (Qn 4096)] Q0 (Qn 4096) 1 [.negSucc 0,1] Qt this hl
 have hcut:=rm (ds:=V.map il) (b:=i+1) (by rw[af];exact bo)
 rw[<-hH]at hcut
 have hj:=jd (lx:=lx) (l:=V.take (i+1)) (ρ:=[.un,.dat (.int i),.un,.bor (.list (V.map il))]) (lL (a:=DE.nm 3) (r:=.bor (.list (V.map il))) (r7 rfl rfl) jz (lY (x:=((i+1:Nat):Int)) (cL (aG (i:=1) (d:=.int i) rfl) (bw (d:=.int 1)) (EB (x:=i) (y:=1)))) jz rfl hcut) rfl (by exact bo)
 refine cL (bM (aN hj bl) ?_) bw (yf (x:=((V.take (i+1)).flatten.length:Int)) (y:=1))
 show((if decide ((V.take (i+1)).flatten.length<=sizeLine)=true then some (Va.dat (aw ((V.take (i+1)).flatten.length:Nat)))else none).map λv=>(v,lx))=_
 rw[if_pos (decide_eq_true (by exact bo))]
 rfl
theorem uh:∀(V:List (List Nat)) (k:Nat),(∀a∈V,a≠[])->Ay ((aM V.length).map λi=>aw (((k+(V.take (i+1)).flatten.length:Nat):Int) - 1)) (V.map il)=(hM k V).map oo
 |[],k,_=>rfl
 |a::V,k,h=>by
  have ih:=uh V (k+a.length) λb m=>h b (.tail _ m)
  have ha:1<=a.length:=by
   have:=h a (.head _)
   cases a with
   |nil=>exact absurd rfl this
   |cons c a=>exact cQ (bH _)
  rw[aT,List.range_succ_eq_map,bX,bO]
  have e:((λi=>aw (((k+((a::V).take (i+1)).flatten.length:Nat):Int) - 1)) ∘ nz)=λi=>aw (((k+a.length+(V.take (i+1)).flatten.length:Nat):Int) - 1):=by
   funext i
   show aw (((k+(a::V.take (i+1)).flatten.length:Nat):Int) - 1)=_
   rw[dJ,au,<-hF]
  rw[e]
  show PyData.tuple [.int (((k+(a::[]).flatten.length:Nat):Int) - 1),il a]::Ay _ (V.map il)=oo (k+a.length - 1,S a)::(hM (k+a.length) V).map oo
  rw[ih]
  refine congrArg (· ::_) ?_
  have:(((k+(a::[]).flatten.length:Nat):Int) - 1)=((k+a.length - 1:Nat):Int):=by
   rw[dJ,List.flatten_nil,aO]
   exact(Int.ofNat_sub (ah ha (dK _ _))).symm
  rw[this]
  rfl
theorem DZ:dX 0 false ((dg codes).flatten++[92])=hM 0 (dd codes):=by
 rw[jy 0 λa m=>(re a m).1,dd,rU,cE]
 refine congrArg _ ?_
 show [((dg codes).flatten.length+1 - 1,ad "\\")]=[((dg codes).flatten.length+1 - 1,S [92])]
 rw[xA]
theorem wQ{P:Nat->Str->Prop}:∀{V:List (List Nat)} {k:Nat},(∀a∈V,∀k,P k (S a))->∀p∈hM k V,P p.1 p.2
 |[],_,_,p,m=>by cases m
 |a::V,k,h,p,m=>by
  cases m with
  |head=>exact h a (.head _) _
  |tail _ m=>exact wQ (λb m=>h b (.tail _ m)) p m
end
section
variable{ρ:List LV}{lx:Lx}{codes:List Nat}{n:Nat}{A:cH}{q:DS}{Q:Fl × List LV × Lx->Prop}
theorem E3{is:List It}{rows:List D}(h2:ρ[2]? =some (.dat (.list rows)))(h5:ρ[5]? =some .lex)(hr:rows.length=is.length)(hi:is.length<=64)(hl:6 < ρ.length)
  (k:∀p l',tK p->Ae (p++[122])->l'+nl p=1+nl (f7 is)->Rn (q (ρ.set 6 (.dat (.list (is.map λi=>wordD i.2.2)))) (some (A,⟨[],sg (p++[122]),l'⟩))) Q):
  Rn (DS.cons (DS.comp 6 (cw [none,none,some 5] (DI.val (DE.nm 2)) (Tg.nm 1) DT.tt (cF (DE.tok 2)))) q ρ (some (A,⟨[],sg (f7 is++[122]),1⟩))) Q:=by
 refine Kx (tS (A:=A) is rows [] .un [] 1 hr (.inl rfl) (E6 hi) (by show 0+_<=_;exact J1 [Ql Q0 (Qn 64)] (Qa (Qn 0) Q0) (Qn 4096) 1 [1] Qt hi)) λu' p' l' a1 a2 a3 a4=>?_
 rw[bK]at a3 a4
 rw[bK]at a4
 have hc:ox [none,none,some 5] ρ=some [.un,.un,.lex]:=by
  show(((ρ[5]?.map LV.cap).bind λv=>(some []:Option (List LV)).map (v:: ·)).map (LV.un:: ·)).map (LV.un:: ·)=_
  rw[h5];rfl
 exact aP (nf (yW hc (fC (aG h2) rfl) a4) hl) (k p' l' a1 a2 a3)
theorem DU(h8:ρ[8]? =some (.dat (.str (S (dg codes).flatten))))(h10:ρ[10]? =some (.dat (.list ((aM (dd codes).length).map λi=>aw (Dg (dd codes) i)))))(h7:ρ[7]? =some (.own ((dd codes).map il)))(hz:codes.length<=20)(k:Rn (q ρ lx) Q):
  Rn (DS.cons (DS.ite (DT.cmp .NotEq (DE.comp (cw [none,none] (DI.esc (DE.bin .Add (DE.nm 8) (DE.k (.str (ad "\\"))))) (Tg.nm 1) DT.tt (cF (DE.nm 1)))) (DE.zip (DE.nm 10) (DE.nm 7))) ((DS.ret (DE.k (.bool false))).cons DS.nil) DS.nil) q ρ lx) Q:=by
 refine(λu1 u2=>?_) (jp (codes:=codes)).1 (jp (codes:=codes)).2
 have hV:(dd codes).length=(dg codes).length+1:=by unfold dd;rw[au];rfl
 have hne:∀a∈dd codes,a≠[]:=λa m e=>by
  subst e
  rcases List.mem_append.mp m with m|m
  ·exact nomatch(re [] m).1
  ·exact nomatch List.mem_singleton.mp m
 have hlt:∀a∈dd codes,∀c∈a,c < 1114112:=λa m=>(List.mem_append.mp m).elim (λm=>(re a m).2) λm=>by rw[List.mem_singleton.mp m];decide
 have he:DI.esc (DE.bin .Add (DE.nm 8) (DE.k (.str (ad "\\")))) ρ lx=some (true,(hM 0 (dd codes)).map oo,lx):=by
  rw[xA,<-DZ]
  exact yP (cL (aG h8) (bw (d:=.str (S [92]))) (xH (by show _+1<=_;exact J2 [Ql Q1 (Qn 20),Ql Q0 (Qm 8 Q1)] (Qs Q0 1) (Qn 4096) 1 [8,1] Qt hz u1))) (by rw[au];show _+1<=_;exact J2 [Ql Q1 (Qn 20),Ql Q0 (Qm 8 Q1)] (Qs Q0 1) (Qn 4096) 1 [8,1] Qt hz u1) λc m=>(List.mem_append.mp m).elim (zK c) λm=>by rw[List.mem_singleton.mp m];decide
 have hp:(hM 0 (dd codes)).length=(dd codes).length:=by
  have:∀(V:List (List Nat)) (k:Nat),(hM k V).length=V.length:=by
   intro V
   induction V with
   |nil=>intro k;rfl
   |cons a V ih=>intro k;show _+1=_+1;rw[ih]
  exact this _ _
 have h1:DE.comp (cw [none,none] (DI.esc (DE.bin .Add (DE.nm 8) (DE.k (.str (ad "\\"))))) (Tg.nm 1) DT.tt (cF (DE.nm 1))) ρ lx=some (.dat (.list ((hM 0 (dd codes)).map oo)),lx):=
  dN (iT (enc:=oo) (f:=oo) (l:=hM 0 (dd codes)) (λρ=>∃a,ρ=[.un,a]) he rfl ⟨_,rfl⟩ (by exact J4 [Qe Q1 (Qs Q2 1),Ql Q2 (Qm 3 Q3),Ql Q3 (Qn 20),Qe Q0 Q1] Q0 (Qn 4096) 1 [1,1,3,1] Qt hV u2 hz hp) λp ρ _ ⟨a,hρ⟩=>by subst hρ;exact⟨[.un,.dat (oo p)],rfl,⟨_,rfl⟩,aG rfl⟩)
 have hz0:=uh (dd codes) 0 hne
 have hfn:(λi=>aw (((0+((dd codes).take (i+1)).flatten.length:Nat):Int) - 1))=λi=>aw (Dg (dd codes) i):=by
  funext i
  rw[cE];rfl
 rw[hfn]at hz0
 have h2:DE.zip (DE.nm 10) (DE.nm 7) ρ lx=some (.dat (.list ((hM 0 (dd codes)).map oo)),lx):=by
  unfold DE.zip
  rw[aG h10,ac]
  show((DE.nm 7 ρ lx).bind _)=_
  rw[r7 h7 rfl,ac]
  show(if(decide (_/\_/\_)&&(_&&_))=true then _ else _)=_
  rw[if_pos (by
   rw[aI,aI]
   refine⟨decide_eq_true ⟨by rw[af,bL];exact J3 [Qe Q0 (Qs Q1 1),Ql Q1 (Qm 3 Q2),Ql Q2 (Qn 20)] Q0 (Qn 4096) 1 [1,1,3] Qt hV u2 hz,by rw[af,af,bL],by rw[af,bL];exact J2 [Qe Q0 (Qs Q1 1)] (Qs (Qn 0) 1) Q0 1 [.negSucc 0] Qt hV⟩,List.all_eq_true.mpr λd m=>?_,List.all_eq_true.mpr λd m=>?_⟩
   ·obtain⟨_,hX⟩:=List.mem_map.mp m;obtain rfl:=hX.2;rfl
   ·obtain⟨_,hX⟩:=List.mem_map.mp m;obtain rfl:=hX.2;rfl),hz0]
 have hsh:Sh 8 (.list ((hM 0 (dd codes)).map oo)):=(uY (k:=1) λp m=>Sh.tuple λd md=>by
  cases md with
  |head=>exact .int
  |tail _ md=>cases md with
   |head=>exact .str (wQ (P:=λ_ x=>bk x=true) (λa m _=>rT (hlt a m)) p m)
   |tail _ md=>exact nomatch md).mono (by decide)
 exact bZ (dQ (bS h1 h2 (fR hsh rfl rfl)) (bv ⟨rfl,k⟩))
theorem Ee{t:List Nat}:Txt.count (S t) (ad "\n")=nl t:=by
 rw[lU.2.2.2.1]
 have h:∀t:List Nat,cnt 10 t=nl t:=by
  intro t
  induction t with
  |nil=>rfl
  |cons c t ih=>
   rw[cnt_cons,ih,show nl (c::t)=nl [c]+nl t from iQ [c] t,<-show ig c 0=nl [c]by rw[vN];exact kA _]
   unfold ig
   by_cases hc:c=10
   ·subst hc;rfl
   ·rw[if_neg hc,if_neg (by simpa using hc)]
 exact(count_cnt (S t) 10).trans (h t)
theorem A3{p:List Nat}{l:Int}{t:List Nat}(h5:ρ[5]? =some .lex)(h4:ρ[4]? =some (.dat (.str (S t))))(hp:tK p)(ho:Ae (p++[122]))(he:l+nl p=1+nl t)(k:Rn (q ρ (some (A,⟨[],[],l+nl p⟩))) Q):
  Rn (DS.cons (DS.ite (DT.cmp .NotEq (DE.list (DL.cons (DE.tok 5) (DL.cons (DE.tok 5) (DL.cons (DE.line 5) DL.nil)))) (DE.list (DL.cons (DE.k (.str (ad "z"))) (DL.cons (DE.k (.str (ad ""))) (DL.cons (DE.bin .Add (DE.k (.int 1)) (DE.count (DE.nm 4) (DE.k (.str (ad "\n"))))) DL.nil))))) ((DS.ret (DE.k (.bool false))).cons DS.nil) DS.nil) q ρ (some (A,⟨[],sg (p++[122]),l⟩))) Q:=by
 have t1:=yc (A:=A) (i:=5) h5 ho.fits (Jv (l:=l) hp)
 have t2:=yc (A:=A) (i:=5) h5 (show(LexSt.mk [] [] (l+nl p)).fits=true from Ae.fits (l:=[]) ⟨bH _,λc m=>nomatch m⟩) (E4 (l:=l+nl p))
 have t3:DE.line 5 ρ (some (A,⟨[],[],l+nl p⟩))=some (.dat (.int (1+nl t)),some (A,⟨[],[],l+nl p⟩)):=by
  unfold DE.line eM
  rw[h5,<-he];rfl
 have hc:DE.count (DE.nm 4) (DE.k (.str (ad "\n"))) ρ (some (A,⟨[],[],l+nl p⟩))=some (.dat (.int (nl t)),some (A,⟨[],[],l+nl p⟩)):=by
  unfold DE.count
  rw[aG h4,ac]
  show((some (ad "\n")).map λy=>(Va.dat (aw (Txt.count (S t) y)),some (A,LexSt.mk [] [] (l+nl p))))=_
  rw[hU,Ee]
 rw[HT.2,lU.2.1]
 have h1:=jc (aN t1 (aN t2 (aN t3 bl))) rfl rfl
 have h2:=jc (aN (bw (d:=.str (S [122])) (ρ:=ρ) (lx:=some (A,⟨[],[],l+nl p⟩))) (aN (bw (d:=.str (S []))) (aN (cL (bw (d:=.int 1)) hc EB) bl))) rfl rfl
 have hsh:Sh 8 (.list [.str (S [122]),.str (S []),.int (1+nl t)]):=(Sh.list (k:=0) λd m=>by
  cases m with
  |head=>exact .str (rT (by decide))
  |tail _ m=>cases m with
   |head=>exact .str (rT (by decide))
   |tail _ m=>cases m with
    |head=>exact .int
    |tail _ m=>exact nomatch m).mono (by decide)
 exact bZ (dQ (bS h1 h2 (fR hsh rfl rfl)) (bv ⟨rfl,k⟩))
end
noncomputable def gO(l:List (Int × Int)):D:=.list (l.map bQ)
structure Fr(n:Nat)(nest line free back:List (Int × Int))(ρ:List LV):Prop where
 len:ρ.length=34
 h1:ρ[1]? =some (.dat (cr n))
 h11:ρ[11]? =some (.dat (gO nest))
 h12:ρ[12]? =some (.dat (gO line))
 h13:ρ[13]? =some (.dat (gO free))
 h14:ρ[14]? =some (.dat (gO back))
section
variable{n:Nat}{nest line free back arcs:List (Int × Int)}{ρ:List LV}{lx:Lx}{q:DS}{Q:Fl × List LV × Lx->Prop}
theorem Fr.set(F:Fr n nest line free back ρ)(i:Nat)(v:LV)(hi:(i != 1&&(i != 11&&(i != 12&&(i != 13&&i != 14))))=true):Fr n nest line free back (ρ.set i v):=by
 refine nG λkG=>?_;obtain⟨h0,h1,h2,h3,h4,h5⟩:=F
 simp only[aI,bne_iff_ne]at hi
 refine Jp hi λi1 i2 i3 i4 i5=>?_
 refine kG ?_
 exact⟨by rw[dL];exact h0,by rw[bU i1];exact h1,by rw[bU i2];exact h2,by rw[bU i3];exact h3,by rw[bU i4];exact h4,by rw[bU i5];exact h5⟩
theorem pK{i:Nat}{v:LV}(h:i < ρ.length):(ρ.set i v)[i]? =some v:=dT h
theorem wD{i:Nat}(h:ρ[i]? =some (.dat (gO arcs)))(hz:arcs.length<=64):cw [none,none,none] (DI.val (DE.nm i)) (Tg.tup [1,2]) DT.tt (cF (DE.nm 2)) ρ lx=some ((arcs.map (·.2)).map .int,lx):=by
 rw[bO]
 exact iT (enc:=bQ) (l:=arcs) (λρ=>∃a b,ρ=[.un,a,b]) (fC (aG h) rfl) rfl ⟨_,_,rfl⟩ (by exact bo) λx ρ _ ⟨a,b,hρ⟩=>by subst hρ;exact⟨[.un,.dat (.int x.1),.dat (.int x.2)],rfl,Y2 _ _ rfl,rfl⟩
theorem xj{i:Nat}(h:ρ[i]? =some (.dat (gO arcs)))(hz:arcs.length<=64):cw [none,none,none] (DI.val (DE.nm i)) (Tg.tup [1,2]) DT.tt (cF (DE.nm 1)) ρ lx=some ((arcs.map (·.1)).map .int,lx):=by
 rw[bO]
 exact iT (enc:=bQ) (l:=arcs) (λρ=>∃a b,ρ=[.un,a,b]) (fC (aG h) rfl) rfl ⟨_,_,rfl⟩ (by exact bo) λx ρ _ ⟨a,b,hρ⟩=>by subst hρ;exact⟨[.un,.dat (.int x.1),.dat (.int x.2)],rfl,Y2 _ _ rfl,rfl⟩
theorem tX{l:List Int}(h:l.length < 64):sortF [.dat (.list (l.map .int))] lx=some (.dat (.list ((gN l).map .int)),lx):=by
 show((((lX (l.map .int)).bind _):Option Va).map λv=>(v,lx))=_
 rw[im,ac,if_pos (decide_eq_true h)]
 rfl
noncomputable def GY:DS:=(DS.ite ((DT.cmp .NotEq (DE.comp (cw [none,none,none] (DI.val (DE.nm 15)) (Tg.tup [1,2]) DT.tt (cF (DE.nm 2)))) (DE.comp (cw [none,none,none] (DI.val (DE.nm 13)) (Tg.tup [1,2]) DT.tt (cF (DE.nm 2))))).or ((DT.cmp .NotEq (DE.call sortF (DL.cons (DE.comp (cw [none,none,none] (DI.val (DE.nm 15)) (Tg.tup [1,2]) DT.tt (cF (DE.nm 1)))) DL.nil))
 (DE.call sortF (DL.cons (DE.comp (cw [none,none,none] (DI.val (DE.nm 13)) (Tg.tup [1,2]) DT.tt (cF (DE.nm 1)))) DL.nil))).or DT.ff)) ((DS.ret (DE.k (.bool false))).cons DS.nil) DS.nil).cons DS.nil
theorem Ct(F:Fr n nest line free back ρ)(h:ρ[15]? =some (.dat (gO arcs)))(hz:arcs.length<=5)(hf:free.length<=5)(e1:arcs.map (·.2)=free.map (·.2))(e2:gN (arcs.map (·.1))=gN (free.map (·.1))):Rn (GY ρ lx) λo=>o.1=.nxt/\o.2=(ρ,lx):=by
 have c1:=bS (op:=.NotEq) (dN (wD (lx:=lx) h (by exact bo))) (dN (wD (lx:=lx) F.h13 (by exact bo))) (by rw[e1];exact fR (Sh.ints.mono (by decide)) rfl rfl)
 have c2:=bS (op:=.NotEq) (bM (aN (dN (xj (lx:=lx) h (by exact bo))) bl) (tX (by rw[af];exact J1 [Ql Q0 (Qn 5)] (Qs Q0 1) (Qn 64) 1 [1] Qt hz))) (bM (aN (dN (xj (lx:=lx) F.h13 (by exact bo))) bl) (tX (by rw[af];exact J1 [Ql Q0 (Qn 5)] (Qs Q0 1) (Qn 64) 1 [1] Qt hf))) (by rw[e2];exact fR (Sh.ints.mono (by decide)) rfl rfl)
 exact bZ (dQ (oU c1 (oU c2 zM)) (bv ⟨rfl,bv ⟨rfl,rfl⟩⟩))
theorem Fo(F:Fr n nest line free back ρ)(A:lS nest line free back)(k:∀ρ',Fr n nest line free back ρ'->Rn (q ρ' lx) Q):Rn (DS.cons (DS.for (DI.val (DE.list (DL.cons (DE.nm 11) (DL.cons (DE.nm 12) DL.nil)))) (Tg.nm 15) GY) q ρ lx) Q:=by
 have asg:∀{ρ:List LV} {d:D},ρ.length=34->(Tg.nm 15).asg true d ρ=some (ρ.set 15 (.dat d)):=λh=>if_pos (decide_eq_true (by exact J1 [Qe Q0 (Qn 34)] (Qs (Qn 15) 1) Q0 1 [.negSucc 0] Qt h))
 refine Hi (ds:=[gO nest,gO line]) (fC (jc (aN (aG F.h11) (aN (aG F.h12) bl)) rfl rfl) rfl) ?_
 have F1:=F.set 15 (.dat (gO nest)) rfl
 refine kO (asg F.len) ((Ct F1 (pK (by have:=F.len;exact J1 [Qe Q0 (Qn 34)] (Qs (Qn 15) 1) Q0 1 [.negSucc 0] Qt this)) A.ln A.lf A.d1 A.a1).mono λo p=>⟨p.1,?_⟩)
 rw[p.2]
 have F2:=F1.set 15 (.dat (gO line)) rfl
 refine kO (asg F1.len) ((Ct F2 (pK (by have:=F1.len;exact J1 [Qe Q0 (Qn 34)] (Qs (Qn 15) 1) Q0 1 [.negSucc 0] Qt this)) A.ll A.lf A.d2 A.a2).mono λo p=>⟨p.1,?_⟩)
 rw[p.2]
 exact vC ⟨rfl,k _ F2⟩
noncomputable def ic(l:List (Int × Int)):D:=.list ((qQ l).map .int)
noncomputable def Ij:DE:=(DE.comp (cw [none,none,none] (DI.val (DE.nm 1)) (Tg.tup [1,2]) DT.tt (cF (DE.bin .Sub (DE.nm 2) (DE.nm 1))))).sortRev
theorem J9(h:ρ[1]? =some (.dat (gO arcs)))(hz:arcs.length<=5):Ij ρ lx=some (.dat (ic arcs),lx):=by
 have hc:cw [none,none,none] (DI.val (DE.nm 1)) (Tg.tup [1,2]) DT.tt (cF (DE.bin .Sub (DE.nm 2) (DE.nm 1))) ρ lx=some ((arcs.map λa=>a.2 - a.1).map .int,lx):=by
  rw[bO]
  exact iT (enc:=bQ) (l:=arcs) (λρ=>∃a b,ρ=[.un,a,b]) (fC (aG h) rfl) rfl ⟨_,_,rfl⟩ (by exact bo) λx ρ _ ⟨a,b,hρ⟩=>by subst hρ;exact⟨[.un,.dat (.int x.1),.dat (.int x.2)],rfl,Y2 _ _ rfl,rfl⟩
 unfold Ij DE.sortRev
 rw[dN hc,ac]
 show((lX ((arcs.map λa=>a.2 - a.1).map .int)).bind _)=_
 rw[im,ac,if_pos (decide_eq_true (by rw[af];exact J1 [Ql Q0 (Qn 5)] (Qs Q0 1) (Qn 64) 1 [1] Qt hz))]
 rfl
theorem Ii(F:Fr n nest line free back ρ)(A:lS nest line free back)(k:Rn (q (ρ.set 16 (.dat (.list [ic line,ic free,ic nest]))) lx) Q):
  Rn (DS.cons (DS.comp 16 (cw [none,none,none] (DI.val (DE.list (DL.cons (DE.nm 12) (DL.cons (DE.nm 13) (DL.cons (DE.nm 11) DL.nil))))) (Tg.nm 1) DT.tt (cF Ij))) q ρ lx) Q:=by
 refine aP (nf (iT (enc:=gO) (f:=ic) (l:=[line,free,nest]) (λρ=>∃a,ρ=[.un,a,.un]) (fC (jc (aN (aG F.h12) (aN (aG F.h13) (aN (aG F.h11) bl))) rfl rfl) rfl) rfl ⟨_,rfl⟩ (ag rfl) λx ρ m ⟨a,hρ⟩=>?_) (by have:=F.len;exact J1 [Qe Q0 (Qn 34)] (Qs (Qn 16) 1) Q0 1 [.negSucc 0] Qt this)) k
 subst hρ
 refine⟨[.un,.dat (gO x),.un],rfl,⟨_,rfl⟩,J9 rfl ?_⟩
 have hl:=A.ln;have h2:=A.ll;have h3:=A.lf
 cases m with
 |head=>exact h2
 |tail _ m=>cases m with
  |head=>exact h3
  |tail _ m=>cases m with
   |head=>exact hl
   |tail _ m=>exact nomatch m
noncomputable def ww(i:Int):DE:=DE.call sumF (DL.cons (((DE.nm 16).item (DE.k (.int i))).cut DO.no (DO.of (DE.nm 9)) DO.no) DL.nil)
noncomputable def JB:DS:=(DS.ite ((DT.cmp .Gt (ww 0) (ww 1)).or ((DT.cmp .Gt (ww 1) (ww 2)).or DT.ff)) ((DS.ret (DE.k (.bool false))).cons DS.nil) DS.nil).cons DS.nil
theorem Cf{i:Nat}{j:Nat}{ds:List D}(h:ρ[16]? =some (.dat (.list ds)))(h9:ρ[9]? =some (.dat (.int j)))(hi:ds[i]? =some (ic arcs))(hz:arcs.length<=5)(hi4:i<=4):ww i ρ lx=some (.dat (.int ((qQ arcs).take j).sum),lx):=by
 have hl:(qQ arcs).length<=5:=by unfold qQ;rw[List.length_reverse,(lJ _).length_eq,af];exact hz
 have hcut:=rm (ds:=(qQ arcs).map aw) (b:=j) (by rw[af];exact bo)
 rw[<-hH]at hcut
 exact bM (aN (lL (fh (aG h) bw rfl (nL hi) (by omega)) jz (lY (aG h9)) jz rfl hcut) bl) wv
theorem JA{j:Nat}(A:lS nest line free back)(h:ρ[16]? =some (.dat (.list [ic line,ic free,ic nest])))(h9:ρ[9]? =some (.dat (.int j))):Rn (JB ρ lx) λo=>o.1=.nxt/\o.2=(ρ,lx):=by
 refine en (A.sums j) λs1 s2=>?_
 have e0:ww 0 ρ lx=_:=Cf (i:=0) h h9 rfl A.ll (by exact bH _)
 have e1:ww 1 ρ lx=_:=Cf (i:=1) h h9 rfl A.lf (by exact nR _)
 have e2:ww 2 ρ lx=_:=Cf (i:=2) h h9 rfl A.ln (by exact dK _ _)
 have g:∀{x y:Int},x<=y->gF .Gt (.dat (.int x)) (.dat (.int y))=some false:=λ{x y} h=>congrArg some (decide_eq_false (by exact Int.not_lt.mpr h):decide (y < x)=false)
 exact bZ (dQ (oU (bS e0 e1 (g s1)) (oU (bS e1 e2 (g s2)) zM)) (bv ⟨rfl,bv ⟨rfl,rfl⟩⟩))
theorem Hx(hn:n=4\/n=5)(F:Fr n nest line free back ρ)(A:lS nest line free back)(h:ρ[16]? =some (.dat (.list [ic line,ic free,ic nest])))(k:∀ρ',Fr n nest line free back ρ'->Rn (q ρ' lx) Q):
  Rn (DS.cons (DS.for (DI.range (DL.cons (DE.k (.int 1)) (DL.cons (DE.call lenF (DL.cons (DE.nm 1) DL.nil)) DL.nil))) (Tg.nm 9) JB) q ρ lx) Q:=by
 have hlen:DE.call lenF (DL.cons (DE.nm 1) DL.nil) ρ lx=some (.dat (.int n),lx):=by
  have:=lH (lx:=lx) (i:=1) (l:=(aM n).map wordD) F.h1 (by rw[af,bL];exact ah (G6 hn) (ag rfl))
  rwa [af,bL]at this
 have hr:∃l:List Nat,DI.range (DL.cons (DE.k (.int 1)) (DL.cons (DE.call lenF (DL.cons (DE.nm 1) DL.nil)) DL.nil)) ρ lx=some (true,l.map λi=>aw (i:Nat),lx):=by
  rcases hn with rfl|rfl
  ·exact⟨[1,2,3],mH (aN bw (aN hlen bl)) rfl (by decide+kernel) rfl⟩
  ·exact⟨[1,2,3,4],mH (aN bw (aN hlen bl)) rfl (by decide+kernel) rfl⟩
 obtain⟨l,hr⟩:=hr
 have hf:∀l:List Nat,dR (λ(u:Unit) (_:Nat)=>some u) () l=some ():=λl=>by
  induction l with
  |nil=>rfl
  |cons x l ih=>exact ih
 refine qx (λ(_:Unit) ρ=>Fr n nest line free back ρ/\ρ[16]? =some (.dat (.list [ic line,ic free,ic nest]))) hr (hf l) ⟨F,h⟩ ?_ λρ' p=>k ρ' p.1
 intro u x u' ρ _ ⟨F,h⟩
 have hl:=F.len
 refine⟨_,if_pos (decide_eq_true (by exact J1 [Qe Q0 (Qn 34)] (Qs (Qn 9) 1) Q0 1 [.negSucc 0] Qt hl)),(JA A (j:=x) (by rw[bU (by decide)];exact h) (pK (by exact J1 [Qe Q0 (Qn 34)] (Qs (Qn 9) 1) Q0 1 [.negSucc 0] Qt hl))).mono λo p=>⟨p.1,(congrArg Prod.snd p.2:_),?_⟩⟩
 rw[p.2]
 exact⟨F.set 9 _ rfl,by rw[bU (by decide)];exact h⟩
end
noncomputable def df(p:Int × Int):D:=.tuple [.int p.1,.int p.2]
section
variable{n:Nat}{nest line free back arcs:List (Int × Int)}{ρ:List LV}{lx:Lx}{q:DS}{Q:Fl × List LV × Lx->Prop}
theorem uX{p:Int × Int}:Sh 1 (df p):=Sh.tuple λd m=>by
 cases m with
 |head=>exact .int
 |tail _ m=>cases m with
  |head=>exact .int
  |tail _ m=>exact by cases m
theorem uk{f:DF}{g:List (Int × Int)->Int × Int}(F:Fr n nest line free back ρ)(h:∀x∈[nest,line,free,back],f [.dat (gO x)] lx=some (.dat (df (g x)),lx)):
  cw [none,none,none] (DI.val (DE.list (DL.cons (DE.nm 11) (DL.cons (DE.nm 12) (DL.cons (DE.nm 13) (DL.cons (DE.nm 14) DL.nil)))))) (Tg.nm 1) DT.tt (cF (DE.call f (DL.cons (DE.nm 1) DL.nil))) ρ lx=some ([df (g nest),df (g line),df (g free),df (g back)],lx):=
 iT (enc:=gO) (f:=λx=>df (g x)) (l:=[nest,line,free,back]) (λρ=>∃a,ρ=[.un,a,.un]) (fC (jc (aN (aG F.h11) (aN (aG F.h12) (aN (aG F.h13) (aN (aG F.h14) bl)))) rfl rfl) rfl) rfl ⟨_,rfl⟩ (ag rfl) λx ρ m ⟨a,hρ⟩=>by
  subst hρ
  exact⟨[.un,.dat (gO x),.un],rfl,⟨_,rfl⟩,bM (aN (aG rfl) bl) (h x m)⟩
theorem Ks{P:List (Int × Int)->Prop}(h1:P nest)(h2:P line)(h3:P free)(h4:P back):∀x∈[nest,line,free,back],P x:=λx m=>by
 cases m with
 |head=>exact h1
 |tail _ m=>cases m with
  |head=>exact h2
  |tail _ m=>cases m with
   |head=>exact h3
   |tail _ m=>cases m with
    |head=>exact h4
    |tail _ m=>exact by cases m
noncomputable def ub(x:List (Int × Int)):Int × Int:=(lV x).getD (0,0)
theorem vf{x:List (Int × Int)}{z:Int × Int}(hz:x.length<=5)(h:lV x=some z):fPassed [.dat (gO x)] lx=some (.dat (df (ub x)),lx):=by
 have:ub x=z:=by unfold ub;rw[h];rfl
 rw[this]
 exact AS hz h
theorem vg{x:List (Int × Int)}(hz:x.length<=5):fPairs [.dat (gO x)] lx=some (.dat (df (kb x)),lx):=CM (by exact bo)
noncomputable def Lc:DS:=DS.comp 17 (cw [none,none,none] (DI.val (DE.list (DL.cons (DE.nm 11) (DL.cons (DE.nm 12) (DL.cons (DE.nm 13) (DL.cons (DE.nm 14) DL.nil)))))) (Tg.nm 1) DT.tt (cF (DE.call fPassed (DL.cons (DE.nm 1) DL.nil))))
noncomputable def Kh:DT:=(DT.cmp .NotEq ((DE.nm 17).item (DE.k (.int 0))) (DE.tupX (DL.cons (DE.call sumF (DL.cons ((DE.nm 17).item (DE.k (.int 2))) DL.nil)) (DL.cons (DE.k (.int 0)) DL.nil)))).or ((DT.cmp .NotEq ((DE.nm 17).item (DE.k (.int 1))) (DE.tupX (DL.cons (DE.k (.int 0)) (DL.cons (DE.call sumF (DL.cons ((DE.nm 17).item (DE.k (.int 2))) DL.nil)) DL.nil)))).or
 ((DT.cmp .NotEq ((DE.nm 17).item (DE.k (.int 3))) (((DE.nm 17).item (DE.k (.int 2))).cut DO.no DO.no (DO.of (DE.k (.int 1)).neg))).or DT.ff))
theorem Kg{a b:Int}(h:ρ[17]? =some (.dat (.list [df (a+b,0),df (0,a+b),df (a,b),df (b,a)]))):Kh ρ lx=some (false,lx):=by
 have it:∀(i:Nat) {d:D},[df (a+b,0),df (0,a+b),df (a,b),df (b,a)][i]? =some d->i<=4->DE.item (DE.nm 17) (DE.k (.int (i:Int))) ρ lx=some (.dat d,lx):=λi d e hi=>fh (aG h) bw rfl (nL e) (by omega)
 have i0:DE.item (DE.nm 17) (DE.k (.int 0)) ρ lx=_:=it 0 rfl (by exact bH _)
 have i1:DE.item (DE.nm 17) (DE.k (.int 1)) ρ lx=_:=it 1 rfl (by exact nR _)
 have i2:DE.item (DE.nm 17) (DE.k (.int 2)) ρ lx=_:=it 2 rfl (by exact dK _ _)
 have i3:DE.item (DE.nm 17) (DE.k (.int 3)) ρ lx=_:=it 3 rfl (by exact dK _ _)
 have hs:sumF [.dat (df (a,b))] lx=some (.dat (.int (a+b)),lx):=by
  show some (Va.dat (.int ([a,b].sum)),lx)=_
  rw[show [a,b].sum=a+b by simp]
 have hsum:=bM (aN i2 bl) hs
 have sp:∀x y:Int,Sh 8 (df (x,y)):=λx y=>uX.mono (by decide)
 have c1:=bS (op:=.NotEq) i0 (pH (aN hsum (aN (bw (d:=.int 0)) bl)) rfl rfl) (fR (sp (a+b) 0) rfl rfl)
 have c2:=bS (op:=.NotEq) i1 (pH (aN (bw (d:=.int 0)) (aN hsum bl)) rfl rfl) (fR (sp 0 (a+b)) rfl rfl)
 have hcut:DE.cut ((DE.nm 17).item (DE.k (.int 2))) DO.no DO.no (DO.of (DE.k (.int 1)).neg) ρ lx=some (.dat (df (b,a)),lx):=lL i2 jz jz (lY (mL bw)) rfl rfl
 have c3:=bS (op:=.NotEq) i3 hcut (fR (sp b a) rfl rfl)
 exact oU c1 (oU c2 (oU c3 zM))
theorem ID(F:Fr n nest line free back ρ)(A:lS nest line free back)
  (k:∀ρ',Fr n nest line free back ρ'->Rn (q ρ' lx) Q):
  Rn (DS.cons Lc (DS.cons (DS.ite Kh ((DS.ret (DE.k (.bool false))).cons DS.nil) DS.nil) (DS.cons (DS.ite (DT.cmp .NotEq (DE.nm 17) (DE.comp (cw [none,none,none] (DI.val (DE.list (DL.cons (DE.nm 11) (DL.cons (DE.nm 12) (DL.cons (DE.nm 13) (DL.cons (DE.nm 14) DL.nil)))))) (Tg.nm 1) DT.tt (cF (DE.call fPairs (DL.cons (DE.nm 1) DL.nil)))))) ((DS.ret (DE.k (.bool false))).cons DS.nil) DS.nil) q)) ρ lx) Q:=by
 refine LM A.cnt λa b p0 p1 p2 p3 c0 c1 c2 c3=>?_
 have hl:=F.len
 have h1:=uk (lx:=lx) (f:=fPassed) (g:=ub) F (Ks (vf A.ln p0) (vf A.ll p1) (vf A.lf p2) (vf A.lb p3))
 have e:∀{x:List (Int × Int)} {z:Int × Int},lV x=some z->ub x=z:=λh=>by unfold ub;rw[h];rfl
 rw[e p0,e p1,e p2,e p3]at h1
 refine aP (nf h1 (by exact J1 [Qe Q0 (Qn 34)] (Qs (Qn 17) 1) Q0 1 [.negSucc 0] Qt hl)) ?_
 have F1:=F.set 17 (.dat (.list [df (a+b,0),df (0,a+b),df (a,b),df (b,a)])) rfl
 have h17:(ρ.set 17 (.dat (.list [df (a+b,0),df (0,a+b),df (a,b),df (b,a)])))[17]? =_:=pK (by exact J1 [Qe Q0 (Qn 34)] (Qs (Qn 17) 1) Q0 1 [.negSucc 0] Qt hl)
 refine bZ (dQ (Kg h17) (bv ⟨rfl,?_⟩))
 have h2:=uk (lx:=lx) (f:=fPairs) (g:=kb) F1 (Ks (vg A.ln) (vg A.ll) (vg A.lf) (vg A.lb))
 rw[c0,c1,c2,c3]at h2
 have hsh:Sh 8 (.list [df (a+b,0),df (0,a+b),df (a,b),df (b,a)]):=(uY (k:=1) (f:=df) (l:=[(a+b,0),(0,a+b),(a,b),(b,a)]) λ_ _=>uX).mono (by decide)
 exact bZ (dQ (bS (aG h17) (dN h2) (fR hsh rfl rfl)) (bv ⟨rfl,k _ F1⟩))
theorem CQ{z:List (List Int)}(h:ud arcs=some z):z.length<=64/\∀r∈z,r.length<=64:=by
 unfold ud at h
 refine en (cb h) λg h=>?_
 obtain⟨qs,e,rfl⟩:=tB h
 have g5:=ag (kf (kf g).2).2
 have hd:∀k,(iS k).length<=k:=by
  intro k
  induction k with
  |zero=>exact ai _
  |succ k ih=>
   unfold iS
   split
   ·exact bH _
   ·exact cQ ih
 have hd:=hd (2 * arcs.length)
 refine⟨by rw[af];exact J2 [Ql Q0 (Qm 2 Q1),Ql Q1 (Qn 5)] Q0 (Qn 64) 1 [1,2] Qt hd g5,λr m=>?_⟩
 obtain⟨p,hX⟩:=List.mem_map.mp m;obtain rfl:=hX.2
 have:=tY e
 have h2:=bP (λa:Int × Int=>m7 a.1 p&&!m7 a.2 p) qs
 unfold pQ
 rw[af]
 exact J3 [Qe Q1 Q2,Ql Q2 (Qn 5),Ql Q0 Q1] Q0 (Qn 64) 1 [1,1,1] Qt this g5 h2
noncomputable def qO(r:List Int):D:=.list (r.map .int)
theorem vi{cs:List (Option Nat)}{ρc:List LV}{elt:DE}{g:List Int->Int × Int}{ov:List (List Int)}(h18:ρ[18]? =some (.dat (.list (ov.map qO))))(hz:ov.length<=64)(hc:ox cs ρ=some (.un:: .un::ρc))(h:∀r∈ov,elt (.un:: .dat (qO r)::ρc) lx=some (.dat (df (g r)),lx)):
  cw cs (DI.val (DE.nm 18)) (Tg.nm 1) DT.tt (cF elt) ρ lx=some ((ov.map g).map bQ,lx):=by
 rw[bO]
 exact iT (enc:=qO) (f:=λr=>df (g r)) (l:=ov) (λρ=>∃a,ρ=.un::a::ρc) (fC (aG h18) rfl) hc ⟨_,rfl⟩ (by exact bo) λr ρ m ⟨a,hρ⟩=>by
  subst hρ
  have ha:(Tg.nm 1).asg true (qO r) (.un::a::ρc)=some (.un:: .dat (qO r)::ρc):=by
   show(if decide (1 < (LV.un::a::ρc).length)=true then some ((LV.un::a::ρc).set 1 (wY true (qO r)))else none)=_
   rw[if_pos (decide_eq_true (by rw[aT,aT];exact dK _ _))]
   rfl
  exact⟨_,ha,⟨_,rfl⟩,h r m⟩
theorem C7{r:List Int}(hz:r.length<=64):fLongest [.dat (qO r)] lx=some (.dat (.int (oX r)),lx):=by
 rw[C8]
 exact yy hz
theorem JY{r:List Int}(hz:r.length<=64):lenF [.dat (qO r)] lx=some (.dat (.int r.length),lx):=by
 have h4:(64:Nat)<=sizeLine:=by decide
 show((if decide ((r.map aw).length<=sizeLine)=true then some (Va.dat (aw ((r.map aw).length:Nat)))else none).map λv=>(v,lx))=_
 rw[if_pos (decide_eq_true (by rw[af];exact bo)),af]
 rfl
theorem JT{r:List Int}:minF [.dat (.int 1),.dat (.int r.length)] lx=some (.dat (.int (if m7 r.length 1=true then(r.length:Int)else 1)),lx):=by
 show some (Va.dat (aw (if(r.length:Int) < 1 then(r.length:Int)else 1)),lx)=_
 rw[ft]
 by_cases h:(r.length:Int) < 1
 ·rw[decide_eq_true h,if_pos h,if_pos rfl]
 ·rw[decide_eq_false h,if_neg h,if_neg (by decide)]
theorem uZ{z:List (Int × Int)}:Sh 8 (.list (z.map bQ)):=(uY (k:=1) (f:=bQ) λ_ _=>uX).mono (by decide)
noncomputable def Ha:DE:=DE.tupX (DL.cons (DE.call fLongest (DL.cons (DE.comp (cw [none,none] (DI.val (DE.nm 1)) (Tg.nm 1) DT.tt (cF (DE.nm 1).neg))) DL.nil)) (DL.cons (DE.call fLongest (DL.cons (DE.nm 1) DL.nil)) DL.nil))
theorem H6{r:List Int}(h:ρ[1]? =some (.dat (qO r)))(hz:r.length<=64):Ha ρ lx=some (.dat (df (oX (r.map λx=> -x),oX r)),lx):=by
 have hc:cw [none,none] (DI.val (DE.nm 1)) (Tg.nm 1) DT.tt (cF (DE.nm 1).neg) ρ lx=some ((r.map λx=> -x).map .int,lx):=by
  rw[bO]
  exact iT (enc:=aw) (l:=r) (λρ=>∃a,ρ=[.un,a]) (fC (aG h) rfl) rfl ⟨_,rfl⟩ (by exact bo) λx ρ _ ⟨a,hρ⟩=>by subst hρ;exact⟨[.un,.dat (.int x)],rfl,⟨_,rfl⟩,mL (aG rfl)⟩
 exact pH (aN (bM (aN (dN hc) bl) (C7 (by rw[af];exact hz))) (aN (bM (aN (aG h) bl) (C7 hz)) bl)) rfl rfl
noncomputable def A1:DE:=DE.call lenF (DL.cons (DE.nm 1) DL.nil)
noncomputable def C1:DE:=DE.call minF (DL.cons (DE.k (.int 1)) (DL.cons A1 DL.nil))
theorem zx{r:List Int}(h:ρ[1]? =some (.dat (qO r)))(hz:r.length<=64):A1 ρ lx=some (.dat (.int r.length),lx)/\C1 ρ lx=some (.dat (.int (if m7 r.length 1=true then(r.length:Int)else 1)),lx):=by
 have h1:=bM (aN (aG (lx:=lx) h) bl) (JY hz)
 exact⟨h1,bM (aN bw (aN h1 bl)) JT⟩
theorem Iw(F:Fr n nest line free back ρ)(A:lS nest line free back):
  Rn (DS.cons (DS.asg 18 (DE.call fOver (DL.cons (DE.nm 13) DL.nil)))
   (DS.cons (DS.ite (DT.cmp .NotEq (DE.call fTables (DL.cons (DE.nm 13) DL.nil)) (DE.comp (cw [none,none,none] (DI.val (DE.nm 18)) (Tg.nm 1) DT.tt (cF Ha)))) ((DS.ret (DE.k (.bool false))).cons DS.nil) DS.nil)
   (DS.cons (DS.ite (DT.cmp .NotEq (DE.call fTables (DL.cons (DE.nm 11) DL.nil)) (DE.comp (cw [none,none,none,none] (DI.val (DE.nm 18)) (Tg.nm 1) DT.tt (cF (DE.tupX (DL.cons A1 (DL.cons C1 DL.nil))))))) ((DS.ret (DE.k (.bool false))).cons DS.nil) DS.nil)
   (DS.cons (DS.ret (DE.ofT (DT.cmp .Eq (DE.call fTables (DL.cons (DE.nm 12) DL.nil)) (DE.comp (cw [none,none,none,none] (DI.val (DE.nm 18)) (Tg.nm 1) DT.tt (cF (DE.tupX (DL.cons C1 (DL.cons A1 DL.nil))))))))) DS.nil))) ρ lx) λo=>o.1=.ret (.dat (.bool true)):=by
 refine KA A.tabs λov o1 t1 t2 t3=>?_
 refine en (CQ o1) λz1 z2=>?_
 have hl:=F.len
 refine aP (jB (bM (aN (aG F.h13) bl) (FC o1)) (by exact J1 [Qe Q0 (Qn 34)] (Qs (Qn 18) 1) Q0 1 [.negSucc 0] Qt hl)) ?_
 have F1:=F.set 18 (.dat (.list (ov.map qO))) rfl
 have h18:(ρ.set 18 (.dat (.list (ov.map qO))))[18]? =_:=pK (by exact J1 [Qe Q0 (Qn 34)] (Qs (Qn 18) 1) Q0 1 [.negSucc 0] Qt hl)
 have c1:=vi (lx:=lx) (cs:=[none,none,none]) (ρc:=[.un]) (g:=λr=>(oX (r.map λx=> -x),oX r)) h18 z1 rfl λr m=>H6 rfl (z2 r m)
 have c2:=vi (lx:=lx) (cs:=[none,none,none,none]) (ρc:=[.un,.un]) (elt:=DE.tupX (DL.cons A1 (DL.cons C1 DL.nil))) (g:=λr=>((r.length:Int),if m7 r.length 1=true then(r.length:Int)else 1)) h18 z1 rfl λr m=>pH (aN (zx rfl (z2 r m)).1 (aN (zx rfl (z2 r m)).2 bl)) rfl rfl
 have c3:=vi (lx:=lx) (cs:=[none,none,none,none]) (ρc:=[.un,.un]) (elt:=DE.tupX (DL.cons C1 (DL.cons A1 DL.nil))) (g:=λr=>(if m7 r.length 1=true then(r.length:Int)else 1,(r.length:Int))) h18 z1 rfl λr m=>pH (aN (zx rfl (z2 r m)).2 (aN (zx rfl (z2 r m)).1 bl)) rfl rfl
 refine bZ (dQ (bS (bM (aN (aG F1.h13) bl) (pJ A.lf t1)) (dN c1) (fR uZ rfl rfl)) (bv ⟨rfl,?_⟩))
 refine bZ (dQ (bS (bM (aN (aG F1.h11) bl) (pJ A.ln t2)) (dN c2) (fR uZ rfl rfl)) (bv ⟨rfl,?_⟩))
 exact kF (CV (bS (bM (aN (aG F1.h12) bl) (pJ A.ll t3)) (dN c3) (zP uZ rfl rfl))) rfl
end
section
variable{ρ:List LV}{lx:Lx}{codes:List Nat}{n:Nat}{A:cH}{q:DS}{Q:Fl × List LV × Lx->Prop}
theorem BW(h2:ρ[2]? =some (.dat (.list (codes.map cellsD))))(hz:codes.length<=64)(hl:7 < ρ.length)(k:Rn (q (ρ.set 7 (.own ((dg codes).map il))) lx) Q):
  Rn (DS.cons (DS.compO 7 (cw [none,none,none] (DI.val (DE.nm 2)) (Tg.nm 1) DT.tt (o9 (DI.val (DE.nm 1)) (Tg.nm 2) ((DT.cmp .NotEq ((DE.nm 2).item (DE.k (.int 0))) (DE.k (.str (ad "\"")))).and DT.tt) (DE.nm 2)))) q ρ lx) Q:=by
 refine aP ?_ k
 unfold DS.compO
 rw[if_pos (decide_eq_true hl),ya h2 hz];rfl
theorem GG(h7:ρ[7]? =some (.own ((dg codes).map il)))(hz:codes.length<=64)(k:Rn (q (ρ.set 7 (.own ((dd codes).map il))) lx) Q):
  Rn (DS.cons (DS.app 7 (DM.of (DE.k (.str (ad "\\"))))) q ρ lx) Q:=by
 have hu:=(jp (codes:=codes)).2
 have e:(dd codes).map il=(dg codes).map il++[.str (S [92])]:=by unfold dd;rw[aQ];rfl
 rw[e]at k
 rw[xA]
 exact aP (mX h7 (tA bw) h7 (by rw[af];exact J2 [Ql Q0 (Qm 3 Q1),Ql Q1 (Qn 64)] Q0 (Qn 4096) 1 [1,3] Qt hu hz)) k
theorem Fv(h7:ρ[7]? =some (.own ((dg codes).map il)))(hz:codes.length<=64)(hl:8 < ρ.length)(k:Rn (q (ρ.set 8 (.dat (.str (S (dg codes).flatten)))) lx) Q):
  Rn (DS.cons (DS.asg 8 (DE.join (DE.k (.str (ad ""))) (DE.nm 7))) q ρ lx) Q:=by
 have hu:=(jp (codes:=codes)).1
 exact aP (jB (jd (l:=dg codes) (r7 h7 rfl) rfl (by exact J2 [Ql Q1 (Qn 64),Ql Q0 (Qm 8 Q1)] Q0 (Qn 8192) 1 [8,1] Qt hz hu)) hl) k
theorem Df{is:List It}{picks:List Int}{nest line free back:List (Int × Int)}{sc:D}(hn:n=4\/n=5)(hi:is.length<=20)(hc:codes=is.map λi=>i.2.2)(ho:dq codes=true)
  (e1:wX n codes=some nest)(e2:wZ n codes=some line)(e3:qS n false picks codes=some free)(e4:qS n true picks codes=some back)(a:lS nest line free back):
  Rn (DK.val [.dat sc,.dat (cr n),.dat (.list (codes.map cellsD)),.dat (.list (picks.map .int)),.dat (.str (S (f7 is))),.lex,.un,.un,.un,.un,.un,.un,.un,.un,.un,.un,.un,.un,.un,.un,.un,.un,.un,.un,.un,.un,.un,.un,.un,.un,.un,.un,.un,.un] (some (A,⟨[],sg (f7 is++[122]),1⟩))) λo=>o.1=.ret (.dat (.bool true)):=by
 have hz:codes.length<=20:=by rw[hc,af];exact hi
 have hw:is.map (λi=>wordD i.2.2)=codes.map wordD:=by rw[hc,bO];rfl
 have hV:(dd codes).length<=64:=by
  have:=(jp (codes:=codes)).2
  unfold dd
  rw[au]
  show _+1<=_
  exact J2 [Ql Q1 (Qn 20),Ql Q0 (Qm 3 Q1)] (Qs Q0 1) (Qn 64) 1 [3,1] Qt hz this
 have hV2:(dd codes).flatten.length<=4096:=by
  have:=(jp (codes:=codes)).1
  unfold dd
  rw[cz,au]
  show _+1<=_
  exact J2 [Ql Q1 (Qn 20),Ql Q0 (Qm 8 Q1)] (Qs Q0 1) (Qn 4096) 1 [8,1] Qt hz this
 unfold DK
 dsimp only
 refine E3 (is:=is) rfl rfl (by rw[hc,af,af]) (by exact bo) (ag rfl) λp l hp hok hnl=>?_
 rw[hw]
 refine AE (codes:=codes) rfl rfl (by exact bo) ?_
 refine BW (codes:=codes) rfl (by exact bo) (ag rfl) ?_
 refine Fv (codes:=codes) rfl (by exact bo) (ag rfl) ?_
 refine yg (codes:=codes) rfl rfl (by exact bo) ?_
 refine GG (codes:=codes) rfl (by exact bo) ?_
 refine aP (nf (yA (V:=dd codes) rfl hV hV2) (ag rfl)) ?_
 refine DU (codes:=codes) rfl rfl rfl hz ?_
 refine aP (eC (bM (aN (aG rfl) (aN (aG rfl) bl)) (FF hn ho (by exact bo) e1)) rfl) ?_
 refine aP (eC (bM (aN (aG rfl) (aN (aG rfl) (aN (r7 rfl rfl) bl))) (FL hn hok.okR ho (by exact bo) e2)) rfl) ?_
 refine A3 (t:=f7 is) rfl rfl hp hok hnl ?_
 refine aP (eC (bM (aN (aG rfl) (aN (aG rfl) (aN (aG rfl) (aN bw bl)))) (uB (picks:=picks) hn e3)) rfl) ?_
 refine aP (eC (bM (aN (aG rfl) (aN (aG rfl) (aN (aG rfl) (aN bw bl)))) (uB (picks:=picks) hn e4)) rfl) ?_
 refine Fo (n:=n) (nest:=nest) (line:=line) (free:=free) (back:=back) ⟨rfl,rfl,rfl,rfl,rfl,rfl⟩ a λρ F=>?_
 refine Ii F a ?_
 have F1:=F.set 16 (.dat (.list [ic line,ic free,ic nest])) rfl
 refine Hx hn F1 a (pK (by have:=F.len;exact J1 [Qe Q0 (Qn 34)] (Qs (Qn 16) 1) Q0 1 [.negSucc 0] Qt this)) λρ F=>?_
 exact ID F a λρ F=>Iw F a
end
theorem FH:(aE 21).names.length=34:=by decide+kernel
theorem law_plain{is:List Int}(hs:is.length<=63):y9 is:=by
 have hn:4+is.length % 2=4\/4+is.length % 2=5:=by exact KN _
 refine nG λkG=>?_;obtain⟨s,its,nest,line,free,back,hX⟩:=Bg hn (oF is (4+is.length % 2));refine kG ?_;refine(λe hl hc ht ho hp e1 e2 e3 e4 a=>?_) hX.1 hX.2.1 hX.2.2.1 hX.2.2.2.1 hX.2.2.2.2.1 hX.2.2.2.2.2.1 hX.2.2.2.2.2.2.1 hX.2.2.2.2.2.2.2.1 hX.2.2.2.2.2.2.2.2.1 hX.2.2.2.2.2.2.2.2.2.1 hX.2.2.2.2.2.2.2.2.2.2
 have hil:its.length<=20:=hl▸ah (gJ 2 (G6 (KN _))) (ag rfl)
 have hcl:s.codes.length<=20:=by rw[hc,af];exact hil
 have hd:=D8 (lx:=none) (s:=s) hs e (by exact bo)
 have htl:=o8 its
 refine⟨[.dat (.list (is.map .int)),.dat (cr (4+is.length % 2)),.dat (.list (s.codes.map cellsD)),.dat (.list (s.picks.map .int)),.dat (.str (S s.text)),.un,.un,.un,.un,.un,.un,.un,.un,.un,.un,.un,.un,.un,.un,.un,.un,.un,.un,.un,.un,.un,.un,.un,.un,.un,.un,.un,.un,.un],S s.text,?_,rfl,⟨_,rfl⟩,?_,λA=>?_⟩
 ·unfold DB o0
  dsimp only
  rw[FH]
  unfold DS.asgT
  rw[bM (aN (aG (d:=.list (is.map .int)) rfl) bl) hd]
  rfl
 ·show s.text.length+1<=_
  rw[ht]
  exact J2 [Ql Q0 (Qm 19 Q1),Ql Q1 (Qn 20)] (Qs Q0 1) (Qn 4096) 1 [1,19] Qt htl hil
 ·have hx:iB (S s.text++ad "z")=sg (f7 its++[122]):=by
   rw[HT.2,t7,ht]
   rfl
  refine nG λkG=>?_;obtain⟨⟨f,ρ',l⟩,eq,rfl⟩:=(Df (A:=A) (sc:=.list (is.map .int)) hn (by exact hil) hc ho e1 e2 e3 e4 a).eq
  refine kG ?_
  refine Y2 ρ' l ?_
  rw[hx,ht]
  exact eq
end Mine
set_option maxRecDepth 100000 in
theorem PySem.Challenge.cw_sc0051_01_holds : PySem.Challenge.rw_sc0051_01.Holds :=
  Mine.law_holds fun _ h => Mine.law_plain h
