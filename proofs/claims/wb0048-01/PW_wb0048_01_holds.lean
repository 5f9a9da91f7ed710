import PyProof.Rows.All
import Wide.All
import OpenK.AllK
import Wide.FinOn
import KE.KNestM
import Lean
import PySem.Challenge.RW_wb0048_01
set_option Elab.async false
set_option linter.all false
set_option autoImplicit true
set_option genInjectivity false
set_option genSizeOf false
set_option genSizeOfSpec false
set_option genCtorIdx false
set_option bootstrap.genMatcherCode false
set_option maxRecDepth 100000
set_option maxHeartbeats 0
set_option tactic.hygienic false
open Array renaming mk->bY,getD_eq_getD_getElem?->b5,length_toList->cx,getElem?_eq_getElem->fB,toArray_toList->fF,ext'->iM,toList_append->jH,getElem?_toList->m4,size_eq_zero_iff->xr,getElem?_mapIdx->xw,mem_of_getElem?->xB,toList_extract->yJ,mem_toList_iff->yQ,size_append->Ca
open Array.Perm renaming refl->yS
open Bool renaming false->af,true->ah,false_ne_true->bP,and_eq_true->h_,not_eq_true'->i6,false_eq_true->pG,or_eq_true->ta,and_false->uG,or_false->vY,eq_false_iff->G8,false_and->Ni,not_false->Np,not_true->Q9
open Except renaming ok->fy
open Except.error renaming inj->nP
open Except.ok renaming inj->cA
open ForInStep renaming yield->qB
open Int renaming le_refl->aN,natCast_nonneg->aS,le_antisymm->bg,le_trans->bk,ofNat->bp,toNat_natCast->bq,toNat_of_nonneg->bC,le_of_eq->b0,not_lt->b_,le_of_lt->cp,eq_ofNat_of_zero_le->dI,lt_of_lt_of_le->dK,fmod_nonneg_of_pos->eb,self_le_toNat->eS,not_le->eW,ofNat_lt->e_,ofNat_le->fI,fmod_lt_of_pos->gv,min_le_right->iq,min_le_left->iP,one_mul->iY,toNat->iZ,zero_add->jd,le_max_right->jx,le_max_left->j0,add_zero->j7,mul_add->k_,ble'_eq_true->l5,ble'->oh,lt_of_le_of_lt->qz,zero_mul->q_,lt_or_le->rh,min_eq_right->sZ,neg_mul->s_,lt_succ->td,max_eq_left->t7,min_eq_left->t8,mul_nonneg->vB,fdiv_eq_ediv_of_nonneg->vF,fmod_eq_emod_of_nonneg->vI,lt_trans->yL,sub_nonpos_of_le->BQ,fmod->BS,neg_lt_neg_iff->G_,lt_or_eq_of_le->Ha,toNat_add_nat->Hr,max_eq_right->Lm,mul_le_mul->Q5,fdiv->Q6,add_assoc->RE
open Int.ofNat renaming inj->Ce
open List renaming mem_append_right->aq,not_mem_nil->ax,mem_singleton->ay,append_nil->aA,mem_of_getElem?->aB,drop->aC,mem_cons->aF,mem_append_left->aI,getElem?_eq_getElem->aJ,mem_map_of_mem->aK,length_map->aM,mem_append->aO,map_append->aU,getElem?_of_mem->aZ,sublist_append_left->a9,mem_map->ba,append_assoc->bb,length_append->bh,map_cons->bu,getElem?_eq_some_iff->bz,pairwise_cons->bA,perm_append_comm->bD,nodup_append->bH,nodup_cons->bM,size_toArray->b6,take->cj,map->cF,nil_sublist->cH,getD_eq_getElem?_getD->cL,getElem?_eq_none->cY,mem_filter->c_,getElem?_append_right->de,pairwise_append->dt,forall_mem_cons->dJ,sublist_append_right->dQ,getElem?_map->d9,getElem?_toArray->eC,take_append_drop->eD,length_take->eG,length_cons->eH,range->eI,map_congr_left->eZ,Sublist->e6,length_filter_le->fq,map_map->fG,take_length->fY,cons_append->fZ,drop_drop->f3,pairwise_singleton->f5,mem_cons_self->gj,prefix_append->gm,sum_cons->gC,pairwise_map->gQ,nodup_nil->g9,mem_range->hG,isPrefixOf_iff_prefix->hH,getElem_mem->ib,getElem?_append_left->ip,mem_of_find?_eq_some->iu,filter_append->iQ,filter_cons_of_neg->iX,singleton_sublist->i7,take_add_one->i8,length_singleton->jl,mem_flatten->jn,mem_reverse->jo,getElem?_range->jY,perm_iff_count->jZ,find?_eq_none->ku,getElem?_drop->ky,pairwise_iff_getElem->kO,count_append->k5,flatten_cons->k7,reverse_cons->k8,idxOf_lt_length_iff->lh,mem_toArray->lU,append_inj'->lV,mem_flatMap->lW,prefix_refl->lX,getElem_map->lY,filter_cons_of_pos->lZ,find?_cons->m1,nil_append->m3,find?_some->m5,cons_lt_cons_iff->nj,sublist_cons_iff->nk,drop_zero->nM,length->nN,reverse_reverse->nQ,flatMap_append->oy,length_reverse->oz,map_eq_nil_iff->oB,take_nil->pD,length_range->qU,length_drop->rN,any_eq_true->rO,all_eq_true->rQ,foldl_cons->tf,perm_append_comm_assoc->t_,extract_eq_take_drop->vE,length_erase_of_mem->vU,length_eq_zero_iff->xt,take_of_length_le->xx,length_pos_of_mem->xy,sublist_cons_self->xA,filter_eq_nil_iff->xD,sizeOf_lt_of_mem->yW,mem_cons_of_mem->Ax,mem_erase_of_ne->Ay,filter_eq_self->BW,filterMap_cons->BX,append_of_mem->Cd,filterMap_map->Cf,idxOf->Cg,getElem_idxOf->Ci,getElem_inj->Hl,cons->Hm,range'_succ->Ho,perm_middle->Hu,map_reverse->Hv,filter_cons->Hw,forIn_cons->Ll,sum_append->Lu,filter_nil->Lw,forIn_nil->Ng,drop_left->Nk,take_left->Nl,map_take->Q_,range'->Vm,map_id->Vq,foldl->Wb
open List.Nodup renaming sublist->vZ
open List.Pairwise renaming filter->s7,imp_of_mem->Vo
open List.Sublist renaming refl->ni,append->t6,cons->We,cons_cons->Wf
open Nat renaming le_trans->ai,sub_add_cancel->aH,le_antisymm->a7,le_refl->bt,zero_le->bJ,succ_le_succ->bW,le_add_right->bX,lt_of_succ_lt_succ->b8,le_of_ble_eq_true->cu,lt_of_le_of_lt->cM,zero_add->cN,not_lt_zero->cQ,le_of_eq->cR,add_le_add_left->cZ,lt_or_eq_of_le->dy,lt_succ_self->dM,lt_of_lt_of_le->d5,min_le_right->fh,not_lt->fp,le_succ_of_le->fL,eq_of_testBit_eq->fM,lt_irrefl->fS,add_assoc->gG,beq->gR,lt_succ_of_lt->gU,le_of_lt_succ->gW,lt_trans->ik,add_comm->il,toDigits->ir,testBit_zero->iw,sub_le->iW,testBit_succ->jy,lt_succ_of_le->lg,lt_or_ge->m2,eq_of_beq_eq_true->ny,le_succ->om,testBit_two_pow->pE,add_right_comm->qu,rec->q9,ne_of_lt->q',ne_of_gt->rf,pow_succ->rg,succ_ne_zero->s8,zero_testBit->s9,min_eq_left->tX,mod_lt->vH,ge_two_pow_of_testBit->vV,blt->yG,le_of_lt->yI,sub_zero->yK,sub_self->yN,add_zero->yU,pow_le_pow_right->BU,succ_lt_succ_iff->BY,add_lt_add_left->Cj,not_le->G6,add_sub_cancel->G7,le_of_succ_le->Hq,min_le_left->M',zero_lt_one->Nj,div_le_self->Nm,testBit_and->Nn,le_add_left->Nq,testBit_or->Q8,succ_mul->Vk,pow_zero->Vr,succ_pos->Vu,log2_lt->V9,div_one->Wh
open Nat.succ renaming inj->ov
open Option renaming some->ab,none->az,map_eq_some_iff->lS,map_some->GZ
open Option.some renaming inj->bw
open PUnit renaming unit->tZ
open Prod renaming snd->eY
open Prod.mk renaming inj->qT
open PyProof.Rows renaming seqObj->fV,listUpdate_at->rS,arrOf->Ly,ksk_tail->Lz,oneType'->LC,IntsAre->RI,entry_list_sort->Wj,eqBool_str->Wk,slot_list_sort->Zc,ksk_tree->Zd
open PyProof.Rows.SortSt renaming mk'->RJ
open PyProof.V.Flat renaming int->ti,str->tj
open PySem renaming Value->aa,Addr->ae,DictEntry->aj,wpOwn_bind->au,wpAny_bind->aw,Shared->aD,entryFor_of_tree->aL,wpOwn_mono->aQ,Str->aR,Code->aT,model->aW,Tok->aX,wpOwn->a_,wpAny_pure->bc,codeAny->bx,wpAny_standAt->bI,Expr->bO,wpAny->bV,valueAt->cy,Builtin->cK,World->cP,eval->dh,sizeLine_eq->di,codeAny_mono->dj,Result->dq,Around->dx,Obj->dR,execs->dU,wpAny_field->dW,Program->d7,Stmt->ea,FuncData->eL,isTrue->eP,standAt->eR,entryFor->fg,compareOp->fA,codeAny_of_own->fD,Env->fJ,holding->gh,wpAny_call_entry->gs,wpAny_setField->gu,execs_cons->gP,letOwnedTupleGo->gZ,strValues->g_,wpAny_holding->hD,table->h8,wpAny_pyIter_slot->h9,wpAny_newObj_type->ia,assign->iC,wpOwn_of_wpAny->iD,wpAny_mono->iE,plainId->iL,behindInMarks->i3,stored->jX,Comprehension->j3,leaving->j4,compTurn->j9,rawInt->kK,seqIndex?->lb,wpAny_rule->lM,sizeLine->lN,wpAny_of_eq->l8,wpAny_dictEntries->l9,Params->mY,Sem->nh,recursionLimit->qr,pyNext->qt,field->qw,Model->qx,wpAny_seqItems->qy,markedBehindIn->qA,spliced->qR,ExceptHandler->rL,Gives->rM,plainId_quiet->rP,merged->sY,mergeMapping->tY,allTrue->t9,denote->vC,slicePick->vG,unsupported->vT,cLine->yH,wpAny_listPart->yM,markedEach->yO,evalEach->yP,wpAny_letOwnedTupleGo_enum->yR,wpAny_call->yT,findBy->yV,Pos->Aw,Flow->BR,wpAny_newList->BZ,Scope->B_,noteFrame->B',wpAny_listSubscript_int->Cb,meets_dict_get_default->G0,dictPut->G1,boolOp->G2,isSame->G5,handleBy->Lh,newTuple->Li,wpAny_point->Lj,wpAny_mkStr->Ln,callWith->Lo,interactive->Lr,sliceBounds->Lv,wpAny_len_body_list->M_,meets_str_join_list->Na,wpAny_dictSet_pairs->Nc,any_of_findIdx_some->Nd,meets_enumerate_new->Nh,slot_listiter_iter->Q2,Heap->Q3,sysModules->Q7,foldedSetIterable->RF,slicePick_size_le->RG,wpAny_enterFrame->Vf,compStart->Vg,treeTable->Vh,Data->Vi,updateSeq->Vj,wpAny_forIn_list->Vl,swapsWith->Vs,dropValue->Vt,codeAny_of_tree->V7,importedModules->V8,wpAny_updateSeq->V_,wpAny_specialOf->V',wpAny_dictEpoch->Wc,theTreesLotGoes->Wg,newFunctionEnv->Y3,pyIter->Y4,pushEnvs->Y5,withoutEnding?->Y8,raiseNew->Y9,wpAny_newTuple->Za
open PySem.Arg renaming mk->G9
open PySem.Arguments renaming mk->k9
open PySem.AutoIntG6 renaming int___mod___int_int_1->ow
open PySem.AutoSeq1 renaming wpAny_loadPart'->cD
open PySem.BoolOp renaming And->ji,Or->j1
open PySem.Builtin renaming bitAnd->br,bitXor->fU,bitOr->kL,maxDigits->px,divisionGoesByPylong->rd
open PySem.Builtin.Builtins renaming bindParams->nA
open PySem.Builtin.Dict renaming notOrdered->Wa
open PySem.Builtin.Int renaming intBits->fC,intTooBig->iO
open PySem.Builtin.List renaming listFitsIndex->eT,listItems->kr,listSubscript?->pz
open PySem.Builtin.Str renaming glued->d6,subAt->nz,strSub->vJ,tooLong->Y_,spaceWords->Zb
open PySem.Code renaming func->fE,forLoop->ic,compLoop->pC,compStart->M9,call->Y6
open PySem.Const renaming int->vW,bool->Vw
open PySem.Data renaming fields->k6
open PySem.DictEntry renaming mk->cO
open PySem.ExceptHandler renaming ExceptHandler->Vx
open PySem.Expr renaming pos->aY,Name->cC,Constant->iJ,Lambda->nR,UnaryOp->xF
open PySem.Flow renaming next->j8,ret->nO
open PySem.Flow.ret renaming inj->eU
open PySem.Heap renaming get?_push_of_some->bS,get?_update_self->cX,get?_push_size->eX,lt_size->e5,SameBut->i5,size_push->kq
open PySem.Heap.SameBut renaming update->fw,refl->Wd
open PySem.Keyword renaming mk->oq
open PySem.Made renaming post->Y'
open PySem.MeetsSeq renaming list_contains->uH
open PySem.NameKind renaming free->tA
open PySem.Obj renaming mapFields->d8,mapSeq->mZ,mk->s6,data_mapDictKeys->BV,isFreed_of_dict->Cc,data_mapDict->Lk
open PySem.Pos renaming mk->bB
open PySem.PyData renaming eqv->RH
open PySem.Scope renaming mk->ua
open PySem.ScopeKind renaming function->iv
open PySem.Sem renaming bind->cG,wp_bind'->fK,bind_assoc->f_,wp_mono->gi,wp_onRaise->Q4
open PySem.SeqAt renaming eq_listAt->Hn,EqAt->Vn
open PySem.SeqAt.EqAt renaming of_refs->vX
open PySem.SeqAt.RcAt renaming lists->aab
open PySem.SeqAt.RcNeAt renaming lists->uF,lists_lengths->Wi
open PySem.Stmt renaming Expr->rR,Return->Vv
open PySem.Str renaming ofString->aG,mk->fb,ext'->l6,empty->xv
open PySem.UnaryOp renaming USub->vK
open PySem.Value renaming int->ak,ref->ao,str->cW,type->dZ,bool->d3,none->fi,isInt->kN,isStrOf_shape->oj,isStrOf->Nb,builtin->Nf
open PySem.Value.bool renaming inj->jB
open PySem.Value.type renaming inj->aaa
open PySem.W renaming kas_item->qC,tabObj->vD,kas_rev->xC,codeHd_of_K->LD
open PySem.W.KasT renaming kasWp_bind->jI
open PySem.W.X renaming AllIn->yX,y_skim->Y7
open String renaming ofList->jm
noncomputable section
open PySem PySem.W PyProof.Rows PySem.W.X PySem.Calls PySem.Spec
namespace gy.Lean
set_option backward.match.sparseCases false
namespace Lq
inductive Ne where|k(n:Nat)|v(i:Nat)|a(x y:Ne)|m(n:Nat)(x:Ne)
inductive Ze where|k(n:Nat)|v(i:Nat)|a(x y:Ze)|s(x y:Ze)|n(x:Ze)|m(n:Nat)(x:Ze)|c(x:Ne)
inductive Lc where|gf|gn(e:Nat)(x y:Ne)|gz(e:Nat)(x y:Ze)|hn(e l:Nat)(x y:Ne)(r:Lc)|hz(e l:Nat)(x y:Ze)(r:Lc)
noncomputable def nt{b:Type}(d:b)(l:List b):Nat->b:=List.rec (λ c=>d) (λ a c r i=>q9 a (λ j c=>r j) i) l
noncomputable def Ne.ev(ns:List Nat)(x:Ne):Nat:=Ne.rec (λ n=>n) (nt 0 ns) (λ a a p q=>p+q) (λ n a p=>n*p) x
noncomputable def Ze.ev(ns:List Nat)(is:List Int)(x:Ze):Int:=Ze.rec (λ n=>bp n) (nt 0 is) (λ a a p q=>p+q) (λ a a p q=>p-q) (λ a p=>-p) (λ n a p=>bp n*p) (λ x=>bp (x.ev ns)) x
noncomputable def dl(i j:Nat):Int:=cond (gR i j) 1 0
noncomputable def Ne.f(x:Ne):Nat->Int:=Ne.rec (λ a a=>0) dl (λ a a p q i=>p i+q i) (λ n a p i=>bp n*p i) x
noncomputable def Ne.o(x:Ne):Int:=Ne.rec (λ n=>bp n) (λ a=>0) (λ a a p q=>p+q) (λ n a p=>bp n*p) x
noncomputable def Ze.f(x:Ze):Nat->Int:=Ze.rec (λ a a=>0) (λ a a=>0) (λ a a p q i=>p i+q i) (λ a a p q i=>p i-q i) (λ a p i=>-p i) (λ n a p i=>bp n*p i) Ne.f x
noncomputable def Ze.g(x:Ze):Nat->Int:=Ze.rec (λ a a=>0) dl (λ a a p q i=>p i+q i) (λ a a p q i=>p i-q i) (λ a p i=>-p i) (λ n a p i=>bp n*p i) (λ a a=>0) x
noncomputable def Ze.o(x:Ze):Int:=Ze.rec (λ n=>bp n) (λ a=>0) (λ a a p q=>p+q) (λ a a p q=>p-q) (λ a p=>-p) (λ n a p=>bp n*p) Ne.o x
noncomputable def dot(l:List Int):(Nat->Int)->Int:=List.rec (λ b=>0) (λ a b r f=>f 0*a+r λ i=>f (i+1)) l
theorem oC(k:Int)(l:List Int):∀f g:Nat->Int,dot l (λ i=>f i+k*g i)=dot l f+k*dot l g:=by induction l with|nil=>intro f g;exact((jd _).trans (Int.mul_zero k)).symm|cons a l b=>intro f g;refine(congrArg (λ z=>(f 0+k*g 0)*a+z) (b _ _)).trans ?_;show _=(f 0*a+dot l λ i=>f (i+1))+k*(g 0*a+dot l λ i=>g (i+1));rw [Int.add_mul,k_,Int.mul_assoc,RE,RE,Int.add_left_comm (k*_)]
theorem iR(l:List Int):dot l (λ c=>0)=0:=by induction l with|nil=>rfl|cons a l b=>exact(congrArg (0*a+·) b).trans (by rw [q_];rfl)
theorem ri(k:Int)(l:List Int)(g:Nat->Int):dot l (λ i=>k*g i)=k*dot l g:=by have:=oC k l (λ a=>0) g;rw [iR,jd]at this;exact(congrArg (dot l) (funext λ i=>(jd _).symm)).trans this
theorem uI(l:List Int)(f g:Nat->Int):dot l (λ i=>f i+g i)=dot l f+dot l g:=by have:=oC 1 l f g;rw [iY]at this;exact(congrArg (dot l) (funext λ i=>by rw [iY])).trans this
theorem rj(l:List Int)(f g:Nat->Int):dot l (λ i=>f i-g i)=dot l f-dot l g:=by have:=oC (-1) l f g;rw [s_,iY]at this;exact(congrArg (dot l) (funext λ i=>by rw [s_,iY];rfl)).trans this
theorem Ck(l:List Int):∀i,dot l (dl i)=nt 0 l i:=by induction l with|nil=>intro i;rfl|cons a l b=>intro i;induction i with|zero=>exact(congrArg (1*a+·) (iR l)).trans ((j7 _).trans (iY a))|succ i=>exact(congrArg (0*a+·) (b i)).trans (by rw [q_,jd];rfl)
theorem Nr(l:List Nat):∀i,nt (0:Int) (l.map bp) i=bp (nt 0 l i):=by induction l with|nil=>intro i;rfl|cons a l b=>intro i;induction i with|zero=>rfl|succ i=>exact b i
section
variable(ns:List Nat)(is:List Int)
theorem Ne.ok(x:Ne):bp (x.ev ns)=dot (ns.map bp) x.f+x.o:=by induction x with|k n=>exact((congrArg (·+bp n) (iR _)).trans (jd _)).symm|v i=>exact((congrArg (·+0) (Ck _ i)).trans ((j7 _).trans (Nr ns i))).symm|a x y p q=>refine(congrArg (·+(x.o+y.o)) (uI _ x.f y.f)).trans ?_|>.symm;rw [show bp ((Ne.a x y).ev ns)=bp (x.ev ns)+bp (y.ev ns)from rfl,p,q];lia|m n x p=>refine(congrArg (·+bp n*x.o) (ri _ _ x.f)).trans ?_|>.symm;rw [show bp ((Ne.m n x).ev ns)=bp n*bp (x.ev ns)from rfl,p,k_]
theorem Ze.ok(x:Ze):x.ev ns is=dot (ns.map bp) x.f+dot is x.g+x.o:=by
 induction x with
  |k n=>exact((congrArg (·+bp n) ((congrArg (·+_) (iR _)).trans ((congrArg (0+·) (iR _)).trans rfl))).trans (jd _)).symm|v i=>exact((congrArg (·+dot is (dl i)+0) (iR _)).trans ((j7 _).trans ((jd _).trans (Ck is i)))).symm|a x y p q=>rw [show(Ze.a x y).ev ns is=x.ev ns is+y.ev ns is from rfl,p,q,show dot (ns.map bp) (Ze.a x y).f=_ from uI _ x.f y.f,show dot is (Ze.a x y).g=_ from uI _ x.g y.g,show(Ze.a x y).o=x.o+y.o from rfl];lia|s x y p q=>rw [show(Ze.s x y).ev ns is=x.ev ns is-y.ev ns is from rfl,p,q,show dot (ns.map bp) (Ze.s x y).f=_ from rj _ x.f y.f,show dot is (Ze.s x y).g=_ from rj _ x.g y.g,show(Ze.s x y).o=x.o-y.o from rfl];lia
  |n x p=>
   have h:∀(l:List Int)(f:Nat->Int),dot l (λ i=>-f i)=-dot l f:=λ l f=>by have:=ri (-1) l f;rw [s_,iY]at this;exact(congrArg (dot l) (funext λ i=>by rw [s_,iY])).trans this
   rw [show(Ze.n x).ev ns is=-x.ev ns is from rfl,p,show dot (ns.map bp) (Ze.n x).f=_ from h _ x.f,show dot is (Ze.n x).g=_ from h _ x.g,show(Ze.n x).o=-x.o from rfl];lia
  |m n x p=>rw [show(Ze.m n x).ev ns is=bp n*x.ev ns is from rfl,p,show dot (ns.map bp) (Ze.m n x).f=_ from ri _ _ x.f,show dot is (Ze.m n x).g=_ from ri _ _ x.g,show(Ze.m n x).o=bp n*x.o from rfl,k_,k_]|c x=>exact(Ne.ok ns x).trans (congrArg (·+_) ((congrArg (_+·) (iR _)).trans (j7 _)).symm)
end
noncomputable def rel{a:Type}(c d:a->a->Prop)(e:Nat)(x y:a):Prop:=q9 (c x y) (λ e b=>q9 (d x y) (λ b b=>x=y) e) e
noncomputable def Lc.den(ns:List Nat)(is:List Int)(c:Lc):Prop:=Lc.rec False (λ e x y=>rel (·<=·) (·<·) e (x.ev ns) (y.ev ns)) (λ e x y=>rel (·<=·) (·<·) e (x.ev ns is) (y.ev ns is)) (λ e a x y a R=>rel (·<=·) (·<·) e (x.ev ns) (y.ev ns)->R) (λ e a x y a R=>rel (·<=·) (·<·) e (x.ev ns is) (y.ev ns is)->R) c
noncomputable def st(e:Nat):Int:=nt 0 [0,1] e
noncomputable def ts(e:Nat):Int:=nt 0 [1,0] e
noncomputable def Hx(p:Int->Bool):Nat->(Nat->Int)->Bool:=q9 (λ a=>ah) λ a r f=>cond (p (f 0)) (r λ i=>f (i+1)) af
noncomputable def fin(n m:Nat)(F G:Nat->Int)(K:Int):Bool:=cond (Hx (oh 0) n F) (cond (Hx (λ x=>cond (oh 0 x) (oh x 0) af) m G) (oh 1 K) af) af
noncomputable def Lc.ck(n m:Nat)(c:Lc):(Nat->Int)->(Nat->Int)->Int->Bool:=have g:=λ e(x y:Ze)F G K=>cond (yG e 2) (fin n m (λ i=>F i+1*(y.f i-x.f i)) (λ i=>G i+1*(y.g i-x.g i)) (K+1*(y.o-x.o+ts e))) af;have h:=λ e l(x y:Ze)(R:(Nat->Int)->(Nat->Int)->Int->Bool)F G K=>R (λ i=>F i+bp l*(x.f i-y.f i)) (λ i=>G i+bp l*(x.g i-y.g i)) (K+bp l*(x.o-y.o+st e));Lc.rec (fin n m) (λ e x y=>g e (.c x) (.c y)) g (λ e l x y a=>h e l (.c x) (.c y)) (λ e l x y a=>h e l x y) c
theorem jJ{a b:Bool}(h:cond a b af=ah):a=ah/\b=ah:=by induction a with|false=>exact⟨h,(by injection h)⟩|true=>exact⟨rfl,h⟩
theorem xG(l:List Nat):∀F:Nat->Int,Hx (oh 0) l.length F=ah->0<=dot (l.map bp) F:=by induction l with|nil=>intro F h;exact aN 0|cons a l b=>intro F h;obtain⟨c,d⟩:=jJ h;exact Int.add_nonneg (vB (of_eq_true (by rw [<-l5,c];exact eq_self _)) (aS a)) (b _ d)
theorem Cm(l:List Int):∀G:Nat->Int,Hx (λ x=>cond (oh 0 x) (oh x 0) af) l.length G=ah->dot l G=0:=by induction l with|nil=>intro F h;rfl|cons a l b=>intro F h;obtain⟨c,d⟩:=jJ h;obtain⟨f,g⟩:=jJ c;have e:F 0=0:=bg ((l5 _ _).mp g) ((l5 _ _).mp f);exact(congrArg (λ z=>z*a+dot l λ i=>F (i+1)) e).trans ((congrArg (0*a+·) (b _ d)).trans (by rw [q_];rfl))
theorem Cn{ns:List Nat}{is:List Int}{F G:Nat->Int}{K:Int}(h:fin ns.length is.length F G K=ah)(q:dot (ns.map bp) F+dot is G+K<=0):False:=by obtain⟨a,h⟩:=jJ h;obtain⟨b,c⟩:=jJ h;have:=xG ns F a;rw [Cm is G b]at q;have:=(l5 _ _).mp c;lia
theorem Cq{N I:List Int}{F G f g a b:Nat->Int}{K o c s l x y:Int}(q:dot N F+dot I G+K<=0)(d:x=dot N f+dot I g+o)(j:y=dot N a+dot I b+c)(k:0<=l)(h:x-y+s<=0):dot N (λ i=>F i+l*(f i-a i))+dot I (λ i=>G i+l*(g i-b i))+(K+l*(o-c+s))<=0:=by
 rw [oC,oC,rj,rj];have:=vB k (Int.neg_nonneg_of_nonpos h);rw [d,j,Int.mul_neg]at this;have e:l*(dot N f+dot I g+o-(dot N a+dot I b+c)+s)=l*(dot N f-dot N a)+l*(dot I g-dot I b)+l*(o-c+s):=by rw [<-k_,<-k_];exact congrArg (l*·) (by lia)
 lia
theorem RK{e:Nat}{x y:Int}(h:rel (·<=·) (·<·) e x y):x-y+st e<=0:=by match e,h with|0,h=>exact(j7 _).symm▸BQ h|1,h=>have:x<y:=h;show x-y+1<=0;lia|n+2,h=>exact(j7 _).symm▸BQ (b0 h)
theorem RL{e:Nat}{x y:Nat}(h:rel (·<=·) (·<·) e x y):rel (·<=·) (·<·) e (bp x) (bp y):=by match e,h with|0,h=>exact fI.mpr h|1,h=>exact e_.mpr h|n+2,h=>exact congrArg bp h
theorem LG{e:Nat}{x y:Int}(a:yG e 2=ah)(h:y-x+ts e<=0->False):rel (·<=·) (·<·) e x y:=by match e,a with|0,_=>exact b_.mp λ q=>h (show y-x+1<=0 by lia)|1,_=>exact eW.mp λ q=>h (show y-x+0<=0 by lia)
theorem Nt{e:Nat}{x y:Nat}(a:yG e 2=ah)(h:bp y-bp x+ts e<=0->False):rel (·<=·) (·<·) e x y:=by have:=LG a h;match e,a,this with|0,_,h=>exact fI.mp h|1,_,h=>exact e_.mp h
theorem Nu{ns:List Nat}{is:List Int}(c:Lc):∀{F G:Nat->Int}{K:Int},dot (ns.map bp) F+dot is G+K<=0->c.ck ns.length is.length F G K=ah->c.den ns is:=by have f:∀{e l:Nat}{x y:Ze}{F G:Nat->Int}{K:Int},dot (ns.map bp) F+dot is G+K<=0->bp l=bp l->rel (·<=·) (·<·) e (x.ev ns is) (y.ev ns is)->_:=λ{e l x y F G K}q j h=>Cq q (Ze.ok ns is x) (Ze.ok ns is y) (aS l) (RK h);have a:∀{e:Nat}{x y:Ze}{F G:Nat->Int}{K:Int},dot (ns.map bp) F+dot is G+K<=0->cond (yG e 2) (fin ns.length is.length (λ i=>F i+1*(y.f i-x.f i)) (λ i=>G i+1*(y.g i-x.g i)) (K+1*(y.o-x.o+ts e))) af=ah->yG e 2=ah/\(y.ev ns is-x.ev ns is+ts e<=0->False):=λ{e x y F G K}q h=>⟨(jJ h).1,λ g=>Cn (jJ h).2 (Cq q (Ze.ok ns is y) (Ze.ok ns is x) (cp Int.zero_lt_one) g)⟩;induction c with|gf=>intro F G K q h;exact Cn h q|gn e x y=>intro F G K q h;exact Nt (a q h).1 (a q h).2|gz e x y=>intro F G K q h;exact LG (a q h).1 (a q h).2|hn e l x y r b=>intro F G K q h;exact λ d=>b (f q rfl (RL d)) h|hz e l x y r b=>intro F G K q h;exact λ d=>b (f q rfl d) h
noncomputable def Q'{R:Type}(c:Nat)(k:Nat->Nat->R):R:=k (c/16%16^(c%16)) (c/16/16^(c%16))
noncomputable def RM{R:Type}(d:R):Nat->Nat->(Ne->Nat->R)->R:=q9 (λ a a=>d) λ a r c k=>nt (k (.v (c%16-3)) (c/16)) [Q' (c/16) λ n=>k (.k n),r (c/16) λ x c=>r c λ y=>k (.a x y),Q' (c/16) λ n c=>r c λ x=>k (.m n x)] (c%16)
noncomputable def Vy{R:Type}(d:R):Nat->Nat->(Ze->Nat->R)->R:=q9 (λ a a=>d) λ f r c k=>nt (k (.v (c%16-6)) (c/16)) [Q' (c/16) λ n=>k (.k n),r (c/16) λ x c=>r c λ y=>k (.a x y),Q' (c/16) λ n c=>r c λ x=>k (.m n x),r (c/16) λ x c=>r c λ y=>k (.s x y),r (c/16) λ x=>k (.n x),RM d f (c/16) λ x=>k (.c x)] (c%16)
noncomputable def Vz:Nat->Nat->Lc:=q9 (λ a=>.gf) λ f r c=>nt .gf [.gf,Q' (c/16) λ l c=>RM .gf f c λ x c=>RM .gf f c λ y c=>.hn (c%16) l x y (r (c/16)),Q' (c/16) λ l c=>Vy .gf f c λ x c=>Vy .gf f c λ y c=>.hz (c%16) l x y (r (c/16)),RM .gf f (c/16) λ x c=>RM .gf f c λ y c=>.gn c x y,Vy .gf f (c/16) λ x c=>Vy .gf f c λ y c=>.gz c x y] (c%16)
end Lq
open Lq
theorem lj(c:Nat)(ns:List Nat)(is:List Int)(h:(Vz 40 c).ck ns.length is.length (λ a=>0) (λ a=>0) 0=ah):(Vz 40 c).den ns is:=Nu _ (by rw [iR,iR];exact aN 0) h
theorem li(c:Nat)(ns:List Nat)(h:(Vz 40 c).ck ns.length 0 (λ a=>0) (λ a=>0) 0=ah):(Vz 40 c).den ns []:=lj c ns [] h
theorem cI(a b:Nat):a<=a-b+b:=Nat.sub_le_iff_le_add.mp (bt _)
noncomputable abbrev Cells:=List (ae×dR)
structure Ht where
 h:Nat->Int
 t:Nat->aX
 e:Nat
structure Nw where
 ad:Nat->ae
 tk:Nat->aX
 hs:Nat->Ht
noncomputable def pF(o:Option α)(F:α->Prop):Prop:=match o with|ab v=>F v|az=>False
theorem d_(h:pF o F):∃v,o=ab v/\F v:=by induction o with|none=>exact h.elim|some v=>exact⟨v,rfl,h⟩
noncomputable def opQ(o:Option α)(N:Prop)(F:α->Prop):Prop:=match o with|ab v=>F v|az=>N
theorem uJ(a:¬N)(h:opQ o N F):∃v,o=ab v/\F v:=by induction o with|none=>exact absurd h a|some v=>exact⟨v,rfl,h⟩
noncomputable def Cr(b:Bool)(N P:Prop):Prop:=match b with|ah=>P|af=>N
theorem jK(a:¬N)(h:Cr b N P):b=ah/\P:=by induction b with|false=>exact absurd h a|true=>exact⟨rfl,h⟩
noncomputable def B0(l:List α)(N:Prop)(F:α->List α->Prop):Prop:=match l with|[]=>N|q::l=>F q l
theorem kz(a:¬N)(h:B0 l N F):∃q b,F q b:=by induction l with|nil=>exact absurd h a|cons q l=>exact⟨q,l,h⟩
noncomputable def jz(f:α->Option β):Option α->Option β|ab v=>f v|az=>az
theorem cJ(h:jz f o=ab x):∃v,o=ab v/\f v=ab x:=by induction o with|none=>cases h|some v=>exact⟨v,rfl,h⟩
theorem ns{a:Type}{x:a}{P:Prop}(h:az=ab x):P:=(by injection h)
inductive Or where|mk(l:List Nat)(alts:List Or)
noncomputable def Nv:Nat->Nat->List Nat|0,_=>[]|f+1,n=>match gR n 0 with|ah=>[]|af=>match gR (n%16) 15 with|ah=>Nat.pred (n/16%256)::Nv f (n/4096)|af=>Nat.pred (n%16)::Nv f (n/16)
noncomputable def oo(n:Nat)(a:List Or):Or:=.mk (Nv 100000 n) a
inductive Kn where|base|ret(c:aT)(hd:Option aa)(k:dq->nh Fin)(κ:Kn)
noncomputable abbrev Kc:=Nat->dq->((Nat->Ht)->Cells)->Cells->Prop
noncomputable abbrev nq:=List (Nat×Nat)
noncomputable def Nx:List fJ->List ae->Prop|[],[]=>True|v::l,a::b=>(v.frame=ab a/\v.scope.kind=.function)/\Nx l b|_,_=>False
noncomputable def l_(a:Option (List fJ))(b:List ae):Prop:=∃l,a=ab l/\Nx l b
noncomputable abbrev Sp:=Nat->Nat->(List ae->Prop)->aT->Cells->Cells->nq->Kc->Prop
structure Hp where
 get?:ae->Option dR
structure Bs where
 prog:d7
 w:cP
 h₀:Hp
 tabs:List ae
structure Cx where
 b:Bs
 kt:KT
 fix:Cells
 specs:List Sp
 A₀:dx
 R₀:Nat->dq->Cells->Cells->Prop
 RN:Sp
noncomputable def bE:List α->Nat->Option α|[],_=>az|x::_,0=>ab x|_::l,n+1=>bE l n
noncomputable def Az:Cells->Nat->dR->Cells|[],_,_=>[]|p::l,0,o=>(p.1,o)::l|p::l,n+1,o=>p::Az l n o
noncomputable def pick(C:Cells):List Nat->Cells|[]=>[]|i::l=>match bE C i with|ab p=>p::pick C l|az=>pick C l
noncomputable def nr(a:Nat):List Nat->Bool|[]=>af|b::l=>match gR a b with|ah=>ah|af=>nr a l
noncomputable def dX(i:Nat)(sel:List Nat):Cells->Cells|[]=>[]|p::l=>match nr i sel with|ah=>dX (i+1) sel l|af=>p::dX (i+1) sel l
noncomputable def isAll:List Nat->Bool|[]=>af|n::_=>gR n 250
noncomputable def qD(C:Cells)(sel:List Nat):Cells:=match isAll sel with|ah=>C|af=>pick C sel
noncomputable def nB(C:Cells)(sel:List Nat):Cells:=match isAll sel with|ah=>[]|af=>dX 0 sel C
noncomputable def xH:List Nat->Bool|[]=>ah|a::l=>match nr a l with|ah=>af|af=>xH l
noncomputable def lP:List (Nat×Nat)->Prop|[]=>True|p::l=>p.1=p.2/\lP l
noncomputable def Ra(E:List (Nat×Nat))(P:Prop):Prop:=match E with|[]=>P|_::_=>lP E/\P
theorem pH(h:Ra E P):lP E/\P:=by induction E with|nil=>exact⟨trivial,h⟩|cons _ _=>exact h
noncomputable def Wl:List Nat->Nat->Nat|[],_=>0|a::_,0=>a|_::l,n+1=>Wl l n
noncomputable def Ny(a:List Nat):List Nat->List (Nat×Nat)|[]=>[]|i::l=>(Wl a i,Wl a i)::Ny a l
theorem RO(a:List Nat):∀l:List Nat,lP (Ny a l):=by intro l;induction l with|nil=>exact trivial|cons _ l b=>exact⟨rfl,b⟩
noncomputable def LH:Nat->Nat->List Nat|0,_=>[]|f+1,n=>match gR n 1 with|ah=>[]|af=>n%16::LH f (n/16)
theorem E(a:List Nat)(n:Nat):lP (Ny a (LH 1000 n)):=RO a _
noncomputable def Kn.dep(d:Nat):Kn->Nat|.base=>d|.ret c _ _ a=>a.dep d+c.weight
noncomputable def Kn.un(u:Nat):Kn->Nat|.base=>u|.ret c _ _ a=>a.un u+c.cUnits
noncomputable def VA(v:fJ)(b:List ae)(F:List ae->Prop):Prop:=match v.frame,v.scope.kind,b with|ab f,.function,a::b=>f=a/\F b|_,_,_=>False
noncomputable def Zf(vs:List fJ)(a:List ae)(F:List ae->Prop):Prop:=match vs with|[]=>F a|v::_=>VA v a F
noncomputable def Kn.rT(a:Option (List fJ)):Kn->List ae->Prop|.base=>l_ a|.ret c _ _ b=>λ d=>Zf c.envs d (b.rT a)
noncomputable def Kn.around(a:dx):Kn->dx|.base=>a|.ret c b _ d=>((d.around a).under c).mark b
noncomputable def pI(X:Cx)(C:Cells)(a:ae)(q:Nat):Option (Option ae×dR):=match q with|0=>jz (λ o=>ab (az,o)) (X.kt.get a)|q+1=>cond (gR (q%2) 0) (jz (λ p=>ab (ab p.1,p.2)) (bE C (q/2))) (jz (λ p=>ab (ab p.1,p.2)) (bE X.fix (q/2)))
noncomputable def AA(a:ae)(b:Option ae)(E:List (Nat×Nat)):List (Nat×Nat):=match b with|ab b=>(a,b)::E|az=>E
noncomputable def pJ(a:ae)(c:eL)(q:aR)(f:Args):nh Fin:=cG (bindArgs c f) λ d=>cG (Y3 c.scope c.globals c.closure d (q++".<locals>.") (ab a) c.code az c.builtins) λ env=>match c.body with|.stmts b=>.pure (.again (.func b env))|.expr e=>.pure (.again (.expr e env))
noncomputable def Nz(c:aT):Bool:=c.quiet
inductive NA:Nat->ae->Cells->Prop
inductive LI:aT->Kn->Cells->Prop
inductive RP:dq->Cells->Prop
inductive rm:Nat->Prop
inductive Wm:String->Prop
inductive aac:aT->Prop
noncomputable def qF:List Nat->List Nat×List Nat|[]=>([],[])|k::l=>(l.take k,l.drop k)
noncomputable abbrev v_:=aT->Kn->nh Fin->List Nat->List Or->Cells->Nw->Nat->Nat->List (Nat×Nat)->Prop
noncomputable def backTo(X:Cx)(d:v_)(b:Kn)(r:dq)(l:List Nat)(a:List Or)(C:Cells)(n:Nw)(m i:Nat)(E:List (Nat×Nat)):Prop:=match b with|.base=>B0 l (RP r C) λ j l=>Cr (xH (qF l).1) (rm 8) (Ra E (X.R₀ j r (qD C (qF l).1) (nB C (qF l).1)))|.ret c _ k b=>d c b (k r) l a C n m i E
noncomputable def Hy:Option α->Bool|az=>ah|ab _=>af
noncomputable def NB(l:List Nat)(a:Nat)(c:List Or):Nat->Option Or|0=>ab (.mk l (c.drop a))|b+1=>bE c b
noncomputable def orP(o:Or)(F:List Nat->List Or->Prop):Prop:=match o with|.mk l a=>F l a
noncomputable def RQ(X:Cx)(h:Option aa)(q:Nat):Option Sp:=match h with|az=>bE X.specs q|ab _=>ab X.RN
noncomputable def Cu(X:Cx)(g:v_)(d:Kn)(q:Nat)(h:aT)(l:List Nat)(e:List Or)(C:Cells)(E:List (Nat×Nat)):Prop:=pF (RQ X (d.around X.A₀).handled q) λ i=>B0 l (rm 9) λ a l=>Cr (xH (qF l).1) (rm 8) (i (X.A₀.depth+d.dep 0) (X.A₀.units+d.un 0) (d.rT X.A₀.frames) h (qD C (qF l).1) (nB C (qF l).1) E λ b r f tl=>∀n:Nw,opQ (NB (qF l).2 a e b) (rm 10) λ o=>orP o λ j c=>backTo X g d r j c (f n.hs++(nB C (qF l).1++tl)) n 0 0 [])
noncomputable def wa(T:String):Bool:=decide (T="list_iterator")||decide (T="tuple_iterator")||decide (T="enumerate")||decide (T="str_ascii_iterator")||decide (T="str_iterator")||decide (T="dict_valueiterator")
noncomputable def uK(a:List j3)(d:Nat):Bool:=match a[d]? with|ab g=>decide (g.is_async=0)|az=>af
noncomputable def xI(e:bO)(d:Nat):Bool:=match e with|.ListComp _ a _ _=>uK a d|.DictComp _ _ a _ _=>uK a d|_=>af
noncomputable def Cv:aT->Option (ae×Args)|.call (.ref a) b=>ab (a,b)|_=>az
noncomputable def xJ(o:dR):Option eL:=match o.data with|.func a=>cond (a.scope.isCoroutine||a.scope.isGenerator) az (ab a)|_=>az
noncomputable def refOf:aa->Option ae|.ref a=>ab a|_=>az
noncomputable def nameOf(o:dR):Option aR:=match o.data with|.fields vs=>jz (λ v=>match v with|.str q _=>ab q|_=>az) vs[1]?|_=>az
noncomputable def Cw(o:dR):Option String:=match o.cls with|.type T=>ab T|_=>az
noncomputable def uL(D:aT->nh Fin)(X:Cx)(d:v_)(c:Kn)(b:aT)(l:List Nat)(a:List Or)(C:Cells)(n:Nw)(m i:Nat)(E:List (Nat×Nat)):Prop:=B0 l (LI b c C) λ q l=>match q with|0=>d b c (D b) l a C n m i E|1=>pF (Cv b) λ f=>B0 l False λ j l=>B0 l False λ k l=>pF (pI X C f.1 j) λ p=>pF (xJ p.2) λ e=>pF (refOf e.code) λ g=>pF (pI X C g k) λ h=>pF (nameOf h.2) λ q=>X.A₀.depth+c.dep 0<qr/\d b c (pJ f.1 e q f.2) l a C n m i (AA f.1 p.1 (AA g h.1 E))|q+2=>Cu X d c q b l a C E
noncomputable def Cy:aT->Option (bO×Nat×ae×aa×fJ)|.compStart e d (.ref a) b env=>ab (e,d,a,b,env)|_=>az
noncomputable def Hz(D:aT->nh Fin)(X:Cx)(d:v_)(c:Kn)(b:aT)(l:List Nat)(a:List Or)(C:Cells)(n:Nw)(m i:Nat)(E:List (Nat×Nat)):Prop:=match b with
 |.compStart ..=>B0 l (LI b c C) λ q e=>match q with|1=>pF (Cy b) λ f=>B0 e False λ g l=>pF (pI X C f.2.2.1 g) λ p=>pF (Cw p.2) λ T=>Cr (wa T&&xI f.1 f.2.1) False (uL D X d c (.compLoop f.1 f.2.1 (.ref f.2.2.1) f.2.2.2.1 f.2.2.2.2) l a C n m i (AA f.2.2.1 p.1 E))|_=>uL D X d c b l a C n m i E
 |_=>uL D X d c b l a C n m i E
noncomputable def Cz(D:aT->nh Fin)(X:Cx)(g:v_)(c:aT)(d:Kn)(t:nh Fin)(l:List Nat)(b:List Or)(C:Cells)(n:Nw)(m i:Nat)(E:List (Nat×Nat)):Prop:=match t with
 |.pure j=>match j with|.done f=>backTo X g d (.ok f) l b C n m i E|.again h=>Cr (Nz h) False (Hz D X g d h l b C n m i E)
 |.raise e=>backTo X g d (.error e) l b C n m i E|.rule _ k=>g c d (k ()) l b C n m i E|.at _ k=>g c d (k ()) l b C n m i E|.point _ k=>g c d (k ()) l b C n m i E|.ask k=>g c d (k ⟨X.b.prog,X.b.w.params⟩) l b C n m i E|.load a _ k=>B0 l (NA 1 a C) λ q l=>opQ (pI X C a q) (rm 1) λ p=>g c d (k p.2) l b C n m i (AA a p.1 E)|.loadIfAlive a k=>B0 l (NA 1 a C) λ q l=>opQ (pI X C a q) (rm 2) λ p=>g c d (k (ab p.2)) l b C n m i (AA a p.1 E)|.alloc o k=>Cr (!o.isFreed) (rm 3) (g c d (k (n.ad m)) l b ((n.ad m,o)::C) n (m+1) i E)|.update a _ f k=>B0 l (NA 2 a C) λ q l=>opQ (bE C q) (rm 4) λ p=>Cr (!(f p.2).isFreed) (rm 3) (g c d (k ()) l b (Az C q (f p.2)) n m i ((a,p.1)::E))|.fresh k=>g c d (k (n.tk i)) l b C n m (i+1) E|.handled r k=>Cr (!r) False (g c d (k (d.around X.A₀).handled) l b C n m i E)|.call h s _ _ k=>Cr (okMark s) (rm 5) (Hz D X g (.ret c s k d) h l b C n m i E)|.unsupported w=>Wm w|.finish _=>rm 20|.register ..=>rm 21|.choose ..=>rm 22|.os ..=>rm 23|.newGen ..=>rm 24|.genState ..=>rm 25|.resume ..=>rm 26|.yield ..=>rm 27|.stack _=>rm 7|.fork ..=>rm 28|.thread _=>rm 29|.await ..=>rm 30
noncomputable def sy(D:aT->nh Fin)(X:Cx):Nat->v_|0=>λ a a a a a a a a a a=>rm 40|n+1=>Cz D X (sy D X n)
noncomputable def run(X:Cx)(c:aT)(t:nh Fin)(o:Or)(C:Cells)(n:Nw):Prop:=match o with|.mk l a=>sy (vC h8) X 100000 c .base t l a C n 0 0 []
noncomputable def gensE:bO->List j3|.ListComp _ a _ _=>a|_=>[]
noncomputable def wb:bO->bO|.ListComp a _ _ _=>a|e=>e
noncomputable def VB:bO->B_|.ListComp _ _ s _=>s|_=>default
noncomputable def kD(x:bO)(d:Nat):j3:=((gensE x)[d]?).getD default
noncomputable def jL(x:bO)(d:Nat)(b:aa)(env:fJ)(v:aa):nh Unit:=do
 iC (kD x d).target env v;let mut ok:=ah;for c in(kD x d).ifs do if ok then ok<-eP c env (dh c env)
 if ok then
  match(gensE x)[d+1]? with
   |ab a=>
    let x'<-dh a.iter env;eR a.iter.pos;let x'<-if a.is_async !=0 then foldedIterable a.iter x' else RF a.iter env x'
    let _<-runOwn (.compStart (.ListComp (wb x) (gensE x) (VB x) (aY x)) (d+1) (<-gh [x'] (if a.is_async !=0 then asyncIter x' else Y4 x')) b env) env
   |az=>let _<-call (.builtin "list.append") [b,<-dh (wb x) env]
inductive Pt where|cd|st(ss:List ea)(env:fJ)|ev(e:bO)(env:fJ)|ts(e:bO)(env:fJ)|nx(it:aa)|bd(t:bO)(v:aa)(ss:List ea)(env:fJ)|cr(x:bO)(d:Nat)(acc:aa)(env:fJ)(v:aa)|hb(x:aa)(hs:List rL)(env:fJ)
noncomputable def HA(t:nh α)(f:α->BR):nh Fin:=cG t λ v=>.pure (.done (f v))
noncomputable def Zg:Option aa->BR|az=>.next|ab v=>.ret v
noncomputable def Rb(b:Bool):BR:=.ret (.bool b)
noncomputable def AB(X:Cx)(c:aT)(p:Pt)(o:Or)(C:Cells)(n:Nw):Prop:=match p with
 |.cd=>match o with|.mk l a=>Hz (vC h8) X (sy (vC h8) X 100000) .base c l a C n 0 0 []
 |.st b env=>run X c (HA (dU b env) id) o C n|.ev e env=>run X c (HA (dh e env) .ret) o C n|.ts e env=>run X c (HA (eP e env (dh e env)) Rb) o C n|.nx it=>run X c (HA (qt it) Zg) o C n|.bd t v b env=>run X c (HA (cG (iC t env v) λ g=>dU b env) id) o C n|.cr x d f env v=>run X c (HA (jL x d f env v) λ g=>.next) o C n|.hb x h env=>run X c (HA (Lh x env h) id) o C n
theorem AD:@AB=@AB:=rfl
noncomputable def wr(w:cP)(b:Bool):cP:={w with params:={w.params with followText:=λ r=>if r="special-get-raises"then b else w.params.followText r}}
theorem HB(w:cP):wr w (w.params.followText "special-get-raises")=w:=World.withFollow_self w "special-get-raises"
theorem HC:wr=wr:=rfl
noncomputable def NC(a b:String):Bool:=decide (a=b)
theorem AE:NC=NC:=rfl
end gy.Lean
name_z runZ for gy.Lean.AB by gy.Lean.AD
namespace gy.Lean
end gy.Lean
name_z wrZ for gy.Lean.wr by gy.Lean.HC
namespace gy.Lean
end gy.Lean
name_z idIsZ for gy.Lean.NC by gy.Lean.AE
namespace gy.Lean
theorem dH(l:List α):∀n:Nat,bE l n=l[n]?:=by induction l with|nil=>intro n;exact List.getElem?_nil.symm|cons x l ih=>intro n;induction n with|zero=>rfl|succ n=>exact(ih n).trans List.getElem?_cons_succ.symm
theorem je(h:bE l n=ab x):x∈l:=by rw [dH]at h;exact aB h
theorem ub(C:Cells)(i:Nat)(l:List Nat):pick C (i::l)=((bE C i).elim [] λ p=>[p])++pick C l:=by show(match bE C i with|ab p=>p::pick C l|az=>pick C l)=_;induction bE C i<;>rfl
theorem uM(h:p∈pick C sel):∃i,i∈sel/\bE C i=ab p:=by
 induction sel with
  |nil=>exact absurd h ax
  |cons i l ih=>
   rw [ub]at h;rcases aO.mp h with h|h;.refine⟨i,.head _,?_⟩;induction e:bE C i with|none=>rw [e]at h;cases h|some q=>rw [e]at h;induction ay.mp h;rfl
   .exact(ih h).elim λ j h=>⟨j,.tail _ h.1,h.2⟩
theorem dw(h:p∈pick C sel):p∈C:=(uM h).elim λ a h=>je h.2
theorem wc(a:Nat)(l:List Nat):nr a l=ah↔a∈l:=by
 induction l with
  |nil=>exact⟨λ h=>(by injection h),λ h=>absurd h ax⟩
  |cons b l ih=>
   have e:nr a (b::l)=cond (gR a b) ah (nr a l):=by show(match gR a b with|ah=>ah|af=>nr a l)=_;induction gR a b<;>rfl
   rw [e,aF];induction h:gR a b with|true=>exact⟨λ c=>.inl (ny h),λ c=>rfl⟩|false=>exact ih.trans ⟨.inr,λ d=>d.resolve_left (Nat.ne_of_beq_eq_false h)⟩
theorem yY{C:Cells}(b:(C.map (·.1)).Nodup){i j:Nat}{p q:ae×dR}(hi:bE C i=ab p)(a:bE C j=ab q)(e:p.1=q.1):i=j:=by
 rw [dH]at hi a;obtain⟨li,ei⟩:=bz.mp hi;obtain⟨lj,c⟩:=bz.mp a;have d:i<(C.map (·.1)).length:=by simpa using li
 have f:j<(C.map (·.1)).length:=by simpa using lj
 have:(C.map (·.1))[i]=(C.map (·.1))[j]:=by simp [ei,c,e]
 exact(Hl b).mp this
theorem CA(i:Nat)(l:List Nat):xH (i::l)=cond (nr i l) af (xH l):=by show(match nr i l with|ah=>af|af=>xH l)=_;induction nr i l<;>rfl
theorem rn{C:Cells}(c:(C.map (·.1)).Nodup){sel:List Nat}(h:xH sel=ah):((pick C sel).map (·.1)).Nodup:=by induction sel with|nil=>exact g9|cons i l ih=>rw [CA]at h;induction a:nr i l with|true=>rw [a]at h;injection h|false=>rw [a]at h;rw [ub];induction e:bE C i with|none=>exact ih h|some p=>refine bM.mpr ⟨λ b=>?_,ih h⟩;obtain⟨q,d,f⟩:=ba.mp b;obtain⟨j,g,k⟩:=uM d;induction yY c k e f;rw [(wc _ l).mpr g]at a;injection a
theorem rU(i:Nat)(sel:List Nat)(q:ae×dR)(C:Cells):dX i sel (q::C)=cond (nr i sel) [] [q]++dX (i+1) sel C:=by show(match nr i sel with|ah=>dX (i+1) sel C|af=>q::dX (i+1) sel C)=_;induction nr i sel<;>rfl
theorem CB(sel:List Nat)(C:Cells):∀(i:Nat){p:ae×dR},p∈dX i sel C->∃j,bE C j=ab p/\i+j∉sel:=by
 induction C with
  |nil=>intro _ _ h;exact absurd h ax
  |cons q C ih=>
   intro i p h;rw [rU]at h;rcases aO.mp h with h|h;.induction a:nr i sel with|true=>rw [a]at h;cases h|false=>rw [a]at h;induction ay.mp h;exact⟨0,rfl,λ b=>by rw [(wc i sel).mpr b]at a;injection a⟩
   .obtain⟨j,e,c⟩:=ih (i+1) h;exact⟨j+1,e,(qu i 1 j▸c:i+j+1∉sel)⟩
theorem jF(sel:List Nat)(C:Cells):∀(i:Nat),(dX i sel C).Sublist C:=by
 induction C with
  |nil=>intro _;exact ni _
  |cons q C ih=>
   intro i;rw [rU];induction nr i sel;.exact(ih (i+1)).cons_cons _
   .exact(ih (i+1)).cons _
theorem m7(b:(C.map (·.1)).Nodup){sel:List Nat}{p:ae×dR}(h:p∈dX 0 sel C):p.1∉(pick C sel).map (·.1):=by intro a;obtain⟨j,e,c⟩:=CB sel C 0 h;obtain⟨q,d,f⟩:=ba.mp a;obtain⟨i,hi,ei⟩:=uM d;have:=yY b ei e f;subst this;exact c (by simpa using hi)
structure Trans(s s':aD)(C C':Cells):Prop where
 keep:∀b o,s.heap.get? b=ab o->b∉C.map (·.1)->s'.heap.get? b=ab o
 own:∀p∈C',s'.heap.get? p.1=ab p.2
 nd:(C'.map (·.1)).Nodup
 fr:∀p∈C',p.1∈C.map (·.1)\/s.heap.get? p.1=az
 sm:s'.os=s.os/\s'.gens=s.gens
theorem LJ{s a b:aD}(h:a.os=s.os/\a.gens=s.gens)(k:b.os=a.os/\b.gens=a.gens):b.os=s.os/\b.gens=s.gens:=⟨k.1.trans h.1,k.2.trans h.2⟩
noncomputable def VD(b:Bs)(s:aD):Prop:=∀a o,b.h₀.get? a=ab o->a∉b.tabs->s.heap.get? a=ab o
structure Ready(b:Bs)(s:aD)(C:Cells):Prop where
 jq:VD b s
 own:∀p∈C,s.heap.get? p.1=ab p.2
 nd:(C.map (·.1)).Nodup
 off:∀p∈C,p.1∈b.tabs\/b.h₀.get? p.1=az
structure bj(b:Bs)(sp:Sp):Prop where
 eq:∀{d u F c cs rest E K},sp d u F c cs rest E K->lP E
 ok:∀A F c cs rest E K s,(∀as,F as->l_ A.frames as)->A.handled=az->Ready b s (cs++rest)->sp A.depth A.units F c cs rest E K->bx (aW b.prog b.w) A c (λ r s'=>∃j xK tl hs,K j r xK tl/\Trans s s' cs (xK hs++tl)) s
structure Zh(b:Bs)(sp:Sp):Prop where
 eq:∀{d u F c cs rest E K},sp d u F c cs rest E K->lP E
 ok:∀A F c cs rest E K s,Ready b s (cs++rest)->sp A.depth A.units F c cs rest E K->bx (aW b.prog b.w) A c (λ r s'=>∃j xK tl hs,K j r xK tl/\Trans s s' cs (xK hs++tl)) s
theorem Trans.refl(R:Ready b s C):Trans s s C C:=⟨λ a a e a=>e,R.own,R.nd,λ p c=>.inl (aK c),⟨rfl,rfl⟩⟩
theorem Trans.jq(R:Ready b s C)(T:Trans s s' C C'):VD b s':=λ a o e d=>by
 refine T.keep a o (R.jq a o e d) λ c=>?_;obtain⟨p,f,rfl⟩:=ba.mp c;rcases R.off p f with h|h;.exact d h
 .rw [h]at e;cases e
theorem Trans.off(R:Ready b s C)(T:Trans s s' C C'):∀p∈C',p.1∈b.tabs\/b.h₀.get? p.1=az:=λ p a=>by
 rcases T.fr p a with h|h;.obtain⟨q,c,d⟩:=ba.mp h;rw [<-d];exact R.off q c
 .by_cases hm:p.1∈b.tabs;.exact .inl hm
  .right;induction e:b.h₀.get? p.1 with|none=>rfl|some o=>rw [R.jq _ _ e hm]at h;cases h
theorem Trans.ready(R:Ready b s C)(T:Trans s s' C C'):Ready b s' C':=⟨T.jq R,T.own,T.nd,T.off R⟩
theorem Trans.back(T:Trans s s' C C')(h:s'.heap.get? a=az):a∈C.map (·.1)\/s.heap.get? a=az:=by
 by_cases hm:a∈C.map (·.1);.exact .inl hm
 .right;induction e:s.heap.get? a with|none=>rfl|some o=>rw [T.keep _ _ e hm]at h;cases h
theorem Trans.RR{s d u:aD}(T:Trans s d eJ C)(U:Trans d u (pick C sel) xK):Trans s u eJ (xK++dX 0 sel C):=by
 have k:∀p∈dX 0 sel C,p∈C:=λ p c=>(jF sel C 0).subset c;refine⟨λ b o e f=>?_,λ p c=>?_,?_,λ p c=>?_,LJ T.sm U.sm⟩
 .refine U.keep b o (T.keep b o e f) λ t=>?_;obtain⟨p,c,rfl⟩:=ba.mp t;rcases T.fr p (dw c)with h|h;.exact f h
  .rw [h]at e;cases e
 .rcases aO.mp c with c|c;.exact U.own p c
  .exact U.keep _ _ (T.own p (k p c)) (m7 T.nd c)
 .rw [aU,bH];refine⟨U.nd,T.nd.sublist ((jF sel C 0).map _),λ a v b f=>?_⟩;rintro rfl;obtain⟨p,c,rfl⟩:=ba.mp v;obtain⟨q,g,j⟩:=ba.mp f;rcases U.fr p c with h|h;.exact m7 T.nd g (by rw [j];exact h)
  .have:=T.own q (k q g);rw [j,h]at this;cases this
 .rcases aO.mp c with c|c
  .rcases U.fr p c with h|h;.obtain⟨q,g,j⟩:=ba.mp h;rw [<-j];exact T.fr q (dw g)
   .exact T.back h
  .exact T.fr p (k p c)
theorem Trans.perm(T:Trans s s' eJ C)(h:C.Perm C'):Trans s s' eJ C':=⟨T.keep,λ p a=>T.own p (h.mem_iff.mpr a),(h.map _).nodup_iff.mp T.nd,λ p a=>T.fr p (h.mem_iff.mpr a),T.sm⟩
theorem Trans.then(T:Trans s ND eJ C)(U:Trans ND s' (pick C sel) (xK++tl)):Trans s s' eJ (xK++(dX 0 sel C++tl)):=by refine(Trans.RR T U).perm ?_;rw [bb];exact List.Perm.append_left xK bD
theorem Trans.part(T:Trans s s' eJ C)(h:xH sel=ah):Trans s s' eJ (pick C sel++dX 0 sel C):=by
 have d:∀p∈dX 0 sel C,p∈C:=λ p c=>(jF sel C 0).subset c;refine⟨T.keep,λ p c=>?_,?_,λ p c=>?_,T.sm⟩
 .rcases aO.mp c with c|c;.exact T.own p (dw c)
  .exact T.own p (d p c)
 .rw [aU,bH];refine⟨rn T.nd h,T.nd.sublist ((jF sel C 0).map _),λ a e b f=>?_⟩;rintro rfl;obtain⟨q,g,j⟩:=ba.mp f;exact m7 T.nd g (by rw [j];exact e)
 .rcases aO.mp c with c|c;.exact T.fr p (dw c)
  .exact T.fr p (d p c)
theorem Trans.pick(T:Trans s s' eJ C)(h:xH sel=ah):Trans s s' eJ (pick C sel):=⟨T.keep,λ p a=>T.own p (dw a),rn T.nd h,λ p a=>T.fr p (dw a),T.sm⟩
theorem Ready.pick(R:Ready b s C)(h:xH sel=ah):Ready b s (Lean.pick C sel):=⟨R.jq,λ p a=>R.own p (dw a),rn R.nd h,λ p a=>R.off p (dw a)⟩
theorem Ready.split(R:Ready b s C)(h:xH sel=ah):Ready b s (Lean.pick C sel++dX 0 sel C):=by
 have d:∀p∈dX 0 sel C,p∈C:=λ p c=>(jF sel C 0).subset c;refine⟨R.jq,λ p c=>?_,?_,λ p c=>?_⟩
 .rcases aO.mp c with c|c;.exact R.own p (dw c)
  .exact R.own p (d p c)
 .rw [aU,bH];refine⟨rn R.nd h,R.nd.sublist ((jF sel C 0).map _),λ a e b f=>?_⟩;rintro rfl;obtain⟨q,g,j⟩:=ba.mp f;exact m7 R.nd g (by rw [j];exact e)
 .rcases aO.mp c with c|c;.exact R.off p (dw c)
  .exact R.off p (d p c)
theorem Ready.left(R:Ready b s (C++D)):Ready b s C:=by have c:=R.nd;rw [aU,bH]at c;exact⟨R.jq,λ p a=>R.own p (aI _ a),c.1,λ p a=>R.off p (aI _ a)⟩
theorem Trans.LK{s a f:aD}(T:Trans s a eJ C)(U:Trans a f (qD C sel) (xK++tl)):Trans s f eJ (xK++(nB C sel++tl)):=by
 unfold qD at U;unfold nB;split at U
 .refine⟨λ b o e g=>?_,λ p c=>U.own p c,U.nd,λ p c=>?_,LJ T.sm U.sm⟩
  .refine U.keep b o (T.keep b o e g) λ d=>?_;obtain⟨p,c,rfl⟩:=ba.mp d;rcases T.fr p c with h|h;.exact g h
   .rw [h]at e;cases e
  .rcases U.fr p c with h|h;.obtain⟨q,j,k⟩:=ba.mp h;rw [<-k];exact T.fr q j
   .exact T.back h
 .exact Trans.then T U
theorem Trans.RS(T:Trans s s' eJ C)(h:xH sel=ah):Trans s s' eJ (qD C sel++nB C sel):=by
 unfold qD nB;split;.rw [aA];exact T
 .exact Trans.part T h
theorem Ready.NF(R:Ready b s C)(h:xH sel=ah):Ready b s (qD C sel++nB C sel):=by
 unfold qD nB;split;.rw [aA];exact R
 .exact Ready.split R h
structure Cx.Ok(X:Cx):Prop where
 kt:∀a o,X.kt.get a=ab o->X.b.h₀.get? a=ab o/\a∉X.b.tabs
 fix:∀p∈X.fix,X.b.h₀.get? p.1=ab p.2/\p.1∉X.b.tabs
 specs:∀sp∈X.specs,bj X.b sp
 RN:Zh X.b X.RN
 nolimit:∀s,VD X.b s->s.heap.NoLimit
theorem rV(A:dx):∀κ:Kn,(κ.around A).depth=κ.dep A.depth:=by intro κ;induction κ with|base=>exact rfl|ret c a k κ ih=>show(κ.around A).depth+c.weight=κ.dep A.depth+c.weight;rw [ih]
theorem yZ(d:Nat):∀κ:Kn,κ.dep d=d+κ.dep 0:=by intro κ;induction κ with|base=>exact rfl|ret c _ _ κ ih=>show κ.dep d+c.weight=d+(κ.dep 0+c.weight);rw [ih,gG]
theorem NG(d:Nat):∀κ:Kn,κ.un d=d+κ.un 0:=by intro κ;induction κ with|base=>exact rfl|ret c _ _ κ ih=>show κ.un d+c.cUnits=d+(κ.un 0+c.cUnits);rw [ih,gG]
theorem AF(A:dx):∀κ:Kn,(κ.around A).units=κ.un A.units:=by intro κ;induction κ with|base=>exact rfl|ret c a k κ ih=>show(κ.around A).units+c.cUnits=κ.un A.units+c.cUnits;rw [ih]
theorem HD(c:aT):c.envs=[]\/∃v,c.envs=[v]:=by
 unfold Code.envs;split;.induction c.env? with|none=>exact .inl rfl|some v=>exact .inr ⟨v,rfl⟩
 .exact .inl rfl
theorem NH(h:VA v c F):∃a b f,c=a::b/\v.frame=ab f/\v.scope.kind=.function/\f=a/\F b:=by unfold VA at h;induction d:v.frame with|none=>rw [d]at h;exact h.elim|some f=>induction e:v.scope.kind<;>(rw [d,e]at h;first|exact h.elim|skip);induction c with|nil=>exact h.elim|cons a c=>exact⟨a,c,f,rfl,rfl,rfl,h.1,h.2⟩
theorem xM(A:dx):∀(κ:Kn)(b:List ae),κ.rT A.frames b->l_ (κ.around A).frames b:=by
 intro κ
 induction κ with
  |base=>intro _ h;exact h
  |ret c w k κ ih=>
   intro b h;show l_ (Y5 c.envs (κ.around A).frames) b;have h:Zf c.envs b (κ.rT A.frames):=h;rcases HD c with e|⟨v,e⟩;.rw [e]at h⊢;obtain⟨l,d,j⟩:=ih b h;exact⟨l,by rw [d];rfl,j⟩
   .rw [e]at h⊢;obtain⟨a,g,f,rfl,d,o,p,s⟩:=NH (show VA v b (κ.rT A.frames)from h);obtain⟨l,t,u⟩:=ih g s;exact⟨v::l,by rw [t];rfl,⟨d.trans (congrArg ab p),o⟩,u⟩
structure Rep(f6:aD)(eJ C:Cells)(n:Nw)(m i:Nat)(s:aD):Prop where
 tr:Trans f6 s eJ C
 adr:∀j,n.ad (m+j)=s.heap.objs.size+j
 tok:∀j,n.tk (i+j)=s.toks+j
theorem Rep.look(O:X.Ok)(b:Ready X.b f6 eJ)(D:Rep f6 eJ C n m i s)(h:pI X C a q=ab p)(d:∀f,p.1=ab f->a=f):s.heap.get? a=ab p.2:=by have g:=D.tr.jq b;induction q with|zero=>obtain⟨o,e,h⟩:=cJ h;cases h;have:=O.kt a _ e;exact g _ _ this.1 this.2|succ q=>have h:cond (gR (q%2) 0) (jz (λ p=>ab (ab p.1,p.2)) (bE C (q/2))) (jz (λ p=>ab (ab p.1,p.2)) (bE X.fix (q/2)))=ab p:=h;induction j:gR (q%2) 0 with|true=>rw [j]at h;obtain⟨c,e,h⟩:=cJ h;cases h;rw [d _ rfl];exact D.tr.own c (je e)|false=>rw [j]at h;obtain⟨c,e,h⟩:=cJ h;cases h;have:=O.fix c (je e);rw [d _ rfl];exact g _ _ this.1 this.2
theorem ma{a:ae}{b:Option ae}{E:List (Nat×Nat)}(h:lP (AA a b E)):(∀c,b=ab c->a=c)/\lP E:=by induction b with|none=>exact⟨λ d e=>(by injection e),h⟩|some b=>exact⟨λ d e=>bw e▸h.1,h.2⟩
section
variable(X:Cx)(f6:aD)(eJ:Cells)
noncomputable def LL(A:dx)(R:dq->aD->Prop):Fin->aD->Prop:=λ a b=>b.heap.NoLimit/\postC X.b.prog X.b.w A R a b
noncomputable def jr:Kn->dq->aD->Prop|.base=>λ r b=>∃j a tl,X.R₀ j r a tl/\Trans f6 b eJ (a++tl)|.ret c _ k κ=>λ r b=>a_ (aW X.b.prog X.b.w) (κ.around X.A₀) c (k r) (LL X (κ.around X.A₀) (jr κ)) (postE (jr κ)) b
noncomputable def Mn(c:aT)(κ:Kn)(t:nh Fin)(s:aD):Prop:=a_ (aW X.b.prog X.b.w) (κ.around X.A₀) c t (LL X (κ.around X.A₀) (jr X f6 eJ κ)) (postE (jr X f6 eJ κ)) s
end
theorem HE(h:Mn X f6 eJ c κ (vC h8 c) s):bx (aW X.b.prog X.b.w) (κ.around X.A₀) c (jr X f6 eJ κ) s:=y_code _ _ _ _ _ _ (aQ h (λ a a x=>x.2) λ a a x=>x)
theorem xN(k:(κ.around X.A₀).depth<qr)(M:s.heap.get? a=ab o)(N:o.data=.func fd)(B:fd.scope.isCoroutine=af)(w:fd.scope.isGenerator=af)(H:fd.code=.ref c)(D:s.heap.get? c=ab oc)(F:oc.data=.fields vs)(O:vs[1]?=ab (.str q tq))(h:Mn X f6 eJ (.call (.ref a) args) κ (pJ a fd q args) s):bx (aW X.b.prog X.b.w) (κ.around X.A₀) (.call (.ref a) args) (jr X f6 eJ κ) s:=by
 refine fD (aQ (Q:=postC X.b.prog X.b.w (κ.around X.A₀) (jr X f6 eJ κ)) (E:=postE (jr X f6 eJ κ)) ?_ (λ G I h=>by induction G<;>exact h) λ t t x=>x);show a_ _ _ _ (callAny (.ref a) args) _ _ s;simp only [callAny];refine au (iD (wpAny_load M ?_));simp only [N,callFunction,B,w,H];refine au (m:=qw (.ref c) 1) (iD (dW D F O ?_));refine au (iD (bc ?_));intro j p y J;have z:=h j p y J;unfold pJ at z;have K:Sem.wp (aW X.b.prog X.b.w) j (bindArgs fd args>>=λ f=>Y3 fd.scope fd.globals fd.closure f (q++".<locals>.") (ab a) fd.code az fd.builtins>>=λ env=>match fd.body with|.stmts b=>Sem.pure (Fin.again (fE b env))|.expr e=>Sem.pure (Fin.again (Code.expr e env))) _ _ p s:=z;rw [fK]at K;rw [fK];refine gi _ j _ (λ f P I u=>?_) (λ t t t u=>u) p s K;rw [fK]at u;rw [H]at u;rw [fK];refine gi _ j _ (λ env A R d=>?_) (λ t t t u=>u) P I u;have v:j.In ((κ.around X.A₀).under j.code):=J.in;rw [y]at v;have L:((κ.around X.A₀).under (.call (.ref a) args)).depth<qr:=by show(κ.around X.A₀).depth+(Y6 (.ref a) args).weight<qr;rw [show(Y6 (.ref a) args).weight=0 from rfl];exact k
 rw [fK];induction g:fd.body with|stmts b=>rw [g]at d;exact(Vf d.1 L d.2 j A v)|expr e=>rw [g]at d;exact(Vf d.1 L d.2 j A v)
theorem wd:∀(C:Cells)(q:Nat)(o:dR),(Az C q o).map (·.1)=C.map (·.1)|[],_,_=>rfl|_::_,0,_=>rfl|p::l,n+1,o=>by show p.1::(Az l n o).map (·.1)=_;rw [wd l n o];rfl
theorem we:∀{q:Nat}{o:dR}{p a:ae×dR},(C.map (·.1)).Nodup->bE C q=ab p->a∈Az C q o->a=(p.1,o)\/(a∈C/\a.1≠p.1):=by
 induction C with
  |nil=>intro _ _ _ _ _ _ h;exact absurd h ax
  |cons x l ih=>
   intro q o p a b e h;rw [bu,bM]at b
   induction q with
    |zero=>
     cases e;rcases aF.mp h with h|h;.exact .inl h
     .exact .inr ⟨.tail _ h,λ c=>b.1 (c▸aK h)⟩
    |succ n=>
     rcases aF.mp h with h|h;.exact .inr ⟨h▸.head _,λ c=>b.1 ((h▸c)▸aK (je e))⟩
     .exact(ih b.2 e h).imp_right λ h=>⟨.tail _ h.1,h.2⟩
theorem CC(h:wa T=ah):T="list_iterator"\/T="tuple_iterator"\/T="enumerate"\/T="str_ascii_iterator"\/T="str_iterator"\/T="dict_valueiterator":=by unfold wa at h;simpa only [ta,decide_eq_true_eq,or_assoc]using h
theorem AG{prog:d7}{w:cP}{A:dx}{E:aa->aD->Prop}(c:s.heap.get? a=ab o)(d:o.cls=.type T)(e:wa T=ah)(h:Q (.ref a) s):bV (aW prog w) A (Y4 (.ref a)) Q E s:=by
 have b:s.TypeIs (.ref a) T:=⟨o,c,d⟩;rcases CC e with rfl|rfl|rfl|rfl|rfl|rfl;.exact h9 b Q2 (gs Q2 b entry_listiter_iter (bc ⟨_,rfl,_,_,b,slot_listiter_next.lookup,h⟩) (args_listiter_iter _))
 .exact h9 b F.slot_tuple_iterator_iter (gs F.slot_tuple_iterator_iter b F.entry_tuple_iterator_iter (bc ⟨_,rfl,_,_,b,F.slot_tuple_iterator_next.lookup,h⟩) (F.args_tuple_iterator_iter_1 _))
 .exact h9 b F.slot_enumerate_iter (gs F.slot_enumerate_iter b F.entry_enumerate_iter (bc ⟨_,rfl,_,_,b,F.slot_enumerate_next.lookup,h⟩) (F.args_enumerate_iter_1 _))
 .exact h9 b F.slot_str_ascii_iterator_iter (gs F.slot_str_ascii_iterator_iter b F.entry_str_ascii_iterator_iter (bc ⟨_,rfl,_,_,b,F.slot_str_ascii_iterator_next.lookup,h⟩) (F.args_str_ascii_iterator_iter_1 _))
 .exact h9 b F.slot_str_iterator_iter (gs F.slot_str_iterator_iter b F.entry_str_iterator_iter (bc ⟨_,rfl,_,_,b,F.slot_str_iterator_next.lookup,h⟩) (F.args_str_iterator_iter_1 _))
 .exact h9 b F.slot_dict_valueiterator_iter (gs F.slot_dict_valueiterator_iter b entry_dict_valueiterator_iter (bc ⟨_,rfl,_,_,b,F.slot_dict_valueiterator_next.lookup,h⟩) (F.args_dict_valueiterator_iter_1 _))
theorem AH{prog:d7}{w:cP}{A:dx}{E:aa->aD->Prop}(b:(clausesOf e)[d]?=ab g)(c:g.is_async=0)(hi:∀Q:aa->aD->Prop,Q (.ref a) s->bV (aW prog w) A (Y4 (.ref a)) Q E s)(Q:Fin->aD->Prop)(h:Q (.again (.compLoop e d (.ref a) acc env)) s):bV (aW prog w) A (Vg e d (.ref a) acc env) Q E s:=by
 unfold Vg;rw [b];have f:((ab g).elim af (λ g=>g.is_async !=0))=af:=by simp [c]
 rw [if_neg (by rw [f];decide)];refine aw (wpAny_askSetting (wpAny_ite ?_));split;.exact aw (bc (bc h))
 .refine aw (lM ?_);refine aw (bI ?_);exact aw (hi _ (bc h))
theorem AI(h:xI e d=ah):uK (clausesOf e) d=ah/\∀it a env,(M9 e d it a env).isFrame=af:=by cases e<;>first|exact⟨h,λ b b b=>rfl⟩|exact(by injection h)
set_option tactic.hygienic true in theorem xO(c:xI e d=ah)(f:s.heap.get? a=ab o)(j:o.cls=.type T)(k:wa T=ah)(h:bx (aW prog w) A (.compLoop e d (.ref a) acc env) R s):bx (aW prog w) A (.compStart e d (.ref a) acc env) R s:=by
 obtain⟨b,p⟩:=AI c;unfold uK at b;split at b;rotate_left;.cases b
 rename_i g t;refine V7 ?_;show bV _ _ (if(M9 e d (.ref a) acc env).isFrame=ah then _ else(Vg e d (.ref a) acc env).onRaise (λ x=>do B' x env;eR theWindowsPlace)) _ _ s;rw [if_neg (by rw [p];decide)];exact wpAny_notedAt (AH t (of_decide_eq_true b) (λ Q u=>AG f j k u) _ (And.intro rfl h))
section
variable{f6:aD}{eJ:Cells}
theorem y0(h:Q3):h.get? h.objs.size=az:=by induction e:h.get? h.objs.size with|none=>rfl|some x=>exact absurd (e5 e) (fS _)
theorem Rep.alloc(f:o.isFreed=af)(D:Rep f6 eJ C n m i s):Rep f6 eJ ((n.ad m,o)::C) n (m+1) i {s with heap:=s.heap.push o}:=by
 have c:n.ad m=s.heap.objs.size:=by simpa using D.adr 0
 have T:=D.tr;refine⟨⟨λ b x e g=>bS _ (T.keep b x e g),λ p a=>?_,?_,λ p a=>?_,T.sm⟩,λ j=>?_,λ j=>D.tok j⟩
 .rcases aF.mp a with rfl|a;.show(s.heap.push o).get? (n.ad m)=ab o;rw [c];exact eX _ f
  .exact bS _ (T.own p a)
 .rw [bu,bM];refine⟨λ d=>?_,T.nd⟩;obtain⟨p,a,e⟩:=ba.mp d;have:=e5 (T.own p a);rw [e]at this;have h:(n.ad m,o).1=s.heap.objs.size:=c;rw [h]at this;exact fS _ this
 .rcases aF.mp a with rfl|a;.exact T.back (show s.heap.get? (n.ad m)=az from c▸y0 _)
  .exact T.fr p a
 .show n.ad (m+1+j)=(s.heap.push o).objs.size+j;rw [kq,show m+1+j=m+(1+j)by exact a7 (li 0x411013141103113 [m,j] rfl) (li 0x411031141101313 [m,j] rfl),D.adr,gG]
theorem Rep.update(D:Rep f6 eJ C n m i s)(c:bE C q=ab p)(k:(f p.2).isFreed=af):Rep f6 eJ (Az C q (f p.2)) n m i {s with heap:=s.heap.update p.1 f}:=by
 have T:=D.tr;have o:i5 p.1 s.heap (s.heap.update p.1 f):=fw ..;have t:=T.own p (je c);have v:(s.heap.update p.1 f).get? p.1=ab (f p.2):=by first|exact cX f t k|exact cX _ t k|(rw [cX _ t];exact k)
 refine⟨⟨λ b x e u=>?_,λ g a=>?_,?_,λ g a=>?_,T.sm⟩,λ j=>?_,λ j=>D.tok j⟩
 .refine(o.2 b λ w=>?_).trans (T.keep b x e u);subst w;rcases T.fr p (je c)with h|h;.exact u h
  .rw [h]at e;cases e
 .rcases we T.nd c a with rfl|⟨a,d⟩;.exact v
  .exact(o.2 g.1 d).trans (T.own g a)
 .rw [wd];exact T.nd
 .rcases we T.nd c a with rfl|⟨a,d⟩;.exact T.fr p (je c)
  .exact T.fr g a
 .show n.ad (m+j)=(s.heap.update p.1 f).objs.size+j;rw [o.1];exact D.adr j
end
theorem tB:¬rm n:=λ h=>nomatch h
theorem HF:¬False:=id
theorem AJ(h:Cv c=ab f):c=.call (.ref f.1) f.2:=by
 induction c with
  |call v a=>induction v<;>first|exact ns h|exact bw h▸rfl
  |_=>exact ns h
set_option tactic.hygienic true in theorem AK(h:xJ o=ab fd):o.data=.func fd/\fd.scope.isCoroutine=af/\fd.scope.isGenerator=af:=by
 unfold xJ at h;generalize o.data=D at h;induction D<;>first|exact ns h|skip
 rename_i f;have h:(bif f.scope.isCoroutine||f.scope.isGenerator then az else ab f)=ab fd:=h;induction a:(f.scope.isCoroutine||f.scope.isGenerator)with|true=>rw [a]at h;cases h|false=>rw [a]at h;cases h;exact⟨rfl,Bool.or_eq_false_iff.mp a⟩
theorem oD(h:refOf v=ab a):v=.ref a:=by induction v<;>first|exact ns h|exact bw h▸rfl
set_option tactic.hygienic true in theorem AL(h:nameOf o=ab q):∃vs t,o.data=.fields vs/\vs[1]?=ab (.str q t):=by
 unfold nameOf at h;generalize o.data=D at h;induction D<;>first|exact ns h|skip
 rename_i vs;obtain⟨v,a,h⟩:=cJ h;induction v<;>first|exact ns h|exact⟨vs,_,rfl,bw h▸a⟩
theorem CD(h:Cw o=ab T):o.cls=.type T:=by unfold Cw at h;generalize o.cls=D at h;induction D<;>first|exact ns h|exact bw h▸rfl
theorem AM(h:Cy c=ab f):c=.compStart f.1 f.2.1 (.ref f.2.2.1) f.2.2.2.1 f.2.2.2.2:=by
 induction c with
  |compStart e d it a env=>induction it<;>first|exact ns h|exact bw h▸rfl
  |_=>exact ns h
noncomputable def Wn(X:Cx)(f6:aD)(eJ:Cells)(ih:v_):Prop:=∀c κ t l alts C n m i E,ih c κ t l alts C n m i E->lP E/\∀s,Rep f6 eJ C n m i s->Mn X f6 eJ c κ t s
section
variable{X:Cx}{f6:aD}{eJ:Cells}{ih:v_}(IH:Wn X f6 eJ ih){κ:Kn}{r:dq}{c':aT}{l:List Nat}{alts:List Or}{C:Cells}{n:Nw}{m i q:Nat}{E:List (Nat×Nat)}
include IH
theorem nS(H:backTo X ih κ r l alts C n m i E):lP E/\∀s,Rep f6 eJ C n m i s->jr X f6 eJ κ r s:=by induction κ with|base=>obtain⟨j,l,H⟩:=kz (λ h=>nomatch h) H;obtain⟨a,H⟩:=jK tB H;obtain⟨b,d⟩:=pH H;exact⟨b,λ s D=>⟨_,_,_,d,D.tr.RS a⟩⟩|ret c e k κ=>exact IH _ _ _ _ _ _ _ _ _ _ H
theorem xP(O:X.Ok)(f:Ready X.b f6 eJ)(H:Cu X ih κ q c' l alts C E):lP E/\∀s n m i,Rep f6 eJ C n m i s->bx (aW X.b.prog X.b.w) (κ.around X.A₀) c' (jr X f6 eJ κ) s:=by
 obtain⟨h,b,H⟩:=d_ H;obtain⟨a,l,H⟩:=kz tB H;obtain⟨w,k⟩:=jK tB H;rw [<-yZ,<-NG,<-rV,<-AF]at k
 have ok:(∀{d u F c cs rest E K},h d u F c cs rest E K->lP E)/\∀c cs rest E K s,Ready X.b s (cs++rest)->h (κ.around X.A₀).depth (κ.around X.A₀).units (κ.rT X.A₀.frames) c cs rest E K->bx (aW X.b.prog X.b.w) (κ.around X.A₀) c (λ r g=>∃j e tl p,K j r e tl/\Trans s g cs (e p++tl)) s:=by
  unfold RQ at b;split at b;.rename_i x;have ok:=O.specs h (je b);exact⟨ok.eq,λ c cs rest E K s=>ok.ok _ _ c cs rest E K s (xM _ κ) x⟩
  .cases b;exact⟨O.RN.eq,O.RN.ok _ _⟩
 refine⟨ok.1 k,λ s n m i D=>?_⟩;refine dj (ok.2 _ _ _ _ _ s ((Trans.ready f D.tr).NF w) k) λ r g y=>?_;obtain⟨j,e,tl,p,t,U⟩:=y;obtain⟨o,_,t⟩:=uJ tB (t ⟨λ j=>g.heap.objs.size+j,λ j=>g.toks+j,p⟩);cases o with|mk z v=>exact(nS IH t).2 g ⟨D.tr.LK U,λ j=>by rw [cN],λ j=>by rw [cN]⟩
theorem jC(O:X.Ok)(a:Ready X.b f6 eJ)(H:uL (vC h8) X ih κ c' l alts C n m i E):lP E/\∀s,Rep f6 eJ C n m i s->bx (aW X.b.prog X.b.w) (κ.around X.A₀) c' (jr X f6 eJ κ) s:=by obtain⟨q,l,H⟩:=kz (λ h=>nomatch h) H;induction q with|zero=>obtain⟨b,d⟩:=IH _ _ _ _ _ _ _ _ _ _ H;exact⟨b,λ s D=>HE (d s D)⟩|succ q=>induction q with|zero=>obtain⟨f,u,H⟩:=d_ H;obtain⟨F,l,H⟩:=kz HF H;obtain⟨G,l,H⟩:=kz HF H;obtain⟨p,v,H⟩:=d_ H;obtain⟨I,e,H⟩:=d_ H;obtain⟨J,g,H⟩:=d_ H;obtain⟨K,j,H⟩:=d_ H;obtain⟨L,k,c,H⟩:=d_ H;obtain⟨b,d⟩:=IH _ _ _ _ _ _ _ _ _ _ H;obtain⟨w,b⟩:=ma b;obtain⟨x,b⟩:=ma b;obtain⟨y,z,A⟩:=AK e;obtain⟨vs,t,o,B⟩:=AL k;rw [AJ u]at d⊢;exact⟨b,λ s D=>xN (by rw [rV,yZ];exact c) (D.look O a v w) y z A (oD g) (D.look O a j x) o B (d s D)⟩|succ q=>obtain⟨b,d⟩:=xP IH O a H;exact⟨b,λ s D=>d s _ _ _ D⟩
theorem go_sound(O:X.Ok)(a:Ready X.b f6 eJ)(H:Hz (vC h8) X ih κ c' l alts C n m i E):lP E/\∀s,Rep f6 eJ C n m i s->bx (aW X.b.prog X.b.w) (κ.around X.A₀) c' (jr X f6 eJ κ) s:=by
 induction c' with
  |compStart e d it g env=>obtain⟨q,v,H⟩:=kz (λ h=>nomatch h) H;induction q with|zero=>exact jC IH O a H|succ q=>induction q with|zero=>obtain⟨f,j,H⟩:=d_ H;obtain⟨w,l,H⟩:=kz HF H;obtain⟨p,k,H⟩:=d_ H;obtain⟨T,o,H⟩:=d_ H;obtain⟨b,H⟩:=jK HF H;obtain⟨c,t⟩:=jC IH O a H;obtain⟨u,c⟩:=ma c;rw [h_]at b;rw [AM j];exact⟨c,λ s D=>xO b.2 (D.look O a k u) (CD o) b.1 (t s D)⟩|succ q=>exact jC IH O a H
  |_=>exact jC IH O a H
theorem step_sound(O:X.Ok)(u:Ready X.b f6 eJ):Wn X f6 eJ (Cz (vC h8) X ih):=by
 intro c κ t l alts C n m i E H;have J:∀s,Rep f6 eJ C n m i s->s.heap.NoLimit:=λ s D=>O.nolimit s (D.tr.jq u)
 induction t with
  |pure B=>induction B with|done f=>obtain⟨d,b⟩:=nS IH H;exact⟨d,λ s D=>y_pure _ _ _ _ _ _ _ _ _ ⟨J _ D,b s D⟩⟩|again c'=>obtain⟨A,H⟩:=jK HF H;obtain⟨d,b⟩:=go_sound IH O u H;exact⟨d,λ s D=>y_pure _ _ _ _ _ _ _ _ _ ⟨J _ D,A,b s D⟩⟩
  |raise e=>obtain⟨d,b⟩:=nS IH H;exact⟨d,λ s D=>y_raise _ _ _ _ _ _ _ _ _ (b s D)⟩|rule tag k=>exact(IH _ _ _ _ _ _ _ _ _ _ H).imp_right λ b s D=>Y7 _ _ _ _ _ _ _ _ _ 1 (b s D)|«at»q k=>exact(IH _ _ _ _ _ _ _ _ _ _ H).imp_right λ b s D=>Y7 _ _ _ _ _ _ _ _ _ 1 (b s D)|point q k=>exact(IH _ _ _ _ _ _ _ _ _ _ H).imp_right λ b s D=>Y7 _ _ _ _ _ _ _ _ _ 1 (b s D)|ask k=>exact(IH _ _ _ _ _ _ _ _ _ _ H).imp_right λ b s D=>Y7 _ _ _ _ _ _ _ _ _ 1 (b s D)|load a q k=>obtain⟨K,l,H⟩:=kz (λ h=>nomatch h) H;obtain⟨p,w,H⟩:=uJ tB H;obtain⟨d,b⟩:=IH _ _ _ _ _ _ _ _ _ _ H;obtain⟨v,d⟩:=ma d;exact⟨d,λ s D=>au (iD (wpAny_loadPart (D.look O u w v) (b s D)))⟩|loadIfAlive a k=>obtain⟨K,l,H⟩:=kz (λ h=>nomatch h) H;obtain⟨p,w,H⟩:=uJ tB H;obtain⟨d,b⟩:=IH _ _ _ _ _ _ _ _ _ _ H;obtain⟨v,d⟩:=ma d;exact⟨d,λ s D=>y_alive _ _ _ _ _ _ _ _ _ _ _ _ _ _ _ (D.look O u w v) (b _ D)⟩|alloc o k=>obtain⟨y,H⟩:=jK tB H;obtain⟨d,b⟩:=IH _ _ _ _ _ _ _ _ _ _ H;refine⟨d,λ s D=>?_⟩;have F:n.ad m=s.heap.objs.size:=D.adr 0;have z:=b _ (D.alloc ((i6 _).mp y));rw [F]at z;exact au (iD (wpAny_alloc z))|update a q f k=>obtain⟨K,l,H⟩:=kz (λ h=>nomatch h) H;obtain⟨p,w,H⟩:=uJ tB H;obtain⟨y,H⟩:=jK tB H;obtain⟨⟨v,d⟩,b⟩:=IH _ _ _ _ _ _ _ _ _ _ H;have v:a=p.1:=v;subst v;exact⟨d,λ s D=>au (iD (wpAny_updatePart (D.tr.own p (je w)) (b _ (D.update w ((i6 _).mp y)))))⟩|fresh k=>obtain⟨d,b⟩:=IH _ _ _ _ _ _ _ _ _ _ H;refine⟨d,λ s D=>?_⟩;have F:n.tk i=s.toks:=D.tok 0;have z:=b ⟨s.heap,s.gens,s.drawn,s.toks+1,s.os⟩ ⟨⟨D.tr.keep,D.tr.own,D.tr.nd,D.tr.fr,D.tr.sm⟩,D.adr,λ j=>by rw [qu i 1 j];exact(D.tok (j+1)).trans (qu s.toks j 1)⟩;rw [F]at z;exact y_fresh _ _ _ _ _ _ _ _ _ _ _ _ _ z|handled G k=>obtain⟨y,H⟩:=jK HF H;induction G with|true=>cases y|false=>exact(IH _ _ _ _ _ _ _ _ _ _ H).imp_right λ b s D=>y_handled _ _ _ _ _ _ _ _ _ (b s D)
  |call c' L g N k=>
   obtain⟨A,H⟩:=jK tB H;have I:L≠ab byPass:=λ e=>by rw [e]at A;simp [okMark]at A
   exact(go_sound IH O u H).imp_right λ b s D=>y_call _ _ _ _ _ _ _ _ _ _ _ _ _ I (dj (b s D) λ M M x=>x)
  |_=>exact nomatch H
end
theorem wg{X:Cx}(O:X.Ok)(b:Ready X.b f6 eJ):∀n,Wn X f6 eJ (sy (vC h8) X n):=by intro n;induction n with|zero=>exact λ a a a a a a a a a a H=>nomatch H|succ n ih=>exact step_sound ih O b
noncomputable def HG(X:Cx)(s:aD)(C:Cells)(r:dq)(b:aD):Prop:=∃j a tl,X.R₀ j r a tl/\Trans s b C (a++tl)
noncomputable def NI(s:aD)(a:Nat->Ht):Nw:=⟨λ j=>s.heap.objs.size+j,λ j=>s.toks+j,a⟩
theorem Rep.start{X:Cx}(R:Ready X.b s C):Rep s C C (NI s hs) 0 0 s:=⟨Trans.refl R,λ j=>by rw [cN];rfl,λ j=>by rw [cN];rfl⟩
theorem wh{X:Cx}(O:X.Ok)(R:Ready X.b s C)(H:∀n:Nw,n.hs=hs->AB X c .cd o C n):bx (aW X.b.prog X.b.w) X.A₀ c (HG X s C) s:=by cases o with|mk l alts=>exact(go_sound (wg O R _) O R (H (NI s hs) rfl)).2 s (Rep.start R)
theorem wj(O:X.Ok)(R:Ready X.b s C)(H:∀n:Nw,n.hs=hs->run X c (HA t f) o C n):a_ (aW X.b.prog X.b.w) X.A₀ c t (λ v=>HG X s C (.ok (f v))) (λ e=>HG X s C (.error e)) s:=by cases o with|mk l alts=>have z:=(wg O R _ _ _ _ _ _ _ _ _ _ _ (H (NI s hs) rfl)).2 s (Rep.start R);intro a p g b;have z:=z a p g b;have z:Sem.wp _ a (t>>=λ v=>(pure (.done (f v)):nh Fin)) _ _ p s:=z;rw [fK]at z;exact gi _ a _ (λ v h j d=>(show _/\_ from d).2) (λ e h j d=>d) p s z
@[irreducible]noncomputable def jj(i:Nat):Option ea:=bE PySem.Challenge.pw_wb0048_01.main.body i
structure Pa where
 es:List bO:=[]
 bs:List (List ea):=[]
 nm:aR:=xv
 ar:Arguments:=default
 sc:B_:=default
noncomputable def RT:bO->Pa|.BoolOp _ es _=>{es}|.BinOp l _ r _=>{es:=[l,r]}|.UnaryOp _ x _=>{es:=[x]}|.Lambda ar b sc _=>{es:=[b],ar,sc}|.IfExp t x y _=>{es:=[t,x,y]}|.ListComp x _ sc _=>{es:=[x],sc}|.DictComp k v _ sc _=>{es:=[k,v],sc}|.Compare l _ a _=>{es:=l::a}|.Call f c _ _=>{es:=f::c}|.List es _=>{es}|.Tuple es _ _=>{es}|.Dict _ es _=>{es}|.Attribute x _ _=>{es:=[x]}|.Subscript x y _=>{es:=[x,y]}|_=>{}
noncomputable def paS:ea->Pa|.FunctionDef nm ar b _ _ _ sc _ _ _=>{nm,ar,bs:=[b],sc}|.Return (ab x) _=>{es:=[x]}|.Assign ts x _=>{es:=x::ts}|.For t it b o _=>{es:=[t,it],bs:=[b,o]}|.While t b o _=>{es:=[t],bs:=[b,o]}|.If t b o _=>{es:=[t],bs:=[b,o]}|.Expr x _=>{es:=[x]}|.Try b _ _ _ _=>{bs:=[b]}|_=>{}
noncomputable def RU:Option ea->Pa|ab s=>paS s|az=>{}
noncomputable def RV(l:List bO)(i:Nat):bO:=match bE l i with|ab e=>e|az=>.Constant .none 0 default
noncomputable def Wo(l:List (List ea))(i:Nat):List ea:=match bE l i with|ab e=>e|az=>[]
noncomputable def sE(o:Option ea)(i:Nat):bO:=RV (RU o).es i
noncomputable def sB(o:Option ea)(i:Nat):List ea:=Wo (RU o).bs i
noncomputable def xE(e:bO)(i:Nat):bO:=RV (RT e).es i
noncomputable def kP(o:Option ea):Aw:=(o.map Stmt.pos).getD (aY default)
noncomputable def RW(o:Option ea):List ea:=sB o 0
noncomputable def NJ(o:Option ea):B_:=(RU o).sc
noncomputable def gH(o:Option ea):aR:=(RU o).nm
noncomputable def RX(o:Option ea):Arguments:=(RU o).ar
noncomputable def aP(i:Nat):List ea:=RW (jj i)
noncomputable def CE(i:Nat):B_:=NJ (jj i)
structure NK where
 i:Nat
 c:Nat
 t:Nat
 ln:Nat
 n:Nat
 f:Nat:=0
 kw:Nat:=0
 fl:Nat:=3
 m:Nat:=3
 df:aa:=.none
 kd:aa:=.none
noncomputable def CF:aR:=aG "/claim/cut.py"
noncomputable def RY:Nat->aa|0=>.str (aG "cpy313.bisect") 187|1=>.str (aG "cpy313.dis") 243|2=>.str (aG "cpy313.xml.etree.ElementTree") 295|_=>.str (aG "law_wb0048_01") 324
noncomputable def nI(n:Nat):aa:=.int n 0
noncomputable def NK.refs(l:NK):Nat×Nat×aa×aa:=match l.f with|0=>(l.c-3,l.c-2,.none,.none)|_=>(l.c-5,l.c-4,.ref (l.c-3),.ref (l.c-2))
noncomputable def NK.code(l:NK):dR:={cls:=.type "code",data:=.fields #[.str (gH (jj l.i)) l.t,.str (gH (jj l.i)) (l.t+1),.str CF (l.t+2),nI l.ln,nI l.n,nI 0,nI l.kw,nI l.fl,.ref l.refs.1,.bool ah,nI 181,.ref l.refs.2.1,.none,l.refs.2.2.1,l.refs.2.2.2,.ref (l.c-1),nI (l.t+3+l.f),nI l.ln,.str CF (l.t+4+l.f)]}
noncomputable def NK.func(l:NK):dR:={cls:=.type "function",data:=.func {name:=gH (jj l.i),qualname:=gH (jj l.i),params:=RX (jj l.i),body:=.stmts (aP l.i),scope:=CE l.i,globals:=3,closure:=[],defaults:=l.df,kwdefaults:=l.kd,pyModule:=RY l.m,code:=.ref l.c}}
noncomputable def lies:List NK:=[{i:=1,c:=22,t:=191,ln:=2,n:=4,f:=5,kw:=1,m:=0,df:=.ref 15,kd:=.ref 16},{i:=2,c:=31,t:=204,ln:=8,n:=4,f:=6,kw:=1,m:=0,df:=.ref 24,kd:=.ref 25},{i:=3,c:=40,t:=218,ln:=28,n:=4,f:=5,kw:=1,m:=0,df:=.ref 33,kd:=.ref 34},{i:=4,c:=49,t:=231,ln:=34,n:=4,f:=6,kw:=1,m:=0,df:=.ref 42,kd:=.ref 43},{i:=7,c:=57,t:=276,ln:=56,n:=1,f:=4,m:=1},{i:=8,c:=64,t:=286,ln:=68,n:=1,f:=3,m:=1},{i:=10,c:=71,t:=297,ln:=77,n:=1,f:=1,m:=2},{i:=11,c:=80,t:=304,ln:=79,n:=3,f:=5,fl:=11,m:=2,df:=.ref 74},{i:=12,c:=87,t:=315,ln:=84,n:=2,f:=3,m:=2},{i:=14,c:=92,t:=326,ln:=90,n:=2},{i:=15,c:=97,t:=332,ln:=93,n:=1},{i:=16,c:=102,t:=338,ln:=96,n:=2},{i:=17,c:=109,t:=344,ln:=108,n:=1,f:=11},{i:=18,c:=114,t:=361,ln:=120,n:=2},{i:=19,c:=119,t:=367,ln:=126,n:=3},{i:=20,c:=126,t:=373,ln:=131,n:=4,f:=6},{i:=21,c:=133,t:=385,ln:=139,n:=5,f:=7},{i:=22,c:=138,t:=398,ln:=151,n:=3},{i:=23,c:=143,t:=404,ln:=172,n:=1}]
noncomputable def LM(P:mY)(s:aR)(t:Nat)(v:aa):aj:={hash:=PyData.keyHash P s,key:=.str s t,val:=v}
noncomputable def gS(P:mY)(s:String)(t:Nat)(v:aa):aj:=LM P (aG s) t v
noncomputable def gF(P:mY)(i t a:Nat):aj:=LM P (gH (jj i)) t (.ref a)
noncomputable def RZ(P:mY):dR:={cls:=.type "dict",data:=.dict #[gS P "__name__" 165 (RY 3),gS P "__doc__" 166 .none,gS P "__package__" 167 .none,gS P "__loader__" 168 (.builtin "__main__.__loader__#opaque"),gS P "__spec__" 169 .none,gS P "__annotations__" 170 (.ref 6),gS P "__builtins__" 171 (.ref 4),gS P "__file__" 173 (.str CF 172),gS P "__cached__" 174 .none,gF P 1 201 23,gF P 2 215 32,gF P 3 228 41,gF P 4 242 50,gS P "COMPILER_FLAG_NAMES" 275 (.ref 51),gF P 7 285 58,gF P 8 294 65,gF P 10 303 72,gF P 11 314 81,gF P 12 323 88,gF P 14 331 93,gF P 15 337 98,gF P 16 343 103,gF P 17 360 110,gF P 18 366 115,gF P 19 372 120,gF P 20 384 127,gF P 21 397 134,gF P 22 403 139,gF P 23 409 144] 29}
noncomputable def Hb(k:Nat)(t:Nat)(s:String):aj:={hash:=k,key:=.int k t,val:=.str (aG s) (t+1)}
noncomputable def wk:dR:={cls:=.type "dict",data:=.dict #[Hb 1 245 "OPTIMIZED",Hb 2 247 "NEWLOCALS",Hb 4 249 "VARARGS",Hb 8 251 "VARKEYWORDS",Hb 16 253 "NESTED",Hb 32 255 "GENERATOR",Hb 64 257 "NOFREE",Hb 128 259 "COROUTINE",Hb 256 261 "ITERABLE_COROUTINE",Hb 512 263 "ASYNC_GENERATOR"] 10}
noncomputable def CG(vs:List aa):dR:={cls:=.type "tuple",data:=.seq vs.toArray}
noncomputable def HH(P:mY)(t:Nat):dR:={cls:=.type "dict",data:=.dict #[gS P "key" t .none] 1}
noncomputable def K0(P:mY):Frag:=(0,boot_o_0 P)::(4,boot_o_4 P)::(3,RZ P)::(15,CG [.int 0 189,.none])::(16,HH P 190)::(24,CG [.int 0 202,.none])::(25,HH P 203)::(33,CG [.int 0 216,.none])::(34,HH P 217)::(42,CG [.int 0 229,.none])::(43,HH P 230)::(51,wk)::(73,{cls:=.type "dict",data:=.dict #[]})::(74,CG [.ref 73])::lies.flatMap λ l=>[(l.c,l.code),(l.c+1,l.func)]
noncomputable def R0:List ae:=[0,4,3,15,16,24,25,33,34,42,43,51,73,74,22,23,31,32,40,41,49,50,57,58,64,65,71,72,80,81,87,88,92,93,97,98,102,103,109,110,114,115,119,120,126,127,133,134,138,139,143,144]
theorem rW(P:mY):R0=(K0 P).map (·.1):=by kernel_rfl
noncomputable def qv:d7:=view PySem.Challenge.pw_wb0048_01 [23]
noncomputable def uN:List aR:=[gH (jj 1),gH (jj 2),gH (jj 3),gH (jj 4),aG "COMPILER_FLAG_NAMES",gH (jj 7),gH (jj 8),gH (jj 10),gH (jj 11),gH (jj 12),gH (jj 14),gH (jj 15),gH (jj 16),gH (jj 17),gH (jj 18),gH (jj 19),gH (jj 20),gH (jj 21),gH (jj 22)]
noncomputable def CH(p q:d7)(a:List aR)(c ts:List ae)(w:cP)(N:Nat):=(fencedOpening Vh p w N).map (λ b=>((topFrom Vh p (w.withFollow "special-get-raises" af) N b).map (λ s=>(openSeen q a (V8 p.main.body) (λ d=>ah) ah s,(c.map s.heap.get?,ts.map s.heap.get?))),(topFrom Vh p (w.withFollow "special-get-raises" ah) N b).map (λ s=>(openSeen q a (V8 p.main.body) (λ d=>ah) ah s,(c.map s.heap.get?,ts.map s.heap.get?)))))
theorem xQ:CH=CH:=rfl
end gy.Lean
name_quick headFQ for gy.Lean.CH by gy.Lean.xQ
namespace gy.Lean
theorem CI(w:cP):Fast.headFQ PySem.Challenge.pw_wb0048_01 qv uN R0 [100,136,141] w 1700=ab (ab (openGood qv uN,((K0 w.params).map λ p=>ab p.2,[ab (vD #[]),ab (vD #[]),ab (vD #[])])),ab (openGood qv uN,((K0 w.params).map λ p=>ab p.2,[ab (vD #[]),ab (vD #[]),ab (vD #[])]))):=by kernel_rfl
theorem left:LeftO PySem.Challenge.pw_wb0048_01 qv uN (λ a=>ah) (kmHook K0 R0 rW [100,136,141]).obs (kmHook K0 R0 rW [100,136,141]).val 1700:=LeftO.of_split "special-get-raises" λ w=>by have h:=CI w;rw [<-Fast.headFQ_eq]at h;exact h
noncomputable def lO(vs:List aa)(ep:Nat):dR:={cls:=.type "list",dict:=az,data:=.seq vs.toArray ep,slots:=#[]}
theorem Trans.same(R:Ready b s C)(tk:Nat):Trans s {s with toks:=tk} C C:=⟨λ a a e a=>e,R.own,R.nd,λ p c=>.inl (aK c),⟨rfl,rfl⟩⟩
theorem Trans.nil(s:aD)(tk:Nat):Trans s {s with toks:=tk} [] []:=⟨λ a a e a=>e,λ a h=>(absurd h ax),g9,λ a h=>(absurd h ax),⟨rfl,rfl⟩⟩
theorem Trans.upd(d:s.heap.get? a=ab o)(e:f o=o')(g:o'.isFreed=af)(tk:Nat):Trans s {s with heap:=s.heap.update a f,toks:=tk} [(a,o)] [(a,o')]:=by
 have i:i5 a s.heap (s.heap.update a f):=fw ..
 have j:(s.heap.update a f).get? a=ab o':=by
  have:(s.heap.update a f).get? a=ab (f o):=by first|exact cX f d (e▸g)|exact cX _ d (e▸g)|(rw [cX _ d];exact(e▸g))
  rw [this,e]
 refine⟨λ b x h k=>(i.2 b (by simpa using k)).trans h,λ p c=>?_,by simp,λ p c=>?_,⟨rfl,rfl⟩⟩;.simp only [ay]at c;subst c;exact j
 .simp only [ay]at c;subst c;left;simp
theorem Trans.new(c:o.isFreed=af)(tk:Nat):Trans s {s with heap:=s.heap.push o,toks:=tk} [] [(s.heap.objs.size,o)]:=by
 refine⟨λ b x h d=>bS _ h,λ p a=>?_,by simp,λ p a=>?_,⟨rfl,rfl⟩⟩;.simp only [ay]at a;subst a;exact eX _ c
 .simp only [ay]at a;subst a;right;induction e:s.heap.get? s.heap.objs.size with|none=>rfl|some x=>exact absurd (e5 e) (fS _)
theorem Trans.eA(R:Ready b s (C++D))(T:Trans s s' C C'):Trans s s' (C++D) (C'++D):=by
 have d:=R.nd;rw [aU,bH]at d;refine⟨λ b o e f=>T.keep b o e λ h=>f (by rw [aU];exact aI _ h),λ p c=>?_,?_,λ p c=>?_,T.sm⟩
 .rcases aO.mp c with c|c;.exact T.own p c
  .refine T.keep _ _ (R.own p (aq _ c)) λ h=>?_;exact d.2.2 _ h _ (aK c) rfl
 .rw [aU,bH];refine⟨T.nd,d.2.1,λ a g b f=>?_⟩;rintro rfl;obtain⟨p,c,rfl⟩:=ba.mp g;rcases T.fr p c with h|h;.exact d.2.2 _ h _ f rfl
  .obtain⟨q,i,e⟩:=ba.mp f;have:=R.own q (aq _ i);rw [e,h]at this;cases this
 .rw [aU];rcases aO.mp c with c|c
  .rcases T.fr p c with h|h;.exact .inl (aI _ h)
   .exact .inr h
  .exact .inl (aq _ (aK c))
theorem bL{prog:d7}{w:cP}{id:String}{b:cK}(g:iL id=ah)(i:fg h8 id=ab b)(h:bV (aW prog w) A.in1 (b args) (λ c a=>match c with|.done f=>R (.ok f) a|.again d=>d.quiet=ah/\bx (aW prog w) A d R a) (λ e a=>R (.error e) a) s):bx (aW prog w) A (.builtin id args) R s:=by refine V7 ?_;rw [Around.under_plainId g];show bV _ _ (match fg h8 id with|ab b=>b args|az=>vT ((Y8 id "#data").getD id)) _ _ s;rw [i];exact h
theorem i9{prog:d7}{w:cP}{id:String}(a:iL id=ah)(c:fg h8 id=ab b)(g:rM (b args) (.val v))(h:R (.ok (.ret v)) s):bx (aW prog w) A (.builtin id args) R s:=bL a c (g.meets prog w A R s h)
theorem cz{prog:d7}{w:cP}{id:String}(a:iL id=ah)(c:fg h8 id=ab b)(g:Meets (b args) S)(h:S A R s):bx (aW prog w) A (.builtin id args) R s:=bL a c (g prog w A R s h)
noncomputable def nU(l:ae)(i:Int):dR:={cls:=.type "list_iterator",dict:=az,data:=.fields #[.ref l,.int i 0],slots:=#[]}
noncomputable def VE(i:Int):dR:={cls:=.type "list_iterator",dict:=az,data:=.fields #[.none,.int i 0],slots:=#[]}
noncomputable def HI(D:Array aa):dR:={cls:=.type "StopIteration",dict:=az,data:=.fields D,slots:=#[]}
theorem HJ(l:ae)(i j:Int):d8 (·.setIfInBounds 1 (kK j)) (nU l i)=nU l j:=rfl
theorem HK(l:ae)(i:Int):d8 (·.setIfInBounds 0 .none) (nU l i)=VE i:=rfl
theorem ro{a:Type}{prog:d7}{w:cP}{A:dx}{s:aD}{Q:a->aD->Prop}{E:aa->aD->Prop}(b:A.handled=az)(h:∀t D,E (.ref (s.heap.push t).objs.size) {s with heap:=(s.heap.push t).push (HI D)}):bV (aW prog w) A (newExc (.type "StopIteration") []>>=λ e=>(Y9 e:nh a)) Q E s:=by refine aw ?_;simp only [newExc,Li];refine aw (ia ?_ (by size_fits));refine aw (l8 (by first|rfl|(simp only [firstArgMember];rfl)) ?_);refine ia ?_ (by size_fits);simp only [Y9];refine aw (wpAny_handled ?_);rw [b];exact aw (bc (wpAny_throw (h _ _)))
theorem Trans.ended(hi:s.heap.get? it=ab o)(e:f o=o')(i:o'.isFreed=af)(t:dR)(D:Array aa):Trans s {s with heap:=((s.heap.update it f).push t).push (HI D)} [(it,o)] [(it,o'),(((s.heap.update it f).push t).objs.size,HI D)]:=by
 have d:i5 it s.heap (s.heap.update it f):=fw ..;have j:(s.heap.update it f).get? it=ab o':=e▸cX _ hi (e▸i);have c:=e5 hi;have g:((s.heap.update it f).push t).objs.size=s.heap.objs.size+1:=by rw [kq,d.1]
 refine⟨λ b x h k=>bS _ (bS _ ((d.2 b λ e=>k (e▸.head _)).trans h)),λ p a=>?_,?_,λ p a=>?_,⟨rfl,rfl⟩⟩;.cases a with|head=>exact bS _ (bS _ j)|tail _ a=>cases a with|head=>exact eX _ rfl|tail _ a=>cases a
 .refine bM.mpr ⟨λ h=>?_,bM.mpr ⟨ax,g9⟩⟩;have:=ay.mp h;rw [g]at this;exact q' (gU c) this
 .cases a with|head=>exact .inl (.head _)|tail _ a=>cases a with|tail _ a=>cases a|head=>right;induction e:s.heap.get? ((s.heap.update it f).push t).objs.size with|none=>rfl|some x=>have:=e5 e;rw [g]at this;exact absurd (ik (dM _) this) (fS _)
theorem Trans.one(d:h'.get? a=ab o')(f:i5 a s.heap h'):Trans s {s with heap:=h',toks:=tk} [(a,o)] [(a,o')]:=⟨λ b x e g=>(f.2 b λ h=>g (h▸.head _)).trans e,λ p c=>ay.mp c▸d,bM.mpr ⟨ax,g9⟩,λ p c=>.inl (ay.mp c▸.head _),⟨rfl,rfl⟩⟩
theorem Trans.trans(T:Trans s ND C Wq)(U:Trans ND s' Wq C'):Trans s s' C C':=by have:=Trans.LK (sel:=[250]) T (by rw [aA];exact U);simpa [nB,isAll]using this
theorem Ready.sub(R:Ready b s C)(h:e6 D C):Ready b s D:=⟨R.jq,λ p a=>R.own p (h.subset a),R.nd.sublist (h.map _),λ p a=>R.off p (h.subset a)⟩
theorem Trans.NL(T:Trans s s' C C')(h:e6 D' C'):Trans s s' C D':=⟨T.keep,λ p a=>T.own p (h.subset a),T.nd.sublist (h.map _),λ p a=>T.fr p (h.subset a),T.sm⟩
theorem Ready.perm(R:Ready b s C)(h:C.Perm D):Ready b s D:=⟨R.jq,λ p a=>R.own p (h.mem_iff.mpr a),(h.map _).nodup_iff.mp R.nd,λ p a=>R.off p (h.mem_iff.mpr a)⟩
theorem m8(h:ZFast.idIsZ a b=ah):a=b:=by rw [<-ZFast.idIsZ_eq]at h;exact of_decide_eq_true h
noncomputable abbrev PW:=PySem.Challenge.pw_wb0048_01
@[irreducible]noncomputable def kt(P:mY):KT:=KT.of (Lean.K0 P)
noncomputable def nu(i:Nat)(b:aR)(f c L:ae)(a:List (aR×ae)):fJ:={scope:=CE i,locals:=L,globals:=3,cells:=a,qual:=b,func:=ab f,code:=.ref c,frame:=ab L,builtins:=0}
noncomputable def Ht.s(x:Ht):Ht:=⟨λ j=>x.h (j+1),λ j=>x.t (j+1),x.e⟩
noncomputable def ie(x:Ht):List aR->List aa->List aj|n::ns,v::vs=>⟨x.h 0,.str n (x.t 0),v⟩::ie x.s ns vs|_,_=>[]
noncomputable def mO(c:String)(d:Vi):dR:=⟨.type c,az,d,#[]⟩
noncomputable def Rc(es:List aj)(ep:Nat):dR:=mO "frame" (.dict es.toArray ep)
noncomputable def dO(es:List aj)(ep:Nat):dR:=mO "dict" (.dict es.toArray ep)
noncomputable def ft(es:Array aj)(ep:Nat):dR:=mO "dict" (.dict es ep)
noncomputable def Hc(ns:List aR)(vs:List aa)(x:Ht):dR:=Rc (ie x ns vs) x.e
noncomputable def Wr(es:List aj)(ep:Nat)(sl:Array (Option aa)):dR:=⟨.type "frame",az,.dict es.toArray ep,sl⟩
noncomputable def dN(ns:List aR)(vs:List aa)(x:Ht):dR:=dO (ie x ns vs) x.e
noncomputable def iF(v:Option aa):dR:=mO "cell" (.cell v)
noncomputable def tO(vs:List aa)(ep:Nat):dR:=mO "tuple" (.seq vs.toArray ep)
noncomputable def nV(c:String)(vs:List aa):dR:=mO c (.fields vs.toArray)
noncomputable def j_(vs:List aa):dR:=⟨.none,az,.fields vs.toArray,#[]⟩
noncomputable def fO(a:eL)(b:Option ae):dR:=⟨.type "function",b,.func a,#[]⟩
noncomputable def y1:List Nat->List Nat->Bool|[],[]=>ah|x::xs,y::ys=>(gR x y).and (y1 xs ys)|_,_=>af
theorem js(h:a.and b=ah):a=ah/\b=ah:=Bool.and_eq_true_iff.mp h
theorem rX:∀{a b:List Nat},y1 a b=ah->a=b|[],[],_=>rfl|x::xs,y::ys,h=>by rw [ny (js h).1,rX (js h).2]|[],_::_,h=>(by injection h)|_::_,[],h=>(by injection h)
noncomputable def CJ(n:aR):aa->Bool|.str s _=>y1 s.cps.toList n.cps.toList|_=>af
theorem wo(h:CJ n v=ah):∃t,v=.str n t:=by induction v with|str s t=>exact⟨t,by rw [show s=n from l6 (iM (rX h))]⟩|_=>exact(by injection h)
noncomputable def y2(b:Bool)(o:Option α):Option α:=cond b o az
theorem i_(h:y2 b o=ab x):b=ah/\o=ab x:=by induction b with|true=>exact⟨rfl,h⟩|false=>exact(by injection h)
noncomputable def mc:List aR->List aj->Option (List aa)|[],[]=>ab []|n::ns,e::es=>y2 (CJ n e.key) (jz (λ vs=>ab (e.val::vs)) (mc ns es))|_,_=>az
noncomputable def Zi(h:Int)(t:aX)(x:Ht):Ht:=⟨λ|0=>h|j+1=>x.h j,λ|0=>t|j+1=>x.t j,x.e⟩
theorem pK(ep:Nat){ns:List aR}:∀{es:List aj}{vs:List aa},mc ns es=ab vs->∃x:Ht,x.e=ep/\es=ie x ns vs:=by
 induction ns with
  |nil=>intro es vs h;induction es with|nil=>exact⟨⟨λ a=>0,λ a=>0,ep⟩,rfl,by cases h;rfl⟩|cons _ _=>injection h
  |cons n ns b=>intro es vs h;induction es with|nil=>injection h|cons q es=>obtain⟨c,k,v⟩:=q;obtain⟨f,h⟩:=i_ h;obtain⟨i,g,e⟩:=cJ h;obtain⟨t,rfl⟩:=wo f;obtain⟨x,rfl,rfl⟩:=b g;exact⟨Zi c t x,rfl,by cases e;rfl⟩
noncomputable def y3:List aR->List aj->Option (List aa×List aj)|[],es=>ab ([],es)|n::ns,e::es=>y2 (CJ n e.key) (jz (λ p=>ab (e.val::p.1,p.2)) (y3 ns es))|_,_=>az
theorem CK(ep:Nat){ns:List aR}:∀{es more:List aj}{vs:List aa},y3 ns es=ab (vs,more)->∃x:Ht,x.e=ep/\es=ie x ns vs++more:=by induction ns with|nil=>intro es more vs h;exact⟨⟨λ a=>0,λ a=>0,ep⟩,rfl,by cases h;rfl⟩|cons n ns b=>intro es more vs h;induction es with|nil=>injection h|cons q es=>obtain⟨c,k,v⟩:=q;obtain⟨f,h⟩:=i_ h;obtain⟨⟨i,more⟩,g,e⟩:=cJ h;obtain⟨t,rfl⟩:=wo f;obtain⟨x,rfl,rfl⟩:=b g;exact⟨Zi c t x,rfl,by cases e;rfl⟩
noncomputable def CL(a:String):aa->Bool|.type c=>ZFast.idIsZ c a|_=>af
theorem rp(h:CL cn v=ah):v=.type cn:=by induction v with|type c=>exact congrArg _ (m8 h)|_=>exact(by injection h)
noncomputable def isNil:List α->Bool|[]=>ah|_=>af
theorem rY(h:isNil l.toList=ah):l=#[]:=by obtain⟨l⟩:=l;induction l with|nil=>rfl|cons _ _=>exact(by injection h)
theorem uO(h:Hy o=ah):o=az:=by induction o with|none=>rfl|some _=>exact(by injection h)
noncomputable def hM(a:String)(o:dR):Option Vi:=y2 (((isNil o.slots.toList).and (Hy o.dict)).and (CL a o.cls)) (ab o.data)
theorem eB(h:hM cn o=ab d):o=mO cn d:=by obtain⟨c,a,i,sl⟩:=o;obtain⟨h,e⟩:=i_ h;obtain⟨h,b⟩:=js h;obtain⟨f,g⟩:=js h;cases e;rw [rY (l:=sl) f,uO (o:=a) g,rp (v:=c) b];rfl
noncomputable def AN(f:List aa->Nat->Option α):Vi->Option α|.seq xs ep=>f xs.toList ep|_=>az
noncomputable def xR(f:List aa->Option α):Vi->Option α|.fields xs=>f xs.toList|_=>az
noncomputable def xS(f:Array aj->Nat->Option α):Vi->Option α|.dict es ep=>f es ep|_=>az
noncomputable def R2(f:Option aa->Option α):Vi->Option α|.cell v=>f v|_=>az
noncomputable def R3(f:eL->Option α):Vi->Option α|.func v=>f v|_=>az
section
variable{α:Type}{d:Vi}{x:α}
theorem oF{f:List aa->Nat->Option α}(h:AN f d=ab x):∃xs ep,d=.seq xs.toArray ep/\f xs ep=ab x:=by induction d<;>first|exact ns h|exact⟨_,_,rfl,h⟩
theorem m9{f:List aa->Option α}(h:xR f d=ab x):∃xs,d=.fields xs.toArray/\f xs=ab x:=by induction d<;>first|exact ns h|exact⟨_,rfl,h⟩
theorem m_{f:Array aj->Nat->Option α}(h:xS f d=ab x):∃es ep,d=.dict es ep/\f es ep=ab x:=by induction d<;>first|exact ns h|exact⟨_,_,rfl,h⟩
theorem HL{f:Option aa->Option α}(h:R2 f d=ab x):∃v,d=.cell v/\f v=ab x:=by induction d<;>first|exact ns h|exact⟨_,rfl,h⟩
theorem HM{f:eL->Option α}(h:R3 f d=ab x):∃v,d=.func v/\f v=ab x:=by induction d<;>first|exact ns h|exact⟨_,rfl,h⟩
end
inductive Kd where|fr(ns:List aR)|fm(ns:List aR)|ls|fn|cl|ob|it|tp|dc(ns:List aR)|fl(c:String)|tb|dd|fs(ns:List aR)
inductive Dv where|fr(vs:List aa)|fm(vs:List aa)(more:List aj)|ls(vs:List aa)|fn(fd:eL)(dk:Option ae)|cl(v:Option aa)|ob(o:dR)|it(l:ae)(i:Int)|dd(es:Array aj)(ep:Nat)|fs(vs:List aa)(sl:Array (Option aa))
noncomputable def VF(vs:List aa)(f:aa->aa->Option α):Option α:=match vs with|[v,w]=>f v w|_=>az
theorem xT{α:Type}{vs:List aa}{f:aa->aa->Option α}{x:α}(h:VF vs f=ab x):∃v w,vs=[v,w]/\f v w=ab x:=by
 rcases vs with _|⟨v,_|⟨w,_|⟨_,_⟩⟩⟩;.exact ns h
 .exact ns h
 .exact⟨v,w,rfl,h⟩
 .exact ns h
noncomputable def NM:aa->Option String|.type n=>ab n|_=>az
theorem y4(h:NM v=ab n):v=.type n:=by induction v<;>first|exact ns h|exact bw h▸rfl
noncomputable def R4:aa->Option (Int×aX)|.int i t=>ab (i,t)|_=>az
theorem HN(h:R4 v=ab i):v=.int i.1 i.2:=by induction v<;>first|exact ns h|exact bw h▸rfl
noncomputable def R5:aa->Option (aR×aX)|.str i t=>ab (i,t)|_=>az
theorem HO(h:R5 v=ab i):v=.str i.1 i.2:=by induction v<;>first|exact ns h|exact bw h▸rfl
noncomputable def NN:aT->Option (String×List aa)|.builtin s ⟨ps,[]⟩=>ab (s,ps)|_=>az
set_option tactic.hygienic true in theorem y5(h:NN c=ab q):c=.builtin q.1 ⟨q.2,[]⟩:=by
 induction c<;>first|exact ns h|skip
 rename_i s a;rcases a with⟨vs,_|⟨_,_⟩⟩;.exact bw h▸rfl
 .exact ns h
noncomputable def Ws(vs:List aa):Option Dv:=VF vs λ v w=>jz (λ l=>jz (λ i=>bif gR i.2 0 then ab (.it l i.1)else az) (R4 w)) (refOf v)
theorem CM{vs:List aa}{d:Dv}(h:Ws vs=ab d):∃l i,vs=[.ref l,.int i 0]/\d=.it l i:=by obtain⟨v,w,rfl,h⟩:=xT h;obtain⟨l,a,h⟩:=cJ h;obtain⟨⟨i,t⟩,b,h⟩:=cJ h;rw [oD a,HN b];induction t with|zero=>exact⟨_,_,rfl,(bw h).symm⟩|succ _=>exact ns h
noncomputable def CN:Kd->dR->Option Dv|.fr ns=>λ o=>jz (xS λ es a=>jz (λ vs=>ab (.fr vs)) (mc ns es.toList)) (hM "frame" o)|.fm ns=>λ o=>jz (xS λ es a=>jz (λ p=>ab (.fm p.1 p.2)) (y3 ns es.toList)) (hM "frame" o)|.dc ns=>λ o=>jz (xS λ es a=>jz (λ vs=>ab (.fr vs)) (mc ns es.toList)) (hM "dict" o)|.ls=>λ o=>jz (AN λ xs a=>ab (.ls xs)) (hM "list" o)|.tp=>λ o=>jz (AN λ xs a=>ab (.ls xs)) (hM "tuple" o)|.fn=>λ o=>y2 ((isNil o.slots.toList).and (CL "function" o.cls)) (R3 (λ b=>ab (.fn b o.dict)) o.data)|.cl=>λ o=>jz (R2 λ v=>ab (.cl v)) (hM "cell" o)|.it=>λ o=>jz (xR Ws) (hM "list_iterator" o)|.fl c=>λ o=>jz (xR λ vs=>ab (.fr vs)) (hM c o)|.tb=>λ o=>y2 (((isNil o.slots.toList).and (Hy o.dict)).and (match o.cls with|.none=>ah|_=>af)) (xR (λ vs=>ab (.fr vs)) o.data)|.dd=>λ o=>jz (xS λ es ep=>ab (.dd es ep)) (hM "dict" o)|.fs ns=>λ o=>y2 ((Hy o.dict).and (CL "frame" o.cls)) (xS (λ es a=>jz (λ vs=>ab (.fs vs o.slots)) (mc ns es.toList)) o.data)|.ob=>λ o=>ab (.ob o)
noncomputable def LN(x:Ht):Kd->Dv->dR|.fr ns,.fr vs=>Hc ns vs x|.fm ns,.fm vs more=>Rc (ie x ns vs++more) x.e|_,.fm _ more=>Rc more x.e|.dc ns,.fr vs=>dN ns vs x|.fl c,.fr vs=>nV c vs|.fs ns,.fs vs sl=>Wr (ie x ns vs) x.e sl|_,.fs vs sl=>Wr (ie x [] vs) x.e sl|.tp,.ls vs=>tO vs x.e|_,.fr vs=>j_ vs|_,.ls vs=>lO vs x.e|_,.dd es ep=>ft es ep|_,.fn a b=>fO a b|_,.cl v=>iF v|_,.ob o=>o|_,.it l i=>nU l i
noncomputable abbrev eK:=ae×Dv
noncomputable abbrev Hs:=Nat->Ht
noncomputable def d'(H:Hs):List Kd->List eK->Cells|k::ks,p::ps=>(p.1,LN (H 0) k p.2)::d' (λ j=>H (j+1)) ks ps|_,_=>[]
noncomputable def parse:List Kd->Cells->Option (List eK×Cells)|[],tl=>ab ([],tl)|k::ks,p::ps=>jz (λ d=>jz (λ r=>ab ((p.1,d)::r.1,r.2)) (parse ks ps)) (CN k p.2)|_,_=>az
theorem AO(h:CN k o=ab d):∃x,o=LN x k d:=by
 have i:∀ep,∃x:Ht,x.e=ep:=λ ep=>⟨⟨λ q=>0,λ q=>0,ep⟩,rfl⟩
 induction k with
  |fr ns=>obtain⟨b,a,h⟩:=cJ h;obtain⟨es,ep,rfl,h⟩:=m_ h;obtain⟨vs,g,m⟩:=cJ (f:=λ vs=>ab (Dv.fr vs)) (o:=mc ns es.toList) h;cases m;obtain⟨x,rfl,e⟩:=pK ep g;exact⟨x,by rw [eB a];show _=mO _ (.dict (ie x ns vs).toArray x.e);rw [<-e,fF]⟩|fm ns=>obtain⟨b,a,h⟩:=cJ h;obtain⟨es,ep,rfl,h⟩:=m_ h;obtain⟨⟨vs,more⟩,g,m⟩:=cJ (f:=λ p:List aa×List aj=>ab (Dv.fm p.1 p.2)) (o:=y3 ns es.toList) h;cases m;obtain⟨x,rfl,e⟩:=CK ep g;exact⟨x,by rw [eB a];show _=mO _ (.dict (ie x ns vs++more).toArray x.e);rw [<-e,fF]⟩|dc ns=>obtain⟨b,a,h⟩:=cJ h;obtain⟨es,ep,rfl,h⟩:=m_ h;obtain⟨vs,g,m⟩:=cJ (f:=λ vs=>ab (Dv.fr vs)) (o:=mc ns es.toList) h;cases m;obtain⟨x,rfl,e⟩:=pK ep g;exact⟨x,by rw [eB a];show _=mO _ (.dict (ie x ns vs).toArray x.e);rw [<-e,fF]⟩|ls=>obtain⟨b,a,h⟩:=cJ h;obtain⟨vs,ep,rfl,h⟩:=oF h;obtain⟨x,rfl⟩:=i ep;cases h;exact⟨x,eB a⟩|tp=>obtain⟨b,a,h⟩:=cJ h;obtain⟨vs,ep,rfl,h⟩:=oF h;obtain⟨x,rfl⟩:=i ep;cases h;exact⟨x,eB a⟩|fn=>obtain⟨x,_⟩:=i 0;obtain⟨c,n,b,sl⟩:=o;obtain⟨a,h⟩:=i_ h;obtain⟨a,g⟩:=js a;obtain⟨v,e,h⟩:=HM h;cases h;exact⟨x,by rw [rY (l:=sl) a,rp (v:=c) g];rw [show b=_ from e];rfl⟩|tb=>obtain⟨x,_⟩:=i 0;obtain⟨c,n,b,sl⟩:=o;obtain⟨a,h⟩:=i_ h;obtain⟨a,m⟩:=js a;obtain⟨a,g⟩:=js a;obtain⟨v,e,h⟩:=m9 h;cases h;rw [rY (l:=sl) a,uO (o:=n) g,show b=_ from e];induction c<;>first|exact⟨x,rfl⟩|exact(by injection m)
  |cl=>obtain⟨x,_⟩:=i 0;obtain⟨b,a,h⟩:=cJ h;obtain⟨v,rfl,h⟩:=HL h;cases h;exact⟨x,eB a⟩|it=>obtain⟨x,_⟩:=i 0;obtain⟨b,a,h⟩:=cJ h;obtain⟨v,rfl,h⟩:=m9 h;obtain⟨l,j,rfl,rfl⟩:=CM h;exact⟨x,eB a⟩|fl c=>obtain⟨x,_⟩:=i 0;obtain⟨b,a,h⟩:=cJ h;obtain⟨v,rfl,h⟩:=m9 h;cases h;exact⟨x,eB a⟩|dd=>obtain⟨x,_⟩:=i 0;obtain⟨b,a,h⟩:=cJ h;obtain⟨es,ep,rfl,h⟩:=m_ h;cases h;exact⟨x,eB a⟩|fs ns=>obtain⟨c,n,b,sl⟩:=o;obtain⟨a,h⟩:=i_ h;obtain⟨g,m⟩:=js a;obtain⟨es,ep,e,h⟩:=m_ h;obtain⟨vs,r,s⟩:=cJ (f:=λ vs=>ab (Dv.fs vs sl)) (o:=mc ns es.toList) h;cases s;obtain⟨x,rfl,t⟩:=pK ep r;exact⟨x,by rw [uO (o:=n) g,rp (v:=c) m,show b=_ from e];show _=(⟨_,_,.dict (ie x ns vs).toArray x.e,sl⟩:dR);rw [<-t,fF]⟩|ob=>obtain⟨x,_⟩:=i 0;cases h;exact⟨x,rfl⟩
theorem wq:∀{cs tl:Cells}{vs:List eK},parse ks cs=ab (vs,tl)->∃H,cs=d' H ks vs++tl:=by induction ks with|nil=>intro cs tl vs h;exact⟨λ a=>⟨λ a=>0,λ a=>0,0⟩,by cases h;rfl⟩|cons k ks b=>intro cs tl vs h;induction cs with|nil=>injection h|cons p ps=>obtain⟨d,c,h⟩:=cJ h;obtain⟨⟨vs,tl⟩,e,h⟩:=cJ h;cases h;obtain⟨x,f⟩:=AO c;obtain⟨H,rfl⟩:=b e;exact⟨λ|0=>x|j+1=>H j,congrArg (λ o=>(p.1,o)::_) f⟩
noncomputable def R6(c:aT):Option ae:=jz (λ q=>VF q.2 λ n x=>jz (λ n=>jz (λ a=>y2 ((ZFast.idIsZ q.1 "str.__new__").and (ZFast.idIsZ n "str")) (ab a)) (refOf x)) (NM n)) (NN c)
noncomputable def R7(vs:List aa):Option ae:=jz refOf vs[0]?
noncomputable def str1(vs:List aa)(n:Nat):Option (aR×aX):=match vs with|[v]=>R5 v|_=>az
noncomputable def Wt(o:dR):Option ae:=y2 (CL "ValueError" o.cls) (xR R7 o.data)
noncomputable def Wu(o:dR):Option (aR×aX):=jz (AN str1) (hM "tuple" o)
noncomputable def R8(cs:Cells)(P:ae×dR->ae×dR->Prop):Prop:=match cs with|[p,q]=>P p q|_=>False
theorem HP(h:R8 cs P):∃p q,cs=[p,q]/\P p q:=by
 rcases cs with _|⟨p,_|⟨q,_|⟨_,_⟩⟩⟩;.exact h.elim
 .exact h.elim
 .exact⟨_,_,rfl,h⟩
 .exact h.elim
noncomputable def CO:Sp:=λ d u a c cs rest E K=>pF (R6 c) λ x=>R8 cs λ p q=>pF (Wt p.2) λ t=>pF (Wu q.2) λ m=>Ra ((p.1,x)::(q.1,t)::E) (u+2<9900/\K 0 (.ok (.ret (.str m.1 m.2))) (λ a=>[p,q]) [])
theorem HQ{c:aT}{x:ae}(h:R6 c=ab x):c=.builtin "str.__new__" ⟨[.type "str",.ref x],[]⟩:=by obtain⟨q,e,h⟩:=cJ h;obtain⟨n,y,f,h⟩:=xT h;obtain⟨n,g,h⟩:=cJ h;obtain⟨a,i,h⟩:=cJ h;obtain⟨b,j⟩:=i_ h;cases j;obtain⟨b,k⟩:=js b;rw [y5 e,f,y4 g,oD i,m8 b,m8 k]
theorem HR(h:R7 vs=ab t):vs[0]?=ab (.ref t):=by obtain⟨v,e,h⟩:=cJ h;rw [e,oD h]
theorem HS(h:str1 vs n=ab m):vs=[.str m.1 m.2]:=by
 rcases vs with _|⟨v,_|⟨_,_⟩⟩;.exact ns h
 .rw [HO h]
 .exact ns h
theorem CP:Zh b CO:=by
 have key:∀{d u F c cs rest E K},CO d u F c cs rest E K->lP E/\∃(p q:ae×dR)(m:aR×aX)(vs:Array aa)(ep:Nat),c=.builtin "str.__new__" ⟨[.type "str",.ref p.1],[]⟩/\cs=[p,q]/\p.2.cls=.type "ValueError"/\p.2.data=.fields vs/\vs[0]?=ab (.ref q.1)/\q.2=mO "tuple" (.seq [.str m.1 m.2].toArray ep)/\u+2<9900/\K 0 (.ok (.ret (.str m.1 m.2))) (λ a=>[p,q]) []:=λ{d u F c cs rest E K}h=>by obtain⟨x,y,h⟩:=d_ h;obtain⟨p,q,rfl,h⟩:=HP h;obtain⟨t,z,h⟩:=d_ h;obtain⟨m,B,h⟩:=d_ h;obtain⟨⟨g,i,e⟩,j,k⟩:=pH h;have g:p.1=x:=g;have i:q.1=t:=i;obtain⟨l,n⟩:=i_ z;obtain⟨vs,o,r⟩:=m9 n;obtain⟨H,C,D⟩:=cJ B;obtain⟨xs,ep,rfl,G⟩:=oF D;subst g i;exact⟨e,p,q,m,vs.toArray,ep,HQ y,rfl,rp l,o,by rw [eC];exact HR r,(eB C).trans (by rw [HS G]),j,k⟩
 refine⟨λ h=>(key h).1,λ A I c cs rest E K s R h=>?_⟩;obtain⟨_,p,q,m,vs,ep,rfl,rfl,l,n,o,r,j,k⟩:=key h;have R1:=R.left;refine cz (by decide+kernel) F.entry_str_new (meets_str_new (S:=λ v R w=>v.units+1<yH/\w.heap.ExcAt p.1 "ValueError" (.ref q.1)/\w.heap.TupAt q.1 [.str m.1 m.2]/\R (.ok (.ret (.str m.1 m.2))) w) λ a a v a a f=>strOf_exc_one (A:=v.in1) F.excStr_ValueError f.1 f.2.1 f.2.2.1 f.2.2.2) ⟨Nat.lt_of_succ_lt j,⟨_,vs,R1.own p (.head _),l,n,o⟩,⟨_,ep,R1.own q (.tail _ (.head _)),by rw [r];exact⟨rfl,rfl⟩⟩,0,λ a=>[p,q],[],λ a=>⟨λ a=>0,λ a=>0,0⟩,k,by rw [aA];exact Trans.refl R1⟩
structure Good(b:Bs):Prop where
 prog:b.prog=PW
 kt:∀a o,(kt b.w.params).get a=ab o->b.h₀.get? a=ab o/\a∉b.tabs
 nolimit:∀s,VD b s->s.heap.NoLimit
 mods:∃o,b.h₀.get? 1=ab o/\1∉b.tabs
noncomputable def bN(b:Bs)(a:ae)(o:dR):Prop:=b.h₀.get? a=ab o/\a∉b.tabs
structure Ext(b b':Bs):Prop where
 prog:b'.prog=b.prog
 w:b'.w=b.w
 h:∀a o,bN b a o->bN b' a o
theorem Ext.ready(E:Ext b b')(R:Ready b' s C):Ready b s C:=by
 refine⟨λ a o e t=>?_,R.own,R.nd,λ p d=>?_⟩;.obtain⟨e,t⟩:=E.h a o ⟨e,t⟩;exact R.jq a o e t
 .by_cases ht:p.1∈b.tabs;.exact .inl ht
  .right
   induction e:b.h₀.get? p.1 with
    |none=>rfl
    |some o=>
     obtain⟨e,t⟩:=E.h _ o ⟨e,ht⟩;rcases R.off p d with h|h;.exact absurd h t
     .rw [h]at e;cases e
theorem Ext.lift(E:Ext b b')(h:bj b sp):bj b' sp:=⟨h.eq,λ A F c cs rest l K s a d R x=>by rw [E.prog,E.w];exact h.ok A F c cs rest l K s a d (E.ready R) x⟩
theorem rebase(G:Good b)(R:Ready b s (cs++rest)):∃d,Good d/\Ext b d/\Ready d s cs/\∀p∈rest,bN d p.1 p.2:=by
 have i:∀a o,bN b a o->a∉cs.map (·.1):=λ a o e f=>by
  obtain⟨p,g,rfl⟩:=ba.mp f;rcases R.off p (aI _ g)with h|h;.exact e.2 h
  .cases h.symm.trans e.1
 have j:=R.nd;rw [aU,bH]at j;let d:Bs:=⟨b.prog,b.w,⟨λ a=>if a∈cs.map (·.1)then az else s.heap.get? a⟩,[]⟩;have E:Ext b d:=⟨rfl,rfl,λ a o e=>⟨(if_neg (i a o e)).trans (R.jq a o e.1 e.2),ax⟩⟩;refine⟨d,⟨G.prog,λ a o e=>E.h a o (G.kt a o e),λ s' k=>G.nolimit s' λ a o e t=>?_,G.mods.elim λ o e=>⟨o,E.h 1 o e⟩⟩,E,⟨λ a o e l=>?_,R.left.own,R.left.nd,λ p g=>.inr (if_pos (aK g))⟩,λ p g=>⟨?_,ax⟩⟩;.obtain⟨e,t⟩:=E.h a o ⟨e,t⟩;exact k a o e t
 .have e:(if a∈cs.map (·.1)then az else s.heap.get? a)=ab o:=e;split at e;.cases e
  .exact e
 .exact(if_neg λ f=>j.2.2 _ f _ (aK g) rfl).trans (R.own p (aq _ g))
structure Ok(b:Bs)where
 sp:Sp
 ok:bj b sp
structure Fx(b:Bs)where
 a:ae
 o:dR
 ok:bN b a o
noncomputable def Wv:List (Fx b)->Cells|[]=>[]|x::l=>(x.a,x.o)::Wv l
noncomputable def Ww:List (Ok b)->List Sp|[]=>[]|x::l=>x.sp::Ww l
theorem NO(l:List (Fx b)):∀p∈Wv l,b.h₀.get? p.1=ab p.2/\p.1∉b.tabs:=by induction l with|nil=>exact λ d h=>(absurd h ax)|cons x l a=>exact dJ.mpr ⟨x.ok,a⟩
theorem NP(l:List (Ok b)):∀sp∈Ww l,bj b sp:=by induction l with|nil=>exact λ d h=>(absurd h ax)|cons x l a=>exact dJ.mpr ⟨x.ok,a⟩
structure Ev where
 dp:Nat
 un:Nat
 rT:Option (List fJ)
 gd:Option (List aT)
noncomputable def Ev.ar(e:Ev):dx:=⟨az,e.dp,e.rT,e.gd,e.un⟩
theorem Ev.of(h:A.handled=az):∃e:Ev,A=e.ar:=by obtain⟨a,d,f,g,i⟩:=A;cases(show a=az from h);exact⟨⟨d,i,f,g⟩,rfl⟩
noncomputable abbrev Kv:=Nat->dq->List eK->Cells->Prop
noncomputable def mkR(ks:Nat->List Kd)(K:Kv):Nat->dq->Cells->Cells->Prop:=λ j r cs a=>pF (parse (ks j) cs) λ p=>K j r p.1 p.2
noncomputable def Rf(b:Bs)(w:cP)(e:Ev)(fx:List (Fx b))(sp:List (Ok b))(ks:Nat->List Kd)(K:Kv):Cx:=⟨⟨PW,w,b.h₀,b.tabs⟩,Lean.kt w.params,Wv fx,Ww sp,e.ar,mkR ks K,CO⟩
structure At(b:Bs)(s0:aD)(C0:Cells)(s:aD)(C:Cells):Prop where
 R:Ready b s C
 T:Trans s0 s C0 C
theorem At.start(R:Ready b s C):At b s C s C:=⟨R,Trans.refl R⟩
section
variable{b:Bs}{s0 s s':aD}{C0 C C':Cells}
theorem At.to(a:At b s0 C0 s C)(U:Trans s s' C C'):At b s0 C0 s' C':=⟨Trans.ready a.R U,Trans.trans a.T U⟩
theorem At.perm(a:At b s0 C0 s C)(h:C.Perm C'):At b s0 C0 s C':=⟨a.R.perm h,a.T.perm h⟩
theorem At.sub(a:At b s0 C0 s C)(h:e6 C' C):At b s0 C0 s C':=⟨a.R.sub h,a.T.NL h⟩
end
noncomputable def Fi(b:Bs)(s0:aD)(C0:Cells)(ks:Nat->List Kd)(K:Kv)(r:dq)(s':aD):Prop:=∃j vs tl H,K j r vs tl/\At b s0 C0 s' (d' H (ks j) vs++tl)
theorem Fi.out{b:Bs}{s0 s':aD}{C0:Cells}{ks:Nat->List Kd}{K:Kv}{r:dq}{P:Prop}(h:Fi b s0 C0 ks K r s')(k:∀j vs tl H,K j r vs tl->At b s0 C0 s' (d' H (ks j) vs++tl)->P):P:=h.elim λ j h=>h.elim λ vs h=>h.elim λ tl h=>h.elim λ H h=>k j vs tl H h.1 h.2
section
variable(b:Bs)(e:Ev)(c:aT)
noncomputable def Do(t:nh α)(f:α->BR)(ks:List Kd)(vs:List eK)(ks':Nat->List Kd)(K:Kv):Prop:=∀H s0 C0 s,At b s0 C0 s (d' H ks vs)->a_ (aW b.prog b.w) e.ar c t (λ v=>Fi b s0 C0 ks' K (.ok (f v))) (λ x=>Fi b s0 C0 ks' K (.error x)) s
noncomputable def dg(ks:List Kd)(vs:List eK)(ks':Nat->List Kd)(K:Kv):Prop:=∀H s0 C0 s,At b s0 C0 s (d' H ks vs)->bx (aW b.prog b.w) e.ar c (Fi b s0 C0 ks' K) s
noncomputable def DS(a:List ea)(env:fJ)(ks:List Kd)(vs:List eK)(ks':Nat->List Kd)(K:Kv):Prop:=Do b e c (dU a env) id ks vs ks' K
noncomputable def DT(x:bO)(env:fJ)(ks:List Kd)(vs:List eK)(ks':Nat->List Kd)(K:Kv):Prop:=Do b e c (eP x env (dh x env)) Rb ks vs ks' K
noncomputable def DQ(x:bO)(d:Nat)(a v:aa)(env:fJ)(ks:List Kd)(vs:List eK)(ks':Nat->List Kd)(K:Kv):Prop:=Do b e c (jL x d a env v) (λ f=>.next) ks vs ks' K
noncomputable def DE(x:bO)(env:fJ)(ks:List Kd)(vs:List eK)(ks':Nat->List Kd)(K:Kv):Prop:=Do b e c (dh x env) .ret ks vs ks' K
end
section
variable{b:Bs}{e:Ev}{c:aT}{ks:List Kd}{vs:List eK}{ks':Nat->List Kd}{K:Kv}
theorem Fi.of{s0 s s':aD}{C0 C:Cells}(a:At b s0 C0 s C)(h:HG (Rf b w e fx sp ks' K) s C r s'):Fi b s0 C0 ks' K r s':=by obtain⟨j,cs,tl,f,T⟩:=h;obtain⟨⟨vs,d⟩,g,i⟩:=d_ f;obtain⟨H,rfl⟩:=wq g;exact⟨j,vs,d,H,i,(a.to T).sub (a9 _ _)⟩
theorem CQ(G:Good b)(fx:List (Fx b))(sp:List (Ok b)):Cx.Ok (Rf b b.w e fx sp ks' K):=by obtain⟨p,w,h,tb⟩:=b;cases(show p=PW from G.prog);exact⟨G.kt,NO fx,NP sp,CP,G.nolimit⟩
theorem jM{d:Type}{t:nh d}{f:d->BR}(G:Good b)(fx:List (Fx b))(sp:List (Ok b))(o:Or)(h:∀n,run (Rf b b.w e fx sp ks' K) c (HA t f) o (d' n.hs ks vs) n):Do b e c t f ks vs ks' K:=λ H s0 C0 s a=>by have O:=CQ (e:=e) (ks':=ks') (K:=K) G fx sp;obtain⟨p,w,i,tb⟩:=b;cases(show p=PW from G.prog);exact aQ (wj O a.R λ n g=>g▸h n) (λ v s' h=>Fi.of a h) λ x s' h=>Fi.of a h
theorem CR(G:Good b)(fx:List (Fx b))(sp:List (Ok b))(o:Or)(h:∀n,AB (Rf b b.w e fx sp ks' K) c .cd o (d' n.hs ks vs) n):dg b e c ks vs ks' K:=λ H s0 C0 s a=>by have O:=CQ (e:=e) (ks':=ks') (K:=K) G fx sp;obtain⟨p,w,f,tb⟩:=b;cases(show p=PW from G.prog);exact dj (wh O a.R λ n d=>d▸h n) λ r s' h=>Fi.of a h
noncomputable def two(b:Bs)(e:Ev)(c:aT)(fx:List (Fx b))(sp:List (Ok b))(p:Pt)(o:Or)(ks:List Kd)(vs:List eK)(ks':Nat->List Kd)(K:Kv)(v:Bool)(n:Nw):Prop:=ZFast.runZ (Rf b (ZFast.wrZ b.w v) e fx sp ks' K) c p o (d' n.hs ks vs) n
theorem me{fx:List (Fx b)}{sp:List (Ok b)}{p:Pt}{o:Or}(h:∀n,P n)(a:P=two b e c fx sp p o ks vs ks' K ah)(d:P=two b e c fx sp p o ks vs ks' K af)(n:Nw):AB (Rf b b.w e fx sp ks' K) c p o (d' n.hs ks vs) n:=by
 have z:two b e c fx sp p o ks vs ks' K (b.w.params.followText "special-get-raises") n:=by
  induction b.w.params.followText "special-get-raises";.exact d▸h n
  .exact a▸h n
 unfold two at z;rwa [<-ZFast.wrZ_eq,<-ZFast.runZ_eq,HB]at z
section
variable(G:Good b)(fx:List (Fx b))(sp:List (Ok b))(o:Or){P:Nw->Prop}(h:∀n,P n)
include G h
theorem dg.run(a:P=two b e c fx sp .cd o ks vs ks' K ah:=by kernel_rfl)(d:P=two b e c fx sp .cd o ks vs ks' K af:=by kernel_rfl):dg b e c ks vs ks' K:=CR G fx sp o (me h a d)
theorem DS.run{a:List ea}{env:fJ}(d:P=two b e c fx sp (.st a env) o ks vs ks' K ah:=by kernel_rfl)(f:P=two b e c fx sp (.st a env) o ks vs ks' K af:=by kernel_rfl):DS b e c a env ks vs ks' K:=jM G fx sp o (me h d f)
theorem DE.run{x:bO}{env:fJ}(a:P=two b e c fx sp (.ev x env) o ks vs ks' K ah:=by kernel_rfl)(d:P=two b e c fx sp (.ev x env) o ks vs ks' K af:=by kernel_rfl):DE b e c x env ks vs ks' K:=jM G fx sp o (me h a d)
theorem DT.run{x:bO}{env:fJ}(a:P=two b e c fx sp (.ts x env) o ks vs ks' K ah:=by kernel_rfl)(d:P=two b e c fx sp (.ts x env) o ks vs ks' K af:=by kernel_rfl):DT b e c x env ks vs ks' K:=jM G fx sp o (me h a d)
theorem DQ.run{x:bO}{d:Nat}{a v:aa}{env:fJ}(f:P=two b e c fx sp (.cr x d a env v) o ks vs ks' K ah:=by kernel_rfl)(g:P=two b e c fx sp (.cr x d a env v) o ks vs ks' K af:=by kernel_rfl):DQ b e c x d a v env ks vs ks' K:=jM G fx sp o (me h f g)
theorem DH.run{x:aa}{a:List rL}{env:fJ}(d:P=two b e c fx sp (.hb x a env) o ks vs ks' K ah:=by kernel_rfl)(f:P=two b e c fx sp (.hb x a env) o ks vs ks' K af:=by kernel_rfl):Do b e c (Lh x env a) id ks vs ks' K:=jM G fx sp o (me h d f)
end
end
inductive Vp where|an|re|it|st|bo|no|bi|ty|rq(a:ae)
noncomputable def Vp.T:Vp->Type->Type|.an=>λ α=>aa->α|.re=>λ α=>ae->α|.it=>λ α=>Int->aX->α|.st=>λ α=>aR->aX->α|.bo=>λ α=>Bool->α|.no=>λ α=>α|.rq _=>λ α=>α|.bi=>λ α=>String->α|.ty=>λ α=>String->α
noncomputable def Vp.ap{α:Type}:(p:Vp)->p.T α->aa->Option α
 |.an=>λ f v=>ab (f v)|.re=>λ f v=>match v with|.ref a=>ab (f a)|_=>az
 |.it=>λ f v=>match v with|.int i t=>ab (f i t)|_=>az
 |.st=>λ f v=>match v with|.str i t=>ab (f i t)|_=>az
 |.bo=>λ f v=>match v with|.bool i=>ab (f i)|_=>az
 |.no=>λ f v=>match v with|.none=>ab f|_=>az
 |.rq _=>λ f v=>match v with|.ref _=>ab f|_=>az
 |.bi=>λ f v=>match v with|.builtin i=>ab (f i)|_=>az
 |.ty=>λ f v=>match v with|.type i=>ab (f i)|_=>az
noncomputable def Vp.eq:Vp->aa->nq->nq
 |.rq a=>λ v E=>match v with|.ref g=>(g,a)::E|_=>E
 |_=>λ c E=>E
noncomputable def Vp.el{α:Type}:(p:Vp)->p.T α->(α->aa->Prop)->Prop|.an=>λ f F=>∀v,F (f v) v|.re=>λ f F=>∀a,F (f a) (.ref a)|.it=>λ f F=>∀i t,F (f i t) (.int i t)|.st=>λ f F=>∀s t,F (f s t) (.str s t)|.bo=>λ f F=>∀b,F (f b) (.bool b)|.no=>λ f F=>F f .none|.rq a=>λ f F=>F f (.ref a)|.bi=>λ f F=>∀s,F (f s) (.builtin s)|.ty=>λ f F=>∀s,F (f s) (.type s)
section
variable{α:Type}
theorem Vp.oG{p:Vp}{f:p.T α}{F:α->aa->Prop}{v:aa}{x:α}{E:nq}(h:p.el f F)(k:p.ap f v=ab x)(e:lP (p.eq v E)):F x v/\lP E:=by
 induction p with
  |rq a=>induction v<;>first|exact ns k|(obtain⟨c,e⟩:=e;dsimp only at c;induction c;exact⟨bw k▸h,e⟩)
  |_=>exact⟨by induction v<;>first|exact ns k|exact bw k▸h _ _|exact bw k▸h _|exact bw k▸h,e⟩
noncomputable def lT:List Vp->Type->Type|[],α=>α|p::ps,α=>p.T (lT ps α)
noncomputable def Hd:(l:List Vp)->lT l α->List aa->Option α|[],x,[]=>ab x|p::ps,f,v::vs=>jz (λ g=>Hd ps g vs) (p.ap f v)|_,_,_=>az
noncomputable def CS:List Vp->List aa->nq->nq|p::ps,v::vs,E=>p.eq v (CS ps vs E)|_,_,E=>E
noncomputable def CT:(l:List Vp)->lT l α->(α->List aa->Prop)->Prop|[],x,F=>F x []|p::ps,f,F=>p.el f λ g v=>CT ps g λ x vs=>F x (v::vs)
theorem mh{l:List Vp}:∀{f:lT l α}{F:α->List aa->Prop}{vs:List aa}{x:α}{E:nq},CT l f F->Hd l f vs=ab x->lP (CS l vs E)->F x vs/\lP E:=by
 induction l with
  |nil=>intro f F vs x E h k e;induction vs with|nil=>exact⟨by cases k;exact h,e⟩|cons _ _=>injection k
  |cons p ps a=>intro f F vs x E h k e;induction vs with|nil=>injection k|cons v vs=>obtain⟨g,c,k⟩:=cJ k;obtain⟨h,e⟩:=Vp.oG (F:=λ g v=>CT ps g λ x vs=>F x (v::vs)) h c e;exact a (F:=λ x vs=>F x (v::vs)) h k e
end
inductive Dp where|fr(l:List Vp)|fm(l:List Vp)|fv|ls|lx(l:List Vp)|it|cl|cs(p:Vp)|dd|fn|fk|ob|at(p:Dp)
noncomputable def Dp.T:Dp->Type->Type|.fr l=>λ α=>lT l α|.fm l=>λ α=>List aj->lT l α|.fv=>λ α=>List aa->α|.ls=>λ α=>List aa->α|.lx l=>λ α=>lT l α|.it=>λ α=>ae->Int->α|.cl=>λ α=>Option aa->α|.cs p=>λ α=>p.T α|.dd=>λ α=>Array aj->Nat->α|.fn=>λ α=>eL->Option ae->α|.fk=>λ α=>eL->ae->α|.ob=>λ α=>dR->α|.at p=>λ α=>ae->p.T α
section
variable{α:Type}
noncomputable def Dp.ap:(p:Dp)->p.T α->eK->Option α
 |.fr l=>λ f c=>match c.2 with|.fr vs=>Hd l f vs|_=>az
 |.fm l=>λ f c=>match c.2 with|.fm vs m=>Hd l (f m) vs|_=>az
 |.fv=>λ f c=>match c.2 with|.fr vs=>ab (f vs)|_=>az
 |.ls=>λ f c=>match c.2 with|.ls vs=>ab (f vs)|_=>az
 |.lx l=>λ f c=>match c.2 with|.ls vs=>Hd l f vs|_=>az
 |.it=>λ f c=>match c.2 with|.it l i=>ab (f l i)|_=>az
 |.cl=>λ f c=>match c.2 with|.cl v=>ab (f v)|_=>az
 |.cs p=>λ f c=>match c.2 with|.cl v=>jz (p.ap f) v|_=>az
 |.dd=>λ f c=>match c.2 with|.dd es ep=>ab (f es ep)|_=>az
 |.fn=>λ f c=>match c.2 with|.fn g k=>ab (f g k)|_=>az
 |.fk=>λ f c=>match c.2 with|.fn g k=>jz (λ k=>ab (f g k)) k|_=>az
 |.ob=>λ f c=>match c.2 with|.ob o=>ab (f o)|_=>az
 |.at p=>λ f c=>p.ap (f c.1) c
noncomputable def Dp.eq:Dp->Dv->nq->nq
 |.fr l=>λ d E=>match d with|.fr vs=>CS l vs E|_=>E
 |.fm l=>λ d E=>match d with|.fm vs _=>CS l vs E|_=>E
 |.lx l=>λ d E=>match d with|.ls vs=>CS l vs E|_=>E
 |.cs p=>λ d E=>match d with|.cl (ab v)=>p.eq v E|_=>E
 |.at p=>λ d E=>p.eq d E|_=>λ a E=>E
noncomputable def Dp.el:(p:Dp)->p.T α->(α->Dv->Prop)->Prop|.fr l=>λ f F=>CT l f λ x vs=>F x (.fr vs)|.fm l=>λ f F=>∀m,CT l (f m) λ x vs=>F x (.fm vs m)|.fv=>λ f F=>∀vs,F (f vs) (.fr vs)|.ls=>λ f F=>∀vs,F (f vs) (.ls vs)|.lx l=>λ f F=>CT l f λ x vs=>F x (.ls vs)|.it=>λ f F=>∀l i,F (f l i) (.it l i)|.cl=>λ f F=>∀v,F (f v) (.cl v)|.cs p=>λ f F=>p.el f λ x v=>F x (.cl (ab v))|.dd=>λ f F=>∀es ep,F (f es ep) (.dd es ep)|.fn=>λ f F=>∀g k,F (f g k) (.fn g k)|.fk=>λ f F=>∀g k,F (f g k) (.fn g (ab k))|.ob=>λ f F=>∀o,F (f o) (.ob o)|.at p=>λ f F=>∀a,p.el (f a) F
set_option tactic.hygienic true in theorem Dp.oG{E:nq}{p:Dp}:∀{f:p.T α}{F:α->Dv->Prop}{a:ae}{d:Dv}{x:α},p.el f F->p.ap f (a,d)=ab x->lP (p.eq d E)->F x d/\lP E:=by
 induction p with
  |«at»p c=>intro f F a d x h k e;exact c (h a) k e|fr l=>intro f F a d x h k e;induction d<;>first|exact ns k|exact mh h k e
  |fm l=>
   intro f F a d x h k e;induction d<;>first|exact ns k|skip
   rename_i vs m;exact mh (h m) k e
  |lx l=>intro f F a d x h k e;induction d<;>first|exact ns k|exact mh h k e
  |cs p=>
   intro f F a d x h k e;induction d<;>first|exact ns k|skip
   obtain⟨v,rfl,k⟩:=cJ k;exact Vp.oG h k e
  |fk=>
   intro f F a d x h k e;induction d<;>first|exact ns k|skip
   obtain⟨v,rfl,k⟩:=cJ k;exact⟨bw k▸h _ v,e⟩
  |fv|ls|cl|ob=>intro f F a d x h k e;induction d<;>first|exact ns k|exact⟨bw k▸h _,e⟩
  |it|dd|fn=>intro f F a d x h k e;induction d<;>first|exact ns k|exact⟨bw k▸h _ _,e⟩
noncomputable def cT:List Dp->Type->Type|[],α=>α|p::ps,α=>p.T (cT ps α)
noncomputable def Wx:(P:List Dp)->cT P α->List eK->Option α|[],x,[]=>ab x|p::ps,f,v::vs=>jz (λ g=>Wx ps g vs) (p.ap f v)|_,_,_=>az
noncomputable def Wy:List Dp->List eK->nq->nq|p::ps,v::vs,E=>p.eq v.2 (Wy ps vs E)|_,_,E=>E
noncomputable def LO:(P:List Dp)->cT P α->(α->List Dv->Prop)->Prop|[],x,F=>F x []|p::ps,f,F=>p.el f λ g d=>LO ps g λ x a=>F x (d::a)
noncomputable def VG(vs:List eK):List Dv:=vs.map (·.2)
theorem NQ{E:nq}{P:List Dp}:∀{f:cT P α}{F:α->List Dv->Prop}{vs:List eK}{x:α},LO P f F->Wx P f vs=ab x->lP (Wy P vs E)->F x (VG vs)/\lP E:=by
 induction P with
  |nil=>intro f F vs x h k e;induction vs with|nil=>exact⟨by cases k;exact h,e⟩|cons _ _=>injection k
  |cons p ps i=>intro f F vs x h k e;induction vs with|nil=>injection k|cons v vs=>obtain⟨a,d⟩:=v;obtain⟨g,j,k⟩:=cJ k;obtain⟨h,e⟩:=Dp.oG (F:=λ g d=>LO ps g λ x c=>F x (d::c)) h j e;exact i (F:=λ x c=>F x (d::c)) h k e
end
inductive Kp:Type 1 where|of{β:Type}(p:aT->β)(C:β->aT)|call(a:ae)(l:List Vp)|Rg(a:ae)(l:List Vp)|CU(a:ae)(l:List Vp)(n:aR)(p:Vp)
noncomputable def Kp.T:Kp->Type->Type|.of (β:=β) _ _=>λ α=>β->α|.call _ l=>λ α=>lT l α|.Rg _ l=>λ α=>lT l α|.CU _ l _ p=>λ α=>lT l (p.T α)
noncomputable def rZ:aT->Option (ae×List aa×List (aR×aa))|.call (.ref g) a=>ab (g,a.pos,a.kw)|_=>az
noncomputable def noKw:List (aR×aa)->Bool|[]=>ah|_=>af
noncomputable def CV(n:aR):List (aR×aa)->Option aa|[(m,v)]=>y2 (y1 m.cps.toList n.cps.toList) (ab v)|_=>az
theorem r3{c:aT}{g:ae}{ps:List aa}{a:List (aR×aa)}(h:rZ c=ab (g,ps,a)):c=.call (.ref g) ⟨ps,a⟩:=by
 induction c with
  |call v d=>induction v<;>first|exact ns h|(cases h;rfl)
  |_=>exact ns h
theorem y6{a:List (aR×aa)}(h:noKw a=ah):a=[]:=by induction a with|nil=>rfl|cons _ _=>cases h
theorem CW{n:aR}{a:List (aR×aa)}{v:aa}(h:CV n a=ab v):a=[(n,v)]:=by
 rcases a with _|⟨⟨m,u⟩,_|⟨_,_⟩⟩;.exact ns h
 .obtain⟨c,d⟩:=i_ h;induction l6 (iM (rX c));cases d;rfl
 .exact ns h
section
variable{α:Type}
noncomputable def Kp.ap:(k:Kp)->k.T α->aT->Option α|.of p _=>λ f c=>ab (f (p c))|.call a l=>λ f c=>jz (λ p=>y2 ((gR p.1 a).and (noKw p.2.2)) (Hd l f p.2.1)) (rZ c)|.Rg _ l=>λ f c=>jz (λ p=>y2 (noKw p.2.2) (Hd l f p.2.1)) (rZ c)|.CU _ l n p=>λ f c=>jz (λ q=>jz (λ v=>jz (λ h=>p.ap h v) (Hd l f q.2.1)) (CV n q.2.2)) (rZ c)
noncomputable def R9(E:nq)(f:β->nq):Option β->nq|ab v=>f v|az=>E
theorem uP{a:Type}{E:nq}{f:a->nq}{o:Option a}{v:a}(h:o=ab v)(q:lP (R9 E f o)):lP (f v):=by rw [h]at q;exact q
noncomputable def Kp.eq:Kp->aT->nq->nq|.of _ _=>λ d E=>E|.call _ l=>λ c E=>R9 E (λ p=>CS l p.2.1 E) (rZ c)|.Rg a l=>λ c E=>R9 E (λ p=>(p.1,a)::CS l p.2.1 E) (rZ c)|.CU a l n p=>λ c E=>R9 E (λ q=>(q.1,a)::CS l q.2.1 (R9 E (λ v=>p.eq v E) (CV n q.2.2))) (rZ c)
noncomputable def Kp.el:(k:Kp)->k.T α->(α->aT->Prop)->Prop|.of _ C=>λ f F=>∀x,F (f x) (C x)|.call a l=>λ f F=>CT l f λ x ps=>F x (.call (.ref a) ⟨ps,[]⟩)|.Rg a l=>λ f F=>CT l f λ x ps=>F x (.call (.ref a) ⟨ps,[]⟩)|.CU a l n p=>λ f F=>CT l f λ h ps=>p.el h λ x v=>F x (.call (.ref a) ⟨ps,[(n,v)]⟩)
noncomputable def Kp.wi:Kp->aT->Prop->Prop|.of p C=>λ c P=>c=C (p c)/\P|_=>λ a P=>P
theorem Kp.oG{k:Kp}{f:k.T α}{F:α->aT->Prop}{c:aT}{x:α}{P:Prop}{E:nq}(h:k.el f F)(e:k.ap f c=ab x)(q:lP (k.eq c E))(j:k.wi c P):F x c/\lP E/\P:=by induction k with|of p C=>exact⟨by cases e;exact Eq.mp (congrArg (F _) j.1.symm) (h _),q,j.2⟩|call a l=>obtain⟨⟨g,ps,m⟩,d,e⟩:=cJ e;obtain⟨i,e⟩:=i_ e;obtain⟨h,q⟩:=mh h e (uP (E:=E) (f:=λ p:ae×List aa×List (aR×aa)=>CS l p.2.1 E) d q);rw [r3 d,show g=a from ny (js i).1,show m=[]from y6 (js i).2];exact⟨h,q,j⟩|Rg a l=>obtain⟨⟨g,ps,m⟩,d,e⟩:=cJ e;obtain⟨i,e⟩:=i_ e;have q:=uP d q;obtain⟨h,o⟩:=mh h e q.2;rw [r3 d,show g=a from q.1,show m=[]from y6 i];exact⟨h,o,j⟩|CU a l n p=>obtain⟨⟨g,ps,m⟩,d,e⟩:=cJ e;obtain⟨v,i,e⟩:=cJ e;obtain⟨y,r,e⟩:=cJ e;have q:=uP d q;obtain⟨h,s⟩:=mh h r q.2;obtain⟨h,t⟩:=Vp.oG h e (uP (f:=λ v=>p.eq v E) i s);rw [r3 d,show g=a from q.1,show m=_ from CW i];exact⟨h,t,j⟩
end
structure Ct where
 ad:List ae
 HT:Nat->Nat->Cells->List Prop
 post:Kv->Prop
noncomputable def eqZ:List eK->List ae->nq->nq|v::vs,a::c,E=>(v.1,a)::eqZ vs c E|[],[],E=>E|_,_,_=>[(0,1)]
noncomputable def uQ:List ae->List Dv->List eK|a::c,d::e=>(a,d)::uQ c e|_,_=>[]
theorem y7{E:nq}:∀{vs:List eK}{c:List ae},lP (eqZ vs c E)->vs=uQ c (VG vs)/\lP E|[],[],h=>⟨rfl,h⟩|v::vs,a::c,h=>by have e:v.1=a:=h.1;obtain⟨d,h⟩:=y7 h.2;exact⟨(show v=(a,v.2)from e▸rfl)▸congrArg (Hm (a,v.2)) d,h⟩|[],_::_,h=>(by injection h.1)|_::_,[],h=>(by injection h.1)
noncomputable def CX:List Prop->Prop->Prop|[],R=>R|P::l,R=>P/\CX l R
noncomputable def AP:List Prop->Prop->Prop|[],R=>R|P::l,R=>P->AP l R
theorem rr:∀{l:List Prop}{R Q:Prop},CX l R->AP l (R->Q)->Q:=by intro l;induction l with|nil=>intro _ _ h k;exact k h|cons _ _ a=>intro _ _ h k;exact a h.2 (k h.1)
noncomputable def VH(k:Kp)(P:List Dp)(ks:List Kd)(ks':Nat->List Kd){ζ:Type}(ff:(List ae->Prop)->ζ->Prop->Prop)(cf:ζ->Ct)(X:k.T (cT P ζ)):Sp:=λ d u F c cs rest E K=>pF (parse ks cs) λ p=>Cr (isNil p.2) False (pF (k.ap X c) λ Y=>pF (Wx P Y p.1) λ Z=>Ra (eqZ p.1 (cf Z).ad (k.eq c (Wy P p.1 E))) (k.wi c (ff F Z (CX ((cf Z).HT d u rest) ((cf Z).post λ j r vs tl=>K j r (λ H=>d' H (ks' j) vs) tl)))))
noncomputable def gb(k:Kp)(P:List Dp)(ks:List Kd)(ks':Nat->List Kd)(X:k.T (cT P Ct)):Sp:=VH k P ks ks' (λ a a Q=>Q) id X
noncomputable def HU(k:Kp)(P:List Dp)(ks:List Kd)(ks':Nat->List Kd)(X:k.T (cT P (List ae×Ct))):Sp:=VH k P ks ks' (λ F Z Q=>F Z.1/\Q) eY X
section
variable{b:Bs}{k:Kp}{P:List Dp}{ks:List Kd}{ks':Nat->List Kd}{ζ:Type}{ff:(List ae->Prop)->ζ->Prop->Prop}{cf:ζ->Ct}{X:k.T (cT P ζ)}
theorem uR{Q:ζ->aT->List Dv->Prop}(h:k.el X λ Y c=>LO P Y λ Z f=>Q Z c f)(i:(List ae->Prop)->ζ->Prop)(l:∀F Z R,ff F Z R->i F Z/\R)(t:∀Z c f(e:Ev)(s:aD)(rest:Cells)(K:Kv)(H:Hs)F,(∀n,F n->l_ e.rT n)->i F Z->Q Z c f->CX ((cf Z).HT e.dp e.un rest) ((cf Z).post K)->Ready b s (d' H ks (uQ (cf Z).ad f)++rest)->bx (aW b.prog b.w) e.ar c (Fi b s (d' H ks (uQ (cf Z).ad f)) ks' K) s):bj b (VH k P ks ks' ff cf X):=by
 have key:∀{d u F c cs rest E K},VH k P ks ks' ff cf X d u F c cs rest E K->lP E/\∃Z vs H,Q Z c (VG vs)/\cs=d' H ks (uQ (cf Z).ad (VG vs))/\i F Z/\CX ((cf Z).HT d u rest) ((cf Z).post λ j r vs tl=>K j r (λ H=>d' H (ks' j) vs) tl):=λ{d u F c cs rest E K}g=>by obtain⟨⟨vs,tl⟩,v,w⟩:=d_ g;obtain⟨x,y⟩:=jK HF w;obtain⟨Y,z,B⟩:=d_ y;obtain⟨Z,C,D⟩:=d_ B;obtain⟨q,G⟩:=pH D;obtain⟨I,q⟩:=y7 q;obtain⟨H,m⟩:=wq v;obtain⟨h,q,J⟩:=Kp.oG h z q G;obtain⟨h,q⟩:=NQ h C q;refine⟨q,Z,vs,H,h,?_,l _ _ _ J⟩;induction tl with|cons _ _=>cases x|nil=>rw [m,aA];exact congrArg _ I
 refine⟨λ g=>(key g).1,λ A F c cs rest E K s o L R g=>?_⟩;obtain⟨_,Z,vs,H,h,M,l,p⟩:=key g;obtain⟨e,m⟩:=Ev.of L;rw [M]at R⊢;rw [m]at p o⊢;refine dj (t Z c _ e s rest _ H F o l h p R) λ r T h=>?_;obtain⟨j,N,tl,O,S,a⟩:=h;exact⟨j,_,tl,O,S,a.T⟩
theorem ct{X:k.T (cT P Ct)}(h:k.el X λ Y c=>LO P Y λ Z d=>∀(e:Ev)(rest:Cells)(K:Kv),AP (Z.HT e.dp e.un rest) (Z.post K->dg b e c ks (uQ Z.ad d) ks' K)):bj b (gb k P ks ks' X):=uR h (λ a a=>True) (λ a a a h=>⟨trivial,h⟩) λ Z c d e s rest K H F a a q f R=>rr f (q e rest K) H _ _ s (At.start R.left)
theorem NR{X:k.T (cT P (List ae×Ct))}(h:k.el X λ Y c=>LO P Y λ Z a=>∀(e:Ev)(rest:Cells)(K:Kv),l_ e.rT Z.1->AP (Z.2.HT e.dp e.un rest) (Z.2.post K->dg b e c ks (uQ Z.2.ad a) ks' K)):bj b (HU k P ks ks' X):=uR h (λ F Z=>F Z.1) (λ d d d h=>h) λ Z c a e s rest K H F f g q i R=>rr i (q e rest K (f _ g)) H _ _ s (At.start R.left)
end
theorem Fi.ext(E:Ext b b'){s0 a:aD}{C0:Cells}{ks:Nat->List Kd}{K:Kv}(h:Fi b' s0 C0 ks K r a):Fi b s0 C0 ks K r a:=h.elim λ j h=>h.elim λ vs h=>h.elim λ tl h=>h.elim λ H h=>⟨j,vs,tl,H,h.1,E.ready h.2.R,h.2.T⟩
theorem ind{b:Bs}{a:Nat->Sp}(h:∀n,(∀m,m<n->bj b (a m))->bj b (a n))(n:Nat):bj b (a n):=Nat.strongRecOn n h
set_option backward.match.sparseCases true
theorem bG{f:Type}{M:qx}{A:dx}{c:aT}{a:f}{Q:f->aD->Prop}{E:aa->aD->Prop}{s:aD}(h:Q a s):a_ M A c (pure a) Q E s:=λ d d d d=>h
theorem bU{a:Type}{M:qx}{A:dx}{c:aT}{t:nh a}{Q:a->aD->Prop}{E:aa->aD->Prop}{s:aD}(h:bV M (A.under c) t Q E s):a_ M A c t Q E s:=iD h
theorem dY{g:Type}{M:qx}{A:dx}{c:aT}{m:nh g}{k:aa->nh Unit}{Q:g->aD->Prop}{E:aa->aD->Prop}(h:a_ M A c m Q (λ a a=>False) s):a_ M A c (m.onRaise k) Q E s:=λ i p j d=>by rw [Q4];exact gi M i m (λ a a a f=>f) (λ a a a f=>(f:False).elim) p s (h i p j d)
theorem gX(env:fJ)(b:List ea):∀a:List ea,dU (a++b) env=(dU a env>>=λ f=>match f with|.next=>dU b env|f=>pure f):=by intro a;induction a with|nil=>exact rfl|cons st a d=>show dU (st::(a++b)) env=_;rw [gP,gP,d];show cG _ _=cG (cG _ _) _;rw [f_];congr 1;funext f;induction f<;>rfl
noncomputable def l3(K:Kv):Kv:=λ j r vs tl=>match r with|.ok (.ret v)=>K j (.ok (.ret v)) vs tl|.ok _=>K j (.ok (.ret .none)) vs tl|.error _=>False
noncomputable def Wz(D:List eK->Prop)(K:Kv):Kv:=λ j r vs tl=>match j with
 |0=>match r,tl with|.ok .next,[]=>D vs|_,_=>False
 |j+1=>match r with|.ok .next=>False|r=>K j r vs tl
noncomputable def kM(a:List Kd)(ks:Nat->List Kd):Nat->List Kd|0=>a|j+1=>ks j
noncomputable def k1(k:List Kd):Nat->List Kd:=λ a=>k
section
variable{b:Bs}{e:Ev}{c:aT}{ks:List Kd}{vs:List eK}{ks':Nat->List Kd}{K:Kv}
theorem dg.fn{body:List ea}{env:fJ}(h:DS b e (.func body env) body env ks vs ks' (l3 K)):dg b e (.func body env) ks vs ks' K:=λ H s0 C0 s a=>by
 refine fD ?_;show a_ _ e.ar _ (do point;match<-(dU body env).onRaise (j4 env)with|.ret v=>ret v|_=>ret .none) _ _ s;refine au (bU (Lj ?_));refine au (dY (aQ (h H s0 C0 s a) (λ f m g=>?_) λ x m g=>?_));.obtain⟨j,d,tl,k,i,l⟩:=g;induction f<;>exact bG ⟨j,d,tl,k,i,l⟩
 .obtain⟨j,d,tl,k,i,l⟩:=g;exact i
theorem DS.cut(n:Nat)(m:List Kd){i:List ea}{env:fJ}(h:∀D:List eK->Prop,(∀vs,DS b e c (i.drop n) env m vs ks' K->D vs)->DS b e c (i.take n) env ks vs (kM m ks') (Wz D K)):DS b e c i env ks vs ks' K:=λ H s0 C0 s a=>by
 have z:=h (λ vs=>DS b e c (i.drop n) env m vs ks' K) (λ q x=>x) H s0 C0 s a;rw [<-eD n i];rw [gX];refine au (aQ z (λ f p o=>?_) λ x p o=>?_)
 .obtain⟨j,g,tl,l,d,k⟩:=o
  induction j with
   |zero=>
    induction f<;>first|exact d.elim|skip
    induction tl with|cons _ _=>exact d.elim|nil=>rw [aA]at k;exact d l s0 C0 p k
   |succ j=>induction f<;>first|exact d.elim|exact bG ⟨j,g,tl,l,d,k⟩
 .obtain⟨j,g,tl,l,d,k⟩:=o;induction j with|zero=>exact d.elim|succ j=>exact⟨j,g,tl,l,d,k⟩
theorem Good.oH(G:Good b)(R:Ready b s C)(d:p∈C):¬p.1=1:=λ e=>by
 obtain⟨o,h,t⟩:=G.mods;rcases R.off p d with a|a;.exact t (e▸a)
 .rw [e,h]at a;cases a
theorem HV(ks:List Kd):∀{H:Hs}{vs:List eK}{i:Nat},ks.length=vs.length->bE vs i=ab p->∃o,(p.1,o)∈d' H ks vs:=by
 induction ks with
  |nil=>intro H vs i a h;induction vs<;>first|exact ns h|exact(by injection a)
  |cons k ks d=>intro H vs i a h;induction vs with|nil=>exact(by injection a)|cons v vs=>induction i with|zero=>cases h;exact⟨_,gj⟩|succ i=>obtain⟨o,h⟩:=d (ov a) h;exact⟨o,Ax _ h⟩
theorem dg.own(G:Good b)(d:ks.length=vs.length)(h:(∀i p,bE vs i=ab p->¬p.1=1)->dg b e c ks vs ks' K):dg b e c ks vs ks' K:=λ H s0 C0 s a=>h (λ i p f=>by obtain⟨o,g⟩:=HV ks d f;exact G.oH a.R g) H s0 C0 s a
end
section
variable{A B C D E F I J L M N O:Prop}
theorem c2(a:A)(b:B):A/\B:=⟨a,b⟩
theorem c3(a:A)(b:B)(c:C):A/\B/\C:=⟨a,b,c⟩
theorem c4(a:A)(b:B)(c:C)(d:D):A/\B/\C/\D:=⟨a,b,c,d⟩
theorem c5(a:A)(b:B)(c:C)(d:D)(e:E):A/\B/\C/\D/\E:=⟨a,b,c,d,e⟩
theorem c6(a:A)(b:B)(c:C)(d:D)(e:E)(f:F):A/\B/\C/\D/\E/\F:=⟨a,b,c,d,e,f⟩
theorem c7(a:A)(b:B)(c:C)(d:D)(e:E)(f:F)(g:I):A/\B/\C/\D/\E/\F/\I:=⟨a,b,c,d,e,f,g⟩
theorem c8(a:A)(b:B)(c:C)(d:D)(e:E)(f:F)(g:I)(h:J):A/\B/\C/\D/\E/\F/\I/\J:=⟨a,b,c,d,e,f,g,h⟩
theorem c9(a:A)(b:B)(c:C)(d:D)(e:E)(f:F)(g:I)(h:J)(l:L):A/\B/\C/\D/\E/\F/\I/\J/\L:=⟨a,b,c,d,e,f,g,h,l⟩
theorem e7(a:A)(b:B)(c:C)(d:D)(e:E)(f:F)(g:I)(h:J)(l:L)(m:M):A/\B/\C/\D/\E/\F/\I/\J/\L/\M:=⟨a,b,c,d,e,f,g,h,l,m⟩
theorem Zj(a:A)(b:B)(c:C)(d:D)(e:E)(f:F)(g:I)(h:J)(l:L)(m:M)(n:N):A/\B/\C/\D/\E/\F/\I/\J/\L/\M/\N:=⟨a,b,c,d,e,f,g,h,l,m,n⟩
end
set_option backward.match.sparseCases false
noncomputable def hole(h:Q3)(a:List ae):Q3:=⟨h.objs.mapIdx λ i o=>if i∈a then{o with data:=.freed}else o,h.life⟩
theorem rx(d:a∈as):(hole h as).get? a=az:=by induction e:(hole h as).get? a with|none=>rfl|some o=>obtain⟨c,f⟩:=Heap.get?_some_iff.mp e;have c:(h.objs.mapIdx λ i o=>if i∈as then{o with data:=.freed}else o)[a]?=ab o:=c;rw [xw]at c;obtain⟨x,_,c⟩:=lS.mp c;rw [if_pos d]at c;subst c;cases f
theorem oJ(c:a∉as):(hole h as).get? a=h.get? a:=by
 have e:(hole h as).objs[a]?=h.objs[a]?:=by show(h.objs.mapIdx λ i o=>if i∈as then{o with data:=.freed}else o)[a]?=_;rw [xw];induction h.objs[a]? with|none=>rfl|some x=>rw [GZ,if_neg c]
 unfold Heap.get?;rw [e]
theorem uc(e:(hole h as).get? a=ab o):a∉as/\h.get? a=ab o:=by
 by_cases ha:a∈as;.rw [rx ha]at e;cases e
 .exact⟨ha,oJ ha▸e⟩
noncomputable def mi(o:dR):Prop:=∀vs,o.data≠.fields vs
noncomputable def R_(sl:ae->Array (Option aa))(p:ae×dR):ae×dR:=(p.1,{p.2 with slots:=sl p.1})
structure gI(cls a0:aa)(T:ae)(ox oT:dR):Prop where
 cls:ox.cls=cls
 x:∃vs,ox.data=.fields vs/\vs[0]?=ab a0/\vs[1]?=ab (.ref T)
 t:∃ts,oT.data=.fields ts/\ts[3]?=ab .none
theorem HW{h a:Q3}{l:List fJ}:∀{Fc:Cells},Nx l (Fc.map (·.1))->(∀p∈Fc,h.get? p.1=ab p.2/\mi p.2/\a.get? p.1=az)->h.FunFrames a l:=by induction l with|nil=>intro _ _ _;exact trivial|cons v l f=>intro Fc c d;induction Fc with|nil=>exact c.elim|cons p Fc=>exact⟨λ e=>(by have:=c.1.2.symm.trans e;injection this),⟨p.1,p.2,c.1.1,(d p (.head _)).2.2,(d p (.head _)).1,(d p (.head _)).2.1⟩,f c.2 λ q g=>d q (.tail _ g)⟩
section
variable{b:Bs}{s0 s:aD}{C0 Fc D:Cells}{x T:ae}{ox oT:dR}{cls a0:aa}{M:qx}{A:dx}{E:aa->aD->Prop}{Q:Unit->aD->Prop}{env:fJ}{outer:List fJ}
theorem y8(a:At b s0 C0 s (Fc++(x,ox)::D))(u:∀p∈Fc,mi p.2)(B:Heap.LeftW (hole s.heap ((Fc++(x,ox)::D).map (·.1))) (env::outer) x cls a0 s.heap h'):∃sl j m i,At b s0 C0 {s with heap:=h'} (Fc.map (R_ sl)++[(x,j),(m,i)])/\gI cls a0 m j i:=by
 obtain⟨k1,O,⟨j,vs,m,i,ts,C,⟨t,F⟩,G,H,I,v,n,r,J⟩,y⟩:=B;refine⟨λ a=>(h'.get? a).elim #[] (·.slots),j,m,i,a.to ⟨λ b o e K=>k1 b o ((oJ K).trans e),?_,?_,?_,⟨rfl,rfl⟩⟩,t,⟨vs,G,F,H⟩,ts,r,J⟩
 .intro p g;rcases aO.mp g with g|g;.obtain⟨q,k,rfl⟩:=ba.mp g;obtain⟨sl,e⟩:=y q.1 q.2 (a.R.own q (aI _ k)) (u q k);show h'.get? q.1=ab {q.2 with slots:=(h'.get? q.1).elim #[] (·.slots)};rw [e];rfl
  .rcases aF.mp g with rfl|g;.exact C
   .cases ay.mp g;exact n
 .rw [aU,fG];have w:=a.R.nd;rw [aU,bu,bH]at w;have e:Fc.map ((λ p:ae×dR=>p.1)∘R_ λ a=>(h'.get? a).elim #[] (·.slots))=Fc.map (·.1):=eZ λ L L=>rfl;rw [e,bH];refine⟨w.1,bM.mpr ⟨λ h=>v (ay.mp h).symm,bM.mpr ⟨ax,g9⟩⟩,λ c t d l=>?_⟩;rintro rfl;rcases aF.mp l with rfl|l;.exact w.2.2 _ t _ (.head _) rfl
  .cases ay.mp l;obtain⟨q,k,e⟩:=ba.mp t;obtain⟨sl,z⟩:=y q.1 q.2 (a.R.own q (aI _ k)) (u q k);have N:h'.get? q.1=ab i:=by rw [show q.1=m from e];exact n
   rw [N]at z;cases z;exact u q k _ r
 .intro p g;rcases aO.mp g with g|g;.obtain⟨q,k,rfl⟩:=ba.mp g;exact .inl (aK (f:=(·.1)) (aI _ k))
  .rcases aF.mp g with rfl|g;.exact .inl (aK (f:=(·.1)) (aq Fc (gj)))
   .cases ay.mp g;by_cases hm:m∈(Fc++(x,ox)::D).map (·.1);.exact .inl hm
    .exact .inr ((oJ hm).symm.trans I)
theorem wt(a:At b s0 C0 s (Fc++(x,ox)::D))(f:∀p∈Fc,mi p.2)(c:Nx (env::outer) (Fc.map (·.1))):∃L,env.frame=ab L/\s.heap.FunFrames (hole s.heap ((Fc++(x,ox)::D).map (·.1))) (env::outer)/\s.heap.get? x=ab ox/\(hole s.heap ((Fc++(x,ox)::D).map (·.1))).StaysIn s.heap/\(hole s.heap ((Fc++(x,ox)::D).map (·.1))).get? x=az:=by
 obtain⟨L,g⟩:∃L,env.frame=ab L:=by induction Fc with|nil=>exact c.elim|cons p _=>exact⟨_,c.1.1⟩
 exact⟨L,g,HW c λ p d=>⟨a.R.own p (aI _ d),f p d,rx (aK (aI _ d))⟩,a.R.own _ (aq Fc (.head _)),λ b o e=>(uc e).2,rx (aK (aq Fc (gj)))⟩
theorem NS(a:At b s0 C0 s (Fc++[(x,ox)]))(g:∀p∈Fc,mi p.2)(j:A.frames=ab (env::outer))(k:Nx (env::outer) (Fc.map (·.1))){vs:Array aa}(l:ox.data=.fields vs)(m:vs[0]?=ab a0)(n:vs[1]?=ab .none)(h:∀i sl c e d,At b s0 C0 i (Fc.map (R_ sl)++[(x,c),(e,d)])->gI ox.cls a0 e c d->Q () i):bV M A (j4 env (.ref x)) Q E s:=by obtain⟨L,o,q,r,t,f⟩:=wt a g k;exact wpAny_leaving_firstW j q o r t f l n m λ z u=>(y8 a g u).elim λ sl y=>y.elim λ c y=>y.elim λ e y=>y.elim λ d y=>y.elim λ v w=>h _ sl c e d v w
theorem CY(a:At b s0 C0 s (Fc++[(x,ox),(T,oT)]))(n:∀p∈Fc,mi p.2)(q:A.frames=ab (env::outer))(r:Nx (env::outer) (Fc.map (·.1)))(i:gI cls a0 T ox oT)(h:∀o sl c f d,At b s0 C0 o (Fc.map (R_ sl)++[(x,c),(f,d)])->gI cls a0 f c d->Q () o):bV M A (j4 env (.ref x)) Q E s:=by
 obtain⟨L,t,u,v,w,j⟩:=wt a n r;obtain⟨z,⟨vs,B,C,F⟩,ts,k,G⟩:=i;have g:=(bH.mp (by have:=a.R.nd;rwa [aU]at this)).2.1;have l:(hole s.heap ((Fc++[(x,ox),(T,oT)]).map (·.1))).get? T=az:=rx (aK (aq Fc (Ax _ (gj))));have m:T≠x:=λ e=>by have g:[x,T].Nodup:=g;rw [e]at g;exact(bM.mp g).1 (.head _)
 exact wpAny_leaving_nextW q u t ⟨ox,vs,T,oT,ts,v,⟨z,C⟩,B,F,l,m,a.R.own _ (aq Fc (.tail _ (.head _))),k,G⟩ w j λ J H=>(y8 a n H).elim λ sl y=>y.elim λ c y=>y.elim λ f y=>y.elim λ d y=>y.elim λ I i=>h _ sl c f d I i
end
structure Cs where
 ad:List ae
 pre:Nat->Nat->Cells->(Nat->dq->Cells->Cells->Prop)->Prop
inductive Op where|ls|fl(cn:String)(l:List Vp)|ob|it|dd|tp
noncomputable def Op.T:Op->Type->Type|.ls|.tp=>λ α=>List aa->Nat->α|.fl _ l=>λ α=>lT l α|.ob=>λ α=>dR->α|.it=>λ α=>ae->Int->α|.dd=>λ α=>Array aj->Nat->α
section
variable{α:Type}
noncomputable def Op.ap:(p:Op)->p.T α->dR->Option α|.ls=>λ f o=>jz (AN λ xs ep=>ab (f xs ep)) (hM "list" o)|.tp=>λ f o=>jz (AN λ xs ep=>ab (f xs ep)) (hM "tuple" o)|.fl a l=>λ f o=>jz (xR (Hd l f)) (hM a o)|.ob=>λ f o=>ab (f o)|.dd=>λ f o=>jz (xS λ es ep=>ab (f es ep)) (hM "dict" o)|.it=>λ f o=>jz (xR λ xs=>jz (λ d=>match d with|.it l i=>ab (f l i)|_=>az) (Ws xs)) (hM "list_iterator" o)
noncomputable def Op.el:(p:Op)->p.T α->(α->dR->Prop)->Prop|.ls=>λ f F=>∀xs ep,F (f xs ep) (lO xs ep)|.tp=>λ f F=>∀xs ep,F (f xs ep) (tO xs ep)|.fl a l=>λ f F=>CT l f λ x vs=>F x (nV a vs)|.ob=>λ f F=>∀o,F (f o) o|.it=>λ f F=>∀l i,F (f l i) (nU l i)|.dd=>λ f F=>∀es ep,F (f es ep) (ft es ep)
noncomputable def Op.eq:Op->dR->nq->nq
 |.fl a l=>λ o E=>match o.data with|.fields xs=>CS l xs.toList E|_=>E
 |_=>λ c E=>E
theorem Op.oG{p:Op}{f:p.T α}{F:α->dR->Prop}{o:dR}{x:α}{E:nq}(h:p.el f F)(k:p.ap f o=ab x)(q:lP (p.eq o E)):F x o/\lP E:=by induction p with|ls=>obtain⟨d,e,k⟩:=cJ k;obtain⟨xs,ep,rfl,k⟩:=oF k;cases k;exact⟨(eB e:o=lO xs ep)▸h xs ep,q⟩|tp=>obtain⟨d,e,k⟩:=cJ k;obtain⟨xs,ep,rfl,k⟩:=oF k;cases k;exact⟨(eB e:o=tO xs ep)▸h xs ep,q⟩|fl c l=>obtain⟨d,e,k⟩:=cJ k;obtain⟨xs,rfl,a⟩:=m9 k;have e:o=nV c xs:=eB e;subst e;exact mh h a q|ob=>cases k;exact⟨h o,q⟩|dd=>obtain⟨d,e,k⟩:=cJ k;obtain⟨es,ep,rfl,a⟩:=m_ k;cases a;exact⟨(eB e:o=ft es ep)▸h es ep,q⟩|it=>obtain⟨d,e,k⟩:=cJ k;obtain⟨xs,rfl,a⟩:=m9 k;obtain⟨d,g,a⟩:=cJ a;obtain⟨l,i,rfl,rfl⟩:=CM g;cases a;exact⟨(eB e:o=nU l i)▸h l i,q⟩
noncomputable def oT:List Op->Type->Type|[],α=>α|p::ps,α=>p.T (oT ps α)
noncomputable def WA:(P:List Op)->oT P α->Cells->Option α|[],x,[]=>ab x|p::ps,f,v::vs=>jz (λ g=>WA ps g vs) (p.ap f v.2)|_,_,_=>az
noncomputable def VI:(P:List Op)->oT P α->(α->List dR->Prop)->Prop|[],x,F=>F x []|p::ps,f,F=>p.el f λ g c=>VI ps g λ x cs=>F x (c::cs)
noncomputable def objs(cs:Cells):List dR:=cs.map (·.2)
noncomputable def WB:List Op->Cells->nq->nq|p::ps,v::vs,E=>p.eq v.2 (WB ps vs E)|_,_,E=>E
theorem NT{E:nq}{P:List Op}:∀{f:oT P α}{F:α->List dR->Prop}{cs:Cells}{x:α},VI P f F->WA P f cs=ab x->lP (WB P cs E)->F x (objs cs)/\lP E:=by
 induction P with
  |nil=>intro f F cs x h k q;induction cs with|nil=>exact⟨by cases k;exact h,q⟩|cons _ _=>injection k
  |cons p ps a=>intro f F cs x h k q;induction cs with|nil=>injection k|cons c cs=>obtain⟨g,e,k⟩:=cJ k;obtain⟨h,q⟩:=Op.oG (F:=λ g o=>VI ps g λ x os=>F x (o::os)) h e q;exact a (F:=λ x os=>F x (c.2::os)) h k q
end
noncomputable def WC:Cells->List ae->nq->nq|v::vs,a::c,E=>(v.1,a)::WC vs c E|[],[],E=>E|_,_,_=>[(0,1)]
noncomputable def CZ:List ae->List dR->Cells|a::c,d::e=>(a,d)::CZ c e|_,_=>[]
theorem y9{E:nq}:∀{vs:Cells}{c:List ae},lP (WC vs c E)->vs=CZ c (objs vs)/\lP E|[],[],h=>⟨rfl,h⟩|v::vs,a::c,h=>by have e:v.1=a:=h.1;obtain⟨d,h⟩:=y9 h.2;exact⟨(show v=(a,v.2)from e▸rfl)▸congrArg (Hm (a,v.2)) d,h⟩|[],_::_,h=>(by injection h.1)|_::_,[],h=>(by injection h.1)
noncomputable def R'(id:String)(c:aT):Option (List aa):=jz (λ q=>y2 (ZFast.idIsZ q.1 id) (ab q.2)) (NN c)
theorem HX{id:String}{c:aT}{ps:List aa}(h:R' id c=ab ps):c=.builtin id ⟨ps,[]⟩:=by obtain⟨q,e,h⟩:=cJ h;obtain⟨a,d⟩:=i_ h;cases d;rw [y5 e,m8 a]
noncomputable def gD(id:String)(l:List Vp)(P:List Op)(X:lT l (oT P Cs)):Sp:=λ d u e c cs rest E K=>pF (R' id c) λ ps=>pF (Hd l X ps) λ Y=>pF (WA P Y cs) λ Z=>Ra (WC cs Z.ad (CS l ps (WB P cs E))) (Z.pre d u rest λ j r a tl=>K j r (λ e=>a) tl)
structure Zk(b:Bs)(id:String)(Z:Cs)(ps:List aa)(os:List dR):Prop where
 go:∀(A:dx)(s:aD)(rest:Cells)(K:Nat->dq->Cells->Cells->Prop)(R:dq->aD->Prop),Z.pre A.depth A.units rest K->A.handled=az->Ready b s (CZ Z.ad os++rest)->(∀j r s' xK tl,K j r xK tl->Trans s s' (CZ Z.ad os) (xK++tl)->R r s')->bx (aW b.prog b.w) A (.builtin id ⟨ps,[]⟩) R s
theorem bF{b:Bs}{id:String}{l:List Vp}{P:List Op}{X:lT l (oT P Cs)}(h:CT l X λ Y ps=>VI P Y λ Z os=>Zk b id Z ps os):bj b (gD id l P X):=by
 have key:∀{d u F c cs rest E K},gD id l P X d u F c cs rest E K->lP E/\∃Z ps,Zk b id Z ps (objs cs)/\c=.builtin id ⟨ps,[]⟩/\cs=CZ Z.ad (objs cs)/\Z.pre d u rest λ j r f tl=>K j r (λ g=>f) tl:=λ a=>by obtain⟨ps,i,a⟩:=d_ a;obtain⟨Y,k,a⟩:=d_ a;obtain⟨Z,m,a⟩:=d_ a;obtain⟨q,a⟩:=pH a;obtain⟨n,q⟩:=y9 q;obtain⟨h,q⟩:=mh h k q;obtain⟨h,q⟩:=NT h m q;exact⟨q,Z,ps,h,HX i,n,a⟩
 refine⟨λ a=>(key a).1,λ A F c cs rest E K s g o R a=>?_⟩;obtain⟨_,Z,ps,z,rfl,e,p⟩:=key a;rw [e]at R⊢;exact z.go A _ rest _ _ p o R λ j r v f tl t T=>⟨j,_,tl,λ g=>⟨λ g=>0,λ g=>0,0⟩,t,T⟩
section
variable{b:Bs}
noncomputable def oI(id:String)(P:Int->Int->Prop) [DecidableRel P]{f:cK}(c:iL id=ah)(d:fg h8 id=ab f)(g:∀x y t u,rM (f ⟨[.int x t,.int y u],[]⟩) (.val (.bool (decide (P x y))))):Ok b:=⟨gD id [.it,.it] [] λ x a y a=>⟨[],λ a a a K=>(P x y->K 0 (.ok (.ret (.bool ah))) [] [])/\(¬P x y->K 1 (.ok (.ret (.bool af))) [] [])⟩,bF λ x t y u=>.mk λ A s rest K R h e Rd k=>i9 c d (g _ _ _ _) (by
 by_cases hP:P x y;.rw [decide_eq_true hP];exact k 0 _ _ _ _ (h.1 hP) (Trans.nil s _)
 .rw [decide_eq_false hP];exact k 1 _ _ _ _ (h.2 hP) (Trans.nil s _))⟩
noncomputable def HY(v:Bool)(P:Prop):Prop:=match v with|ah=>P|af=>¬P
theorem y_ [Decidable P](h:HY v P):decide P=v:=by induction v with|true=>exact decide_eq_true h|false=>exact decide_eq_false h
noncomputable def WD(id:String)(P:Int->Int->Prop) [DecidableRel P]{f:cK}(c:iL id=ah)(d:fg h8 id=ab f)(g:∀x y t u,rM (f ⟨[.int x t,.int y u],[]⟩) (.val (.bool (decide (P x y)))))(v:Bool):Ok b:=⟨gD id [.it,.it] [] λ x a y a=>⟨[],λ a a a K=>HY v (P x y)/\K 0 (.ok (.ret (.bool v))) [] []⟩,bF λ x t y u=>.mk λ A s rest K R h e Rd k=>i9 c d (g _ _ _ _) (by rw [y_ h.1];exact k 0 _ _ _ _ h.2 (Trans.nil s _))⟩
theorem Zl:iL "int.__lt__"=ah:=by decide+kernel
theorem Zm:fg h8 "int.__lt__"=ab cK.«int.__lt__»:=F.entry_int_lt
theorem Zn:iL "int.__ge__"=ah:=by decide+kernel
theorem Zo:fg h8 "int.__ge__"=ab cK.«int.__ge__»:=F.entry_int_ge
theorem pGt:iL "int.__gt__"=ah:=by decide+kernel
theorem eGt:fg h8 "int.__gt__"=ab cK.«int.__gt__»:=F.entry_int_gt
theorem WE:iL "int.__eq__"=ah:=by decide+kernel
theorem WG:fg h8 "int.__eq__"=ab cK.«int.__eq__»:=F.entry_int_eq
noncomputable def oLt:Ok b:=oI "int.__lt__" (λ x y=>x<y) Zl Zm λ x y t u=>.of_eq rfl
noncomputable def Zp:Ok b:=oI "int.__gt__" (λ x y=>x>y) pGt eGt λ x y t u=>.of_eq rfl
noncomputable def oGe:Ok b:=oI "int.__ge__" (λ x y=>x>=y) Zn Zo λ x y t u=>.of_eq rfl
noncomputable def oEq:Ok b:=oI "int.__eq__" (λ x y=>x=y) WE WG λ x y t u=>.of_eq rfl
noncomputable def tC(v:Bool):Ok b:=WD "int.__lt__" (λ x y=>x<y) Zl Zm (λ x y t u=>.of_eq rfl) v
noncomputable def C1(v:Bool):Ok b:=WD "int.__ge__" (λ x y=>x>=y) Zn Zo (λ x y t u=>.of_eq rfl) v
noncomputable def xU(v:Bool):Ok b:=WD "int.__eq__" (λ x y=>x=y) WE WG (λ x y t u=>.of_eq rfl) v
noncomputable def Rh(id:String)(P:Int->Int->Prop)(F:Int->Int->Int){f:cK}(c:iL id=ah)(d:fg h8 id=ab f)(g:∀x y t u,P x y->rM (f ⟨[.int x t,.int y u],[]⟩) (.int (F x y))):Ok b:=⟨gD id [.it,.it] [] λ x a y a=>⟨[],λ a a a K=>P x y/\∀t,K 0 (.ok (.ret (.int (F x y) t))) [] []⟩,bF λ x t y u=>.mk λ A s rest K R h e Rd k=>cz c d (g _ _ _ _ h.1).meets (k 0 _ _ _ _ (h.2 _) (Trans.nil s _))⟩
noncomputable def Zq(id:String)(F:Int->Int->Int){f:cK}(c:iL id=ah)(d:fg h8 id=ab f)(g:∀x y t u,rM (f ⟨[.int x t,.int y u],[]⟩) (.int (F x y))):Ok b:=⟨gD id [.it,.it] [] λ x a y a=>⟨[],λ a a a K=>∀t,K 0 (.ok (.ret (.int (F x y) t))) [] []⟩,bF λ x t y u=>.mk λ A s rest K R h e Rd k=>cz c d (g _ _ _ _).meets (k 0 _ _ _ _ (h _) (Trans.nil s _))⟩
theorem Se:iL "int.__and__"=ah:=by decide+kernel
theorem Sf:fg h8 "int.__and__"=ab cK.«int.__and__»:=aL (by kernel_rfl)
noncomputable def Sg:Ok b:=Zq "int.__and__" br Se Sf λ x y t u=>.of_eq rfl
noncomputable def oOr:Ok b:=Zq (f:=cK.«int.__or__») "int.__or__" kL (by decide+kernel) (aL (by kernel_rfl)) λ x y t u=>.of_eq rfl
end
theorem xV(h:n<2^60):n.log2<=60:=by
 by_cases hn:n=0;.subst hn;decide
 .exact yI ((V9 hn).mpr h)
theorem bits_le(a:0<=x)(c:x<2^60):(fC x:Int)<=61:=by
 unfold fC;split;.decide
 .have:=xV (show x.natAbs<2^60 by lia);exact li 0x3d20110315403c203111 [x.natAbs.log2] rfl this
theorem Si(a:Int)(t:aX)(b:Int)(u:aX)(f:¬b<0)(i:¬(a==0)=ah)(c:¬((fC a:Int)+29)/30+b/30+(if(b%30==0)=ah then 0 else 1)>px)(e:¬iO ((fC a:Int)+b)=ah):rM (cK.«int.__lshift__» ⟨[.int a t,.int b u],[]⟩) (.int (a*2^b.toNat)):=.of_wp λ M A E s Q h=>by obtain⟨j,g,d,tk,os⟩:=s;wp_walk;show bV _ _ (if _>px then _ else _) _ _ _;rw [if_neg c];show bV _ _ (if iO _=ah then _ else _) _ _ _;rw [if_neg e];wp_walk;exact⟨_,rfl,h⟩
theorem Sj(a b:Int)(t u:aX)(h:0<=a/\a<2^60/\0<=b/\b<=60):rM (cK.«int.__lshift__» ⟨[.int a t,.int b u],[]⟩) (.int (a*2^b.toNat)):=by
 obtain⟨d,e,c,f⟩:=h;by_cases hx:a=0;.subst hx;rw [q_];exact PySem.AutoIntG6.int___lshift___int_int_1 0 t b u (λ q=>lj 0x10061120600112 [] [b] rfl c q) rfl
 .have g:=bits_le d e;refine Si a t b u (λ q=>lj 0x10061120600112 [] [b] rfl c q) (by simpa using hx) ?_ ?_;.have:px=2305843009213693945:=rfl;rw [this];split<;>lia
  .unfold iO;rw [decide_eq_true_eq];have:(bitsLine:Int)>=1000:=by decide
   lia
theorem Sk(x y:Int)(t u:aX)(c:2<=x)(f:x<=64)(a:1<=y)(d:y<=64):rM (cK.«int.__pow__» ⟨[.int x t,.int y u],[]⟩) (.int (x^y.toNat)):=by
 refine PySem.AutoIntG2.int___pow___int_int_4 x t y u (lj 0x600406110112 [] [y] rfl a) (by simp;exact λ q=>lj 0x200611206110112 [] [y] rfl a q) (by simp;lia) (by simp;lia) ?_;unfold iO;rw [decide_eq_true_eq];have g:(bitsLine:Int)>=10000:=by decide
 have e:=bits_le (x:=x) (lj 0x600406210112 [] [x] rfl c) (by lia);have h:(fC x:Int)*y<=61*64:=Q5 e d (lj 0x600406110112 [] [y] rfl a) (li 0x3d20004 [] rfl);lia
theorem C2{x y:Int}(h:2<=x):x^y.toNat=.ofNat (x.toNat^y.toNat):=by
 have:x=((x.toNat:Nat):Int):=by exact bg (eS x) (b0 (bC (lj 0x600406210112 [] [x] rfl h)))
 conv=>lhs;rw [this]
 simp
theorem HZ(c:0<y)(d:y<2^60):¬(rd x y)=ah:=by
 unfold rd;have e:y.natAbs.log2/30+1<=300:=by have f:y.natAbs.log2<60:=(V9 (by lia)).mpr (by lia);lia
 intro h;simp only [h_,decide_eq_true_eq]at h;have a:=h.1;split at a<;>lia
section
variable{b:Bs}
noncomputable def WH:Ok b:=Rh "int.__lshift__" (λ a b=>0<=a/\a<2^60/\0<=b/\b<=60) (λ a b=>a*2^b.toNat) (by decide+kernel) (aL (by kernel_rfl)) Sj
noncomputable def Sl:Ok b:=Rh "int.__pow__" (λ x y=>2<=x/\x<=64/\1<=y/\y<=64) (λ x y=>.ofNat (x.toNat^y.toNat)) (by decide+kernel) (aL (by kernel_rfl)) λ x y t u h=>C2 h.1▸Sk x y t u h.1 h.2.1 h.2.2.1 h.2.2.2
noncomputable def oMod:Ok b:=Rh "int.__mod__" (λ x y=>0<y/\y<=1000) BS (by decide+kernel) (aL (by kernel_rfl)) λ x y t u h=>ow x t y u (by simp;exact λ q=>lj 0x20061121600112 [] [y] rfl h.1 q)
noncomputable def oDiv:Ok b:=Rh "int.__floordiv__" (λ x y=>0<y/\y<2^60) Q6 (by decide+kernel) (aL (by kernel_rfl)) λ x y t u h=>AutoIntG4.int___floordiv___int_int_1 x t y u (by simp;exact λ q=>lj 0x20061121600112 [] [y] rfl h.1 q) (HZ h.1 h.2)
noncomputable def H0:Ok b:=Rh "int.__mul__" (λ x y=>0<=x/\x<=1000000/\0<=y/\y<=1000000) (λ x y=>x*y) (by decide+kernel) (aL (by kernel_rfl)) λ x y t u h=>AutoIntG1.int___mul___int_int_0 x t y u (IntMulOk.of_left (by have:=bits_le h.1 (by lia:x<2^60);exact li 0x40203303d2035112 [fC x] rfl this))
end
noncomputable def ry(v:aa):Prop:=∃x t,v=.int x t
noncomputable def vL(v:aa):Prop:=∃x t,v=.str x t
section
variable{b:Bs}
noncomputable def oS(id:String)(P:List Nat->List Nat->Prop) [DecidableRel P](c:iL id=ah)(d:fg h8 id=ab f)(g:∀x y t u,rM (f ⟨[.str x t,.str y u],[]⟩) (.val (.bool (decide (P x.cps.toList y.cps.toList))))):Ok b:=⟨gD id [.st,.st] [] λ x a y a=>⟨[],λ a a a K=>(P x.cps.toList y.cps.toList->K 0 (.ok (.ret (.bool ah))) [] [])/\(¬P x.cps.toList y.cps.toList->K 1 (.ok (.ret (.bool af))) [] [])⟩,bF λ x t y u=>.mk λ A s rest K R h e Rd k=>i9 c d (g _ _ _ _) (by
 by_cases hP:P x.cps.toList y.cps.toList;.rw [decide_eq_true hP];exact k 0 _ _ _ _ (h.1 hP) (Trans.nil s _)
 .rw [decide_eq_false hP];exact k 1 _ _ _ _ (h.2 hP) (Trans.nil s _))⟩
theorem sw_eq(x y:aR):(decide (0+y.length<=x.length)&&nz x y 0)=decide (y.cps.toList<+:x.cps.toList):=by
 rw [Bool.eq_iff_iff,decide_eq_true_iff,h_,decide_eq_true_iff];have e:(nz x y 0=ah)↔x.cps.toList.take y.cps.toList.length=y.cps.toList:=by unfold nz;rw [beq_iff_eq,<-Array.toList_inj,yJ,cN,vE,nM,yK];rfl
 rw [e,List.prefix_iff_eq_take];refine⟨λ h=>h.2.symm,λ h=>⟨?_,h.symm⟩⟩;have:=congrArg nN h;rw [eG,cx,cx]at this;show 0+y.cps.size<=x.cps.size;exact li 0x530013054111243111 [y.cps.size,min y.cps.size x.cps.size,x.cps.size] rfl this (fh y.cps.size x.cps.size)
noncomputable def H6:Ok b:=oS "str.__lt__" (λ x y=>x<y) (by decide+kernel) F.entry_str_lt λ x y t u=>PySem.gives_str_lt x y t u
noncomputable def oSw:Ok b:=oS "str.startswith" (λ x y=>y<+:x) (by decide+kernel) F.entry_str_startswith λ x y t u=>sw_eq x y▸gives_str_startswith x y t u
theorem H7{x y:aR}:(x.cps.toList==y.cps.toList)=decide (x=y):=(Bool.beq_eq_decide_eq _ _).trans (decide_eq_decide.mpr ⟨λ e=>l6 (iM e),λ e=>by rw [e]⟩)
noncomputable def WI(v:Bool):Ok b:=⟨gD "str.__eq__" [.st,.st] [] λ x a y a=>⟨[],λ a a a K=>HY v (x=y)/\K 0 (.ok (.ret (.bool v))) [] []⟩,bF λ x t y u=>.mk λ A s rest K R h c Rd k=>i9 (by decide+kernel) F.entry_str_eq (gives_str_eq x y t u) (by rw [H7,y_ h.1];exact k 0 _ _ _ _ h.2 (Trans.nil s _))⟩
end
noncomputable def tD(s:aR):Int:=(s.length:Int)
theorem NU:iL "len"=ah:=by decide+kernel
theorem NV:fg h8 "len"=ab cK.«len»:=aL (by kernel_rfl)
theorem y'{n:Nat}(h:n<=1048576):(n:Int)<2^63:=by lia
theorem C3{n:Nat}:¬(n:Int)<0:=λ q=>li 0x10035112 [n] rfl q
theorem C4{n:Nat}(h:n<=1048576):¬(n:Int)>=2^63:=by lia
section
variable{b:Bs}
noncomputable def LQ:Ok b:=⟨gD "len" [.st] [] λ x a=>⟨[],λ a a a K=>x.length<=1048576/\∀t,K 0 (.ok (.ret (.int (tD x) t))) [] []⟩,bF λ x t=>.mk λ A s rest K R h e Rd k=>bL NU NV (iE (wpAny_len_body (Q:=λ v c=>v=.int x.length (s.toks+1)/\c={s with toks:=s.toks+1+1}) (typeIs_str s x t) F.slot_str_len F.entry_str_len (F.args_str_len_1 _) (gives_str_len x t) C3 (C4 h.1) ⟨rfl,rfl⟩) (by rintro d c⟨r,rfl,rfl,rfl⟩;exact k 0 _ _ _ _ (h.2 _) (Trans.nil s _)) λ a a x=>x)⟩
noncomputable def eQ(i:Int):aR:=⟨#[i.toNat]⟩
noncomputable def WJ:Ok b:=⟨gD "chr" [.it] [] λ x a=>⟨[],λ a a a K=>(0<=x/\x<256)/\∀t,K 0 (.ok (.ret (.str (eQ x) t))) [] []⟩,bF λ x t=>.mk λ A s rest K R h c Rd k=>cz (by decide+kernel) (aL (by kernel_rfl)) (gives_chr x t (by have:=h.1.1;have:=h.1.2;simp;exact⟨h.1.1,lj 0x10ffff60641100306112 [] [x] rfl h.1.2⟩)).meets ⟨(by decide:(1:Nat)<=_),k 0 _ _ _ _ (h.2 _) (Trans.nil s _)⟩⟩
noncomputable def WK:Ok b:=⟨gD "ord" [.st] [] λ x a=>⟨[],λ a a a K=>(∃i,x=eQ i)/\∀t,K 0 (.ok (.ret (.int (x.cps.getD 0 0) t))) [] []⟩,bF λ x t=>.mk λ A s rest K R h c Rd k=>by obtain⟨⟨i,rfl⟩,h⟩:=h;exact cz (by decide+kernel) (aL (by kernel_rfl)) (gives_ord i.toNat t).meets (k 0 _ _ _ _ (h _) (Trans.nil s _))⟩
noncomputable def tG(x y:aR):aR:=x++y
theorem mj(x y:aR):(x++y).length=x.length+y.length:=by show(x.cps++y.cps).size=_;rw [Ca];rfl
theorem pL{x y:aR}(h:(x.length==0)=ah):x++y=y:=by have a:x.cps=#[]:=xr.mp (show x.cps.size=0 from eq_of_beq h);show fb (x.cps++y.cps)=y;rw [a,Array.empty_append]
theorem pM{x y:aR}(h:(y.length==0)=ah):x++y=x:=by have a:y.cps=#[]:=xr.mp (show y.cps.size=0 from eq_of_beq h);show fb (x.cps++y.cps)=x;rw [a,Array.append_empty]
noncomputable def za:Ok b:=⟨gD "str.__add__" [.st,.st] [] λ x c y c=>⟨[],λ c c c K=>x.length+y.length<=100000/\∀t,K 0 (.ok (.ret (.str (tG x y) t))) [] []⟩,bF λ x t y u=>.mk λ A s rest K R h f Rd k=>by
 refine cz (by decide+kernel) F.entry_str_add (gives_str_add x y t u).meets ?_;have a:∀tk d,R (.ok (.ret (.str (x++y) d))) {s with toks:=tk}:=λ tk d=>k 0 _ _ _ _ (h.2 d) (Trans.nil s _);split;.rename_i e;have:=a s.toks u;rw [pL e]at this;exact this
 .split;.rename_i e;have:=a s.toks t;rw [pM e]at this;exact this
  .exact⟨by rw [mj,di];exact ai h.1 (by decide),a _ _⟩⟩
noncomputable def r4(x:aR)(i:Int):aR:=⟨#[x.cps.getD i.toNat 0]⟩
theorem NW(c:0<=k)(d:k<tD x):(lb k x.length).bind (λ j=>x.cps[j]?)=ab (x.cps.getD k.toNat 0):=by
 have e:lb k x.length=ab k.toNat:=by
  unfold lb;have:tD x=(x.length:Int):=rfl;simp only;split;.lia
  .split;.rfl
   .rename_i f;exact absurd (by simp;exact⟨c,lj 0x135642357112176112 [x.length] [k,tD x] rfl d this⟩) f
 have a:k.toNat<x.cps.size:=by have:tD x=(x.cps.size:Int):=rfl;exact lj 0x134326451122357112176112 [x.cps.size,k.toNat] [k,tD x] rfl d this (bC c)
 rw [e];simp [Array.getD,a]
noncomputable def zb:Ok b:=⟨gD "str.__getitem__" [.st,.it] [] λ x a i a=>⟨[],λ a a a K=>(0<=i/\i<tD x/\i<1000000)/\∀t,K 0 (.ok (.ret (.str (r4 x i) t))) [] []⟩,bF λ x t i u=>.mk λ A s rest K R h c Rd k=>cz (by decide+kernel) F.entry_str_getitem (gives_str_getitem x i t u (x.cps.getD i.toNat 0) (by have:=h.1.1;have:=h.1.2.2;simp;lia) (NW h.1.1 h.1.2.1)).meets ⟨(by decide:(1:Nat)<=_),k 0 _ _ _ _ (h.2 _) (Trans.nil s _)⟩⟩
end
theorem fits_of(a:0<=i)(h:i.toNat<n)(c:n<=1048576):eT i=ah:=by unfold eT;simp only [h_,decide_eq_true_eq];lia
theorem ml(e:s.heap.get? l=ab (lO xs ep))(d:0<=i)(f:xs.length<=1048576)(c:bE xs i.toNat=ab y)(h:R (.ok (.ret y)) s):bx (aW prog w) A (.builtin "list.__getitem__" ⟨[.ref l,.int i u],[]⟩) R s:=by rw [dH]at c;have g:=fits_of d (bz.mp c).1 f;refine bL (b:=cK.«list.__getitem__») (by decide+kernel) (aL (by kernel_rfl)) ?_;unfold cK.«list.__getitem__»;refine aw (l8 (a:=(ao l,ak i u)) rfl ?_);dsimp only;refine aw (Cb g ?_);obtain⟨k,rfl⟩:=dI d;rw [bq]at c;dsimp only;refine aw ?_;show bV _ _ (seqItemAt l k>>=λ r=>pure (r.map λ x=>(k,x))) _ _ _;refine aw (wpAny_seqItemAt e rfl ?_);rw [show xs.toArray[k]?=ab y by simpa using c];refine bc ?_;dsimp only [Option.map];exact bc h
section
variable{b:Bs}
noncomputable def qH:Ok b:=⟨gD "list.__getitem__" [.re,.it] [.ls] λ l i a xs ep=>⟨[l],λ a a a K=>(0<=i/\xs.length<=1048576/\∃x,bE xs i.toNat=ab (.ref x))/\∀x,bE xs i.toNat=ab (.ref x)->K 0 (.ok (.ret (.ref x))) [(l,lO xs ep)] []⟩,bF λ l i u xs ep=>.mk λ A s rest K R h f Rd k=>by obtain⟨⟨d,e,x,c⟩,h⟩:=h;exact ml (Rd.own _ (.head _)) d e c (k 0 _ _ _ _ (h x c) (Trans.refl Rd.left))⟩
noncomputable def zc:Ok b:=⟨gD "list.__getitem__" [.re,.it] [.ls] λ l i a xs ep=>⟨[l],λ a a a K=>(0<=i/\xs.length<=1048576/\∃x t,bE xs i.toNat=ab (.str x t))/\∀x t,bE xs i.toNat=ab (.str x t)->K 0 (.ok (.ret (.str x t))) [(l,lO xs ep)] []⟩,bF λ l i u xs ep=>.mk λ A s rest K R h f Rd k=>by obtain⟨⟨d,e,x,t,c⟩,h⟩:=h;exact ml (Rd.own _ (.head _)) d e c (k 0 _ _ _ _ (h x t c) (Trans.refl Rd.left))⟩
noncomputable def nD(x:aa):Ok b:=⟨gD "list.__getitem__" [.re,.it] [.ls] λ l i a xs ep=>⟨[l],λ a a a K=>(0<=i/\xs.length<=1048576)/\bE xs i.toNat=ab x/\K 0 (.ok (.ret x)) [(l,lO xs ep)] []⟩,bF λ l i u xs ep=>.mk λ A s rest K R h c Rd k=>ml (Rd.own _ (.head _)) h.1.1 h.1.2 h.2.1 (k 0 _ _ _ _ h.2.2 (Trans.refl Rd.left))⟩
end
theorem H8(n:Nat):lb (-1) (n+1)=ab n:=by
 unfold lb;have a:(if(-1:Int)<0 then(-1:Int)+((n+1:Nat):Int)else-1)=(n:Int):=by rw [if_pos (by decide)];exact bg (li 0x35110315110414 [n] rfl) (li 0x11031511041354 [n] rfl)
 simp only [a];rw [if_pos (by simp;exact li 0x1110351354 [n] rfl)];rfl
section
variable{b:Bs}
theorem AR(a:s.heap.get? l=ab (lO (ys++[.ref x]) ep))(h:R (.ok (.ret (.ref x))) s):bx (aW prog w) A (.builtin "list.__getitem__" ⟨[.ref l,.int (-1) u],[]⟩) R s:=by refine bL (by decide+kernel) F.entry_list_getitem ?_;unfold cK.«list.__getitem__»;refine aw (l8 rfl ?_);refine aw (Cb (by decide) (aw ?_));show bV _ _ (kr (.ref l)>>=λ xs=>pure ((lb (-1) xs.size).bind λ j=>xs[j]?.map (j,·))) _ _ _;unfold kr;refine aw (aw (qy a rfl (bc ?_)));rw [show(ys++[ao x]).toArray.size=ys.length+1 by simp,H8];refine bc ?_;simp only [Option.bind_some,show(ys++[ao x]).toArray[ys.length]?=ab (.ref x)by simp,GZ];exact bc h
noncomputable def e8(c:bN b l0 (lO rz AS))(x:aa):Ok b:=⟨gD "list.__getitem__" [.re,.it] [] λ l i a=>⟨[],λ a a a K=>l=l0/\(0<=i/\rz.length<=1048576/\bE rz i.toNat=ab x)/\K 0 (.ok (.ret x)) [] []⟩,bF λ l i u=>.mk λ A s rest K R h g Rd k=>by obtain⟨rfl,⟨d,e,f⟩,h⟩:=h;exact ml (Rd.jq _ _ c.1 c.2) d e f (k 0 _ _ _ _ h (Trans.refl Rd.left))⟩
noncomputable def AU(c:bN b l0 (lO (ys++[.ref x]) AS)):Ok b:=⟨gD "list.__getitem__" [.re,.it] [] λ l i a=>⟨[],λ a a a K=>l=l0/\i=-1/\K 0 (.ok (.ret (.ref x))) [] []⟩,bF λ l i u=>.mk λ A s rest K R h d Rd k=>by obtain⟨rfl,rfl,h⟩:=h;exact AR (Rd.jq _ _ c.1 c.2) (k 0 _ _ _ _ h (Trans.refl Rd.left))⟩
noncomputable def tH:Ok b:=⟨gD "len" [.re] [.ls] λ l xs ep=>⟨[l],λ a a a K=>xs.length<=1048576/\∀t,K 0 (.ok (.ret (.int (xs.length:Int) t))) [(l,lO xs ep)] []⟩,bF λ l xs ep=>.mk λ A s rest K R h f Rd k=>by have c:xs.toArray.size=xs.length:=b6;refine bL NU NV (iE (M_ (Q:=λ v d=>v=.int xs.toArray.size (s.toks+1)/\d={s with toks:=s.toks+1+1}) ⟨_,Rd.own _ (.head _),rfl,ep,rfl⟩ (c▸y' h.1) ⟨rfl,rfl⟩) ?_ λ a a x=>x);rintro e d⟨r,rfl,rfl,rfl⟩;exact k 0 _ _ _ _ (c▸h.2 _) (Trans.same Rd.left _)⟩
end
noncomputable def snoc(vs:List aa)(x:aa):List aa:=vs++[x]
theorem zd(ys:List aa)(v:aa)(ep:Nat):mZ (λ a=>a.push v) (lO ys ep)=lO (ys++[v]) (ep+1):=by unfold lO mZ;simp
noncomputable def dP:Ok b:=⟨gD "list.append" [.re,.an] [.ls] λ l x xs ep=>⟨[l],λ a a a K=>xs.length<=1048576/\∀c,K 0 (.ok (.ret .none)) [(l,lO (snoc xs x) c)] []⟩,bF λ l x xs ep=>.mk λ A s rest K R h e Rd k=>by have d:s.heap.get? l=ab (lO xs ep):=Rd.own _ (.head _);refine bL (by decide+kernel) F.entry_list_append ?_;unfold cK.«list.append»;refine aw (l8 rfl ?_);show bV _ _ (Vj l (·.push x)>>=λ a=>ret .none) _ _ _;exact aw (V_ d rfl (bc (k 0 _ _ _ _ (h.2 (ep+1)) (Trans.upd d (zd xs x ep) rfl _))))⟩
noncomputable def gw(vs:List aa)(i:Int)(x:aa):List aa:=vs.take i.toNat++x::vs.drop i.toNat
theorem NX(xs:List aa)(i:Int)(x:aa)(ep:Nat)(a:0<=i)(c:i<=(xs.length:Int)):mZ (λ ys=>(ys.extract 0 (if i<0 then(i+(ys.size:Int)).toNat else min i.toNat ys.size)).push x++ys.extract (if i<0 then(i+(ys.size:Int)).toNat else min i.toNat ys.size)) (lO xs ep)=lO (gw xs i x) (ep+1):=by
 have e:(if i<0 then(i+(xs.toArray.size:Int)).toNat else min i.toNat xs.toArray.size)=i.toNat:=by rw [if_neg (by exact λ q=>lj 0x10061120600112 [] [i] rfl a q),b6];exact a7 (M' i.toNat xs.length) (cR (tX (lj 0x34326451120356112 [xs.length,i.toNat] [i] rfl c (bC (a)))).symm)
 have d:((xs.toArray.extract 0 i.toNat).push x++xs.toArray.extract i.toNat).toList=gw xs i x:=by unfold gw;simp only [jH,Array.toList_push,yJ,vE,nM,yK,bb,List.singleton_append];congr 2;exact xx (by rw [rN];exact bt _)
 have f:((xs.toArray.extract 0 i.toNat).push x++xs.toArray.extract i.toNat).size≠xs.toArray.size:=by rw [<-cx,d,b6];unfold gw;simp;exact λ q=>li 0x23611106415111251104131111 [min i.toNat xs.length,xs.length-i.toNat,xs.length,i.toNat] rfl q (cI xs.length i.toNat) (tX (lj 0x34326451120356112 [xs.length,i.toNat] [i] rfl c (bC (a)))).symm
 unfold lO mZ;dsimp only;rw [e,if_neg (by simpa using f)];congr 2;apply iM;rw [d]
theorem NY{i:Int}{n:Nat}(a:0<=i)(c:i<=(n:Int))(d:n<=1048576):¬(!eT i)=ah:=by
 have:eT i=ah:=by unfold eT;simp only [h_,decide_eq_true_eq];lia
 simp [this]
noncomputable def oK{b:Bs}:Ok b:=⟨gD "list.insert" [.re,.it,.an] [.ls] λ l i a x xs ep=>⟨[l],λ a a a K=>(0<=i/\i<=(xs.length:Int)/\xs.length<=1048576)/\∀c,K 0 (.ok (.ret .none)) [(l,lO (gw xs i x) c)] []⟩,bF λ l i u x xs ep=>.mk λ A s rest K R h j Rd k=>by obtain⟨⟨d,e,f⟩,h⟩:=h;have g:s.heap.get? l=ab (lO xs ep):=Rd.own _ (.head _);exact cz (by decide+kernel) F.entry_list_insert (PySem.AutoSeq1.list_insert_list_int_val_1 l xs.toArray ep i u x (NY d e f) (by rw [di,b6];exact ai f (by decide))) ⟨g,k 0 _ _ _ _ (h (ep+1)) (Trans.upd g (NX xs i x ep d e) rfl _)⟩⟩
noncomputable def dS(o:Option ea)(env:fJ):aT:=.whileLoop (sE o 0) (sB o 0) (sB o 1) env
noncomputable def envOf:aT->fJ|.whileLoop _ _ _ env=>env|.forLoop _ _ _ _ env=>env|.compLoop _ _ _ _ env=>env|.compStart _ _ _ _ env=>env|.func _ env=>env|.expr _ env=>env|_=>default
noncomputable def nE(c:aT):ae:=(envOf c).locals
noncomputable def Zr:aR:=⟨#[97]⟩
noncomputable def VJ:aR:=⟨#[120]⟩
noncomputable def Sn:aR:=⟨#[108,111]⟩
noncomputable def So:aR:=⟨#[104,105]⟩
noncomputable def oL:aR:=⟨#[107,101,121]⟩
noncomputable def Sr:aR:=⟨#[109,105,100]⟩
noncomputable def AV:List aR:=[Zr,VJ,Sn,So,oL]
noncomputable def nsB:List aR:=[Zr,VJ,Sn,So,oL,Sr]
noncomputable def xW:=bE (sB (bE (aP 4) 2) 1) 0
noncomputable def xX:=bE (sB (bE (aP 2) 2) 1) 0
noncomputable def qBL:aR:=⟨#[98,105,115,101,99,116,95,108,101,102,116,46,60,108,111,99,97,108,115,62,46]⟩
noncomputable def qBR:aR:=⟨#[98,105,115,101,99,116,95,114,105,103,104,116,46,60,108,111,99,97,108,115,62,46]⟩
noncomputable def fP(L:ae):fJ:=nu 4 qBL 50 49 L []
noncomputable def fW(L:ae):fJ:=nu 2 qBR 32 31 L []
noncomputable def ltI(g:aa->Int)(v x:aa):Prop:=match x with|.int x _=>g v<x|_=>False
noncomputable def vM(g:aa->Int)(v x:aa):Prop:=match x with|.int x _=>x<g v|_=>False
noncomputable def AW(g:aa->aR)(v x:aa):Prop:=match x with|.str x _=>(g v).cps.toList<x.cps.toList|_=>False
noncomputable def AX(g:aa->aR)(v x:aa):Prop:=match x with|.str x _=>x.cps.toList<(g v).cps.toList|_=>False
noncomputable def lk(g:aa->Int)(v:aa)(t:aX):aa:=.int (g v) t
noncomputable def uT(g:aa->aR)(v:aa)(t:aX):aa:=.str (g v) t
noncomputable def gc(a:ae)(b:aa->aX->aa)(ok:aa->Prop):Sp:=gb (.Rg a [.an]) [] [] (k1 []) λ v=>⟨[],λ d u c=>[ok v,d+20<900],λ K=>∀t,K 0 (.ok (.ret (b v t))) [] []⟩
structure hN(up:aa->aa->Prop)(X ok:aa->Prop)(xs:List aa)(x:aa)(lo hi k:Int):Prop where
 h0:0<=lo
 h1:lo<=k
 h2:k<=hi
 h3:hi<=(xs.length:Int)
 h4:xs.length<=1048576
 h5:∀(i:Nat)v,lo<=(i:Int)->(i:Int)<hi->bE xs i=ab v->(up v x↔(i:Int)<k)
 h6:∀v∈xs,ok v
 h7:X x
noncomputable abbrev SB:=List aa->aa->Int->Int->Int->Prop
noncomputable def Zs:List Kd:=[.fr nsB,.ls]
noncomputable def Ss:List Kd:=[.fr AV,.ls]
noncomputable def cB(h:ae)(S:SB)(k:Int)(n:Nat)(L a:ae)(x:aa)(lo:Int)(tl:aX)(hi:Int)(i:aX)(j:aa)(xs:List aa):Ct:=⟨[L,a],λ d u l=>[d+30<900,S xs x lo hi k,(hi-lo).toNat<n],λ K=>∀g b c e f,g=k->K 0 (.ok .next) [(L,.fr [.ref a,x,.int g b,.int c e,.ref h,f]),(a,.ls xs)] []⟩
noncomputable def Rj(w:Option ea)(env:ae->fJ)(a:ae)(S:SB)(k:Int)(n:Nat):Sp:=gb (.of nE λ L=>dS w (env L)) [.fr [.re,.an,.it,.it,.rq a,.an],.ls] Zs (k1 Zs) (cB a S k n)
theorem ud{lo hi:Int}(a:0<=lo)(h:lo<hi):lo<=Z.divQ (lo+hi) 2/\Z.divQ (lo+hi) 2<hi:=by rw [<-Z.divQ_eq,vF _ (by decide)];lia
theorem qX{lo hi:Int}(a:0<=lo)(h:lo<hi):lo<=Z.divQ (lo+hi) 2:=(ud a h).1
theorem qY{lo hi:Int}(a:0<=lo)(h:lo<hi):Z.divQ (lo+hi) 2<hi:=(ud a h).2
theorem LR{d m n k:Nat}(h:d+m<k)(a:n<=m:=by decide):d+n<k:=cM (cZ a d) h
theorem uU{d m n c k:Nat}(h:d+m<k)(a:c+n<=m:=by decide):d+c+n<k:=gG d c n▸LR h a
theorem da1{d m n:Nat}(h:d+m<900)(a:n<=m:=by decide):d+n<900:=LR h a
theorem fj{d m c n:Nat}(h:d+m<900)(a:c+n<=m:=by decide):d+c+n<900:=uU h a
theorem dab(h:x<900):x<1000:=d5 h (by decide)
theorem jf(h:d+m<900)(a:n<=m:=by decide):d+n<1000:=dab (da1 h a)
theorem hN.lo{c:aa->aa->Prop}{X ok:aa->Prop}{xs:List aa}{x:aa}{lo hi k m:Int}(h:hN c X ok xs x lo hi k)(d:lo<=m)(e:m<k):hN c X ok xs x (m+1) hi k:=⟨bk h.h0 (bk d (cp (td m))),e,h.h2,h.h3,h.h4,λ i v a b=>h.h5 i v (bk d (bk (cp (td m)) a)) b,h.h6,h.h7⟩
theorem hN.hi{c:aa->aa->Prop}{X ok:aa->Prop}{xs:List aa}{x:aa}{lo hi k m:Int}(h:hN c X ok xs x lo hi k)(d:m<hi)(e:k<=m):hN c X ok xs x lo m k:=⟨h.h0,h.h1,e,bk (cp d) h.h3,h.h4,λ i v a b=>h.h5 i v a (yL b d),h.h6,h.h7⟩
section
variable{P:aa->aa->Prop}{X ok:aa->Prop}{xs:List aa}{x v:aa}{lo hi k m:Int}
theorem hN.mid(h:hN P X ok xs x lo hi k)(a:lo<=m)(b:m<hi):∃v,bE xs m.toNat=ab v/\ok v/\(P v x↔m<k):=by
 have c:=h.h0;have i:=h.h3;have d:m.toNat<xs.length:=by exact lj 0x134326451120357112176112 [xs.length,m.toNat] [m,hi] rfl b i (bC (bk c a))
 have e:((m.toNat:Nat):Int)=m:=bC (bk c a);have f:bE xs m.toNat=ab xs[m.toNat]:=(dH _ _).trans (aJ d);have g:=h.h5 m.toNat _ (e▸a) (e▸b) f;rw [e]at g;exact⟨_,f,h.h6 _ (ib d),g⟩
theorem hN.at(h:hN P X ok xs x lo hi k)(a:lo<=m)(b:m<hi)(c:bE xs m.toNat=ab v):ok v/\(P v x↔m<k):=by obtain⟨d,e,r⟩:=h.mid a b;cases e.symm.trans c;exact r
theorem hN.wx(h:hN P X ok xs x lo hi k)(b:∀v,ok v->∃a,v=.ref a)(c:lo<=m)(d:m<hi):∃a,bE xs m.toNat=ab (.ref a):=(h.mid c d).elim λ v r=>(b v r.2.1).elim λ a e=>⟨a,e▸r.1⟩
theorem hN.H9(h:hN P X ok xs x lo hi k)(b:∀v,ok v->∃a t,v=.str a t)(c:lo<=m)(d:m<hi):∃a t,bE xs m.toNat=ab (.str a t):=(h.mid c d).elim λ v r=>(b v r.2.1).elim λ a e=>e.elim λ t e=>⟨a,t,e▸r.1⟩
theorem hN.B1(h:hN P X ok xs x lo hi k)(a:lo<=m)(b:m<hi)(c:bE xs m.toNat=ab v):ok v:=(h.at a b c).1
theorem hN.up(h:hN P X ok xs x lo hi k)(a:lo<=m)(b:m<hi)(c:bE xs m.toNat=ab v)(d:P v x):hN P X ok xs x (m+1) hi k:=h.lo a ((h.at a b c).2.mp d)
theorem hN.dn(h:hN P X ok xs x lo hi k)(b:lo<=m)(a:m<hi)(c:bE xs m.toNat=ab v)(d:¬P v x):hN P X ok xs x lo m k:=h.hi a (b_.mp (mt (h.at b a c).2.mpr d))
theorem hN.fin(h:hN P X ok xs x lo hi k)(a:¬lo<hi):lo=k:=bg h.h1 (bk h.h2 (b_.mp a))
end
theorem ix{m hi lo:Int}{n:Nat}(a:lo<=m)(b:m<hi)(h:(hi-lo).toNat<n):(hi-(m+1)).toNat<n-1:=lj 0x156321107183651120356831120110514111143111076112 [(hi-lo).toNat,n,n-1,(hi-(m+1)).toNat] [lo,m,hi] rfl a h (cI n 1) (eS (hi-lo)) (bC (by exact lj 0x1106173004176112 [] [m,hi] rfl b))
theorem iy{m hi lo:Int}{n:Nat}(a:lo<=m)(b:m<hi)(h:(hi-lo).toNat<n):(m-lo).toNat<n-1:=lj 0x15632863651120358731120110514111143111176112 [(hi-lo).toNat,n,n-1,(m-lo).toNat] [m,hi,lo] rfl b h (cI n 1) (eS (hi-lo)) (bC (by exact lj 0x673004076112 [] [lo,m] rfl a))
theorem nc(h:m<n):n-1<n:=li 0x14332411031111 [n-1,n] rfl (aH (by exact li 0x41103143111 [m,n] rfl h))
section
variable(G:Good b)(tI:bN b kf (fO fd dk))
include G tI
theorem H_(y:∀v,ok v->∃a,v=.ref a)(z:bj b (gc kf (lk g) ok))(k:Int):∀n,bj b (Rj xW fP kf (hN (ltI g) ry ok) k n):=ind λ n A=>ct λ L m x l tl hi i j xs e rest K o c p q=>by obtain⟨x,tx,rfl⟩:=c.h7;have d:=qX c.h0 (hi:=hi);have f:=qY c.h0 (hi:=hi);exact dg.run G [⟨_,_,tI⟩] [oLt,qH,⟨_,z⟩,⟨_,A _ (nc p)⟩] (oo 0x21311231624114123141153221441444222121111221231221 [(oo 0x2131 []),(oo 0x213112316244 [])]) λ n=>c3 (E [L] 0x100) (λ(h:l<hi)(n:Nw)=>c3 (E [m,L] 0x1111111100000) (c3 (bk c.h0 (d h)) c.h4 (c.wx y (d h) (f h))) λ(a:ae)(r:bE xs (Z.divQ (l+hi) 2).toNat=ab (.ref a))(n:Nw)=>c4 (E [kf] 0x100) (c.B1 (d h) (f h) r) (LR o:e.dp+20<900) λ(t:aX)(n:Nw)=>c3 (E [L] 0x10) (λ(u:ltI g (.ref a) (.int x tx))(n:Nw)=>c6 (E [L,m,kf] 0x1000210) (@rfl _ (dS xW (fP L))) o (c.up (d h) (f h) r u) (ix (d h) (f h) p) λ s tl hi i j w(n:Nw)=>q s tl hi i j w) λ(u:¬ltI g (.ref a) (.int x tx))(n:Nw)=>c6 (E [L,m,kf] 0x1000210) (@rfl _ (dS xW (fP L))) o (c.dn (d h) (f h) r u) (iy (d h) (f h) p) λ s tl hi i j w(n:Nw)=>q s tl hi i j w) λ(h:¬l<hi)(n:Nw)=>q l tl hi i j (c.fin h)
theorem Ia(y:∀v,ok v->∃a,v=.ref a)(z:bj b (gc kf (uT g) ok))(k:Int):∀n,bj b (Rj xW fP kf (hN (AW g) vL ok) k n):=ind λ n A=>ct λ L m x l tl hi i j xs e rest K o c p q=>by obtain⟨x,tx,rfl⟩:=c.h7;have d:=qX c.h0 (hi:=hi);have f:=qY c.h0 (hi:=hi);exact dg.run G [⟨_,_,tI⟩] [oLt,qH,⟨_,z⟩,⟨_,A _ (nc p)⟩,H6] (oo 0x21311231624114127141153221441444222121111221231221 [(oo 0x2131 []),(oo 0x213112316244 [])]) λ n=>c3 (E [L] 0x100) (λ(h:l<hi)(n:Nw)=>c3 (E [m,L] 0x1111111100000) (c3 (bk c.h0 (d h)) c.h4 (c.wx y (d h) (f h))) λ(a:ae)(r:bE xs (Z.divQ (l+hi) 2).toNat=ab (.ref a))(n:Nw)=>c4 (E [kf] 0x100) (c.B1 (d h) (f h) r) (LR o:e.dp+20<900) λ(t:aX)(n:Nw)=>c3 (E [L] 0x10) (λ(u:AW g (.ref a) (.str x tx))(n:Nw)=>c6 (E [L,m,kf] 0x1000210) (@rfl _ (dS xW (fP L))) o (c.up (d h) (f h) r u) (ix (d h) (f h) p) λ s tl hi i j w(n:Nw)=>q s tl hi i j w) λ(u:¬AW g (.ref a) (.str x tx))(n:Nw)=>c6 (E [L,m,kf] 0x1000210) (@rfl _ (dS xW (fP L))) o (c.dn (d h) (f h) r u) (iy (d h) (f h) p) λ s tl hi i j w(n:Nw)=>q s tl hi i j w) λ(h:¬l<hi)(n:Nw)=>q l tl hi i j (c.fin h)
theorem Ic(z:∀v,ok v->∃a t,v=.str a t)(A:bj b (gc kf (lk g) ok))(k:Int):∀n,bj b (Rj xW fP kf (hN (ltI g) ry ok) k n):=ind λ n B=>ct λ L m x l tl hi i j xs e rest K o c p q=>by obtain⟨x,tx,rfl⟩:=c.h7;have d:=qX c.h0 (hi:=hi);have f:=qY c.h0 (hi:=hi);exact dg.run G [⟨_,_,tI⟩] [oLt,zc,⟨_,A⟩,⟨_,B _ (nc p)⟩] (oo 0x21311231624114123141153221441444222121111221231221 [(oo 0x2131 []),(oo 0x213112316244 [])]) λ n=>c3 (E [L] 0x100) (λ(h:l<hi)(n:Nw)=>c3 (E [m,L] 0x1111111100000) (c3 (bk c.h0 (d h)) c.h4 (c.H9 z (d h) (f h))) λ(a:aR)(r:aX)(s:bE xs (Z.divQ (l+hi) 2).toNat=ab (.str a r))(n:Nw)=>c4 (E [kf] 0x100) (c.B1 (d h) (f h) s) (LR o:e.dp+20<900) λ(t:aX)(n:Nw)=>c3 (E [L] 0x10) (λ(u:ltI g (.str a r) (.int x tx))(n:Nw)=>c6 (E [L,m,kf] 0x1000210) (@rfl _ (dS xW (fP L))) o (c.up (d h) (f h) s u) (ix (d h) (f h) p) λ w tl hi i j y(n:Nw)=>q w tl hi i j y) λ(u:¬ltI g (.str a r) (.int x tx))(n:Nw)=>c6 (E [L,m,kf] 0x1000210) (@rfl _ (dS xW (fP L))) o (c.dn (d h) (f h) s u) (iy (d h) (f h) p) λ w tl hi i j y(n:Nw)=>q w tl hi i j y) λ(h:¬l<hi)(n:Nw)=>q l tl hi i j (c.fin h)
theorem Ie(y:∀v,ok v->∃a,v=.ref a)(z:bj b (gc kf (lk g) ok))(k:Int):∀n,bj b (Rj xX fW kf (hN (λ v x=>¬vM g v x) ry ok) k n):=ind λ n A=>ct λ L m x l tl hi i j xs e rest K o c p q=>by obtain⟨x,tx,rfl⟩:=c.h7;have d:=qX c.h0 (hi:=hi);have f:=qY c.h0 (hi:=hi);exact dg.run G [⟨_,_,tI⟩] [oLt,qH,⟨_,z⟩,⟨_,A _ (nc p)⟩] (oo 0x213112316244123111532214414442222121111221231221 [(oo 0x2131 []),(oo 0x21311231624114 [])]) λ n=>c3 (E [L] 0x100) (λ(h:l<hi)(n:Nw)=>c3 (E [m,L] 0x11111111100000) (c3 (bk c.h0 (d h)) c.h4 (c.wx y (d h) (f h))) λ(a:ae)(r:bE xs (Z.divQ (l+hi) 2).toNat=ab (.ref a))(n:Nw)=>c4 (E [kf] 0x100) (c.B1 (d h) (f h) r) (LR o:e.dp+20<900) λ(t:aX)(n:Nw)=>c2 (λ(u:vM g (.ref a) (.int x tx))(n:Nw)=>c6 (E [L,m,kf] 0x1000210) (@rfl _ (dS xX (fW L))) o (c.dn (d h) (f h) r (not_not_intro u)) (iy (d h) (f h) p) λ s tl hi i j w(n:Nw)=>q s tl hi i j w) λ(u:¬vM g (.ref a) (.int x tx))(n:Nw)=>c6 (E [L,m,kf] 0x1000210) (@rfl _ (dS xX (fW L))) o (c.up (d h) (f h) r u) (ix (d h) (f h) p) λ s tl hi i j w(n:Nw)=>q s tl hi i j w) λ(h:¬l<hi)(n:Nw)=>q l tl hi i j (c.fin h)
theorem Ig(y:∀v,ok v->∃a,v=.ref a)(z:bj b (gc kf (uT g) ok))(k:Int):∀n,bj b (Rj xX fW kf (hN (λ v x=>¬AX g v x) vL ok) k n):=ind λ n A=>ct λ L m x l tl hi i j xs e rest K o c p q=>by obtain⟨x,tx,rfl⟩:=c.h7;have d:=qX c.h0 (hi:=hi);have f:=qY c.h0 (hi:=hi);exact dg.run G [⟨_,_,tI⟩] [oLt,qH,⟨_,z⟩,⟨_,A _ (nc p)⟩,H6] (oo 0x213112316244127111532214414442222121111221231221 [(oo 0x2131 []),(oo 0x21311231624114 [])]) λ n=>c3 (E [L] 0x100) (λ(h:l<hi)(n:Nw)=>c3 (E [m,L] 0x11111111100000) (c3 (bk c.h0 (d h)) c.h4 (c.wx y (d h) (f h))) λ(a:ae)(r:bE xs (Z.divQ (l+hi) 2).toNat=ab (.ref a))(n:Nw)=>c4 (E [kf] 0x100) (c.B1 (d h) (f h) r) (LR o:e.dp+20<900) λ(t:aX)(n:Nw)=>c2 (λ(u:AX g (.ref a) (.str x tx))(n:Nw)=>c6 (E [L,m,kf] 0x1000210) (@rfl _ (dS xX (fW L))) o (c.dn (d h) (f h) r (not_not_intro u)) (iy (d h) (f h) p) λ s tl hi i j w(n:Nw)=>q s tl hi i j w) λ(u:¬AX g (.ref a) (.str x tx))(n:Nw)=>c6 (E [L,m,kf] 0x1000210) (@rfl _ (dS xX (fW L))) o (c.up (d h) (f h) r u) (ix (d h) (f h) p) λ s tl hi i j w(n:Nw)=>q s tl hi i j w) λ(h:¬l<hi)(n:Nw)=>q l tl hi i j (c.fin h)
theorem Ih(z:∀v,ok v->∃a t,v=.str a t)(A:bj b (gc kf (lk g) ok))(k:Int):∀n,bj b (Rj xX fW kf (hN (λ v x=>¬vM g v x) ry ok) k n):=ind λ n B=>ct λ L m x l tl hi i j xs e rest K o c p q=>by obtain⟨x,tx,rfl⟩:=c.h7;have d:=qX c.h0 (hi:=hi);have f:=qY c.h0 (hi:=hi);exact dg.run G [⟨_,_,tI⟩] [oLt,zc,⟨_,A⟩,⟨_,B _ (nc p)⟩] (oo 0x213112316244123111532214414442222121111221231221 [(oo 0x2131 []),(oo 0x21311231624114 [])]) λ n=>c3 (E [L] 0x100) (λ(h:l<hi)(n:Nw)=>c3 (E [m,L] 0x11111111100000) (c3 (bk c.h0 (d h)) c.h4 (c.H9 z (d h) (f h))) λ(a:aR)(r:aX)(s:bE xs (Z.divQ (l+hi) 2).toNat=ab (.str a r))(n:Nw)=>c4 (E [kf] 0x100) (c.B1 (d h) (f h) s) (LR o:e.dp+20<900) λ(t:aX)(n:Nw)=>c2 (λ(u:vM g (.str a r) (.int x tx))(n:Nw)=>c6 (E [L,m,kf] 0x1000210) (@rfl _ (dS xX (fW L))) o (c.dn (d h) (f h) s (not_not_intro u)) (iy (d h) (f h) p) λ w tl hi i j y(n:Nw)=>q w tl hi i j y) λ(u:¬vM g (.str a r) (.int x tx))(n:Nw)=>c6 (E [L,m,kf] 0x1000210) (@rfl _ (dS xX (fW L))) o (c.up (d h) (f h) s u) (ix (d h) (f h) p) λ w tl hi i j y(n:Nw)=>q w tl hi i j y) λ(h:¬l<hi)(n:Nw)=>q l tl hi i j (c.fin h)
end
noncomputable def cF0(kf:ae)(S:SB)(k:Int)(L a:ae)(x:aa)(e:Int)(tl:aX)(xs:List aa):Ct:=⟨[L,a],λ d u f=>[d+40<900,e=0,S xs x 0 (xs.length:Int) k],λ K=>∀c t,c=k->K 0 (.ok (.ret (.int c t))) [(a,.ls xs)] []⟩
noncomputable def cF1(kf:ae)(S:SB)(k:Int)(L a:ae)(x:aa)(e:Int)(tl:aX)(hi:Int)(f:aX)(xs:List aa):Ct:=⟨[L,a],λ d u g=>[d+40<900,S xs x e hi k],λ K=>∀c t,c=k->K 0 (.ok (.ret (.int c t))) [(a,.ls xs)] []⟩
noncomputable def Ii(i:Nat)(env:ae->fJ)(kf:ae)(S:SB)(k:Int):Sp:=gb (.of nE λ L=>.func (aP i) (env L)) [.fr [.re,.an,.it,.no,.rq kf],.ls] Ss (k1 [.ls]) (cF0 kf S k)
noncomputable def Su(i:Nat)(env:ae->fJ)(kf:ae)(S:SB)(k:Int):Sp:=gb (.of nE λ L=>.func (aP i) (env L)) [.fr [.re,.an,.it,.it,.rq kf],.ls] Ss (k1 [.ls]) (cF1 kf S k)
section
variable(G:Good b)(tI:bN b kf (fO fd dk))
include G tI
theorem ze(q:∀v,ok v->∃a,v=.ref a)(r:bj b (gc kf (lk g) ok))(k:Int):bj b (Ii 4 fP kf (hN (ltI g) ry ok) k):=ct λ L i x z tl xs e rest K j w c l=>by obtain⟨x,tx,rfl⟩:=c.h7;cases w;have s:=dM ((xs.length:Int)-0).toNat;have d:=qX c.h0 (hi:=(xs.length:Int));have f:=qY c.h0 (hi:=(xs.length:Int));exact dg.run G [⟨_,_,tI⟩] [oLt,qH,⟨_,r⟩,⟨_,H_ G tI q r k (((xs.length:Int)-0).toNat+1-1)⟩,tH] (oo 0x221212316241141231411531214212224442411114412314414242217121121121 [(oo 0x1214 []),(oo 0x221212316244 [])]) λ n=>c3 (E [i,L] 0x11110) c.h4 λ(B:aX)(n:Nw)=>c3 (E [L] 0x100000) (λ(h:0<(xs.length:Int))(n:Nw)=>c3 (E [i,L] 0x1111111100000) (c3 (bk c.h0 (d h)) c.h4 (c.wx q (d h) (f h))) λ(a:ae)(m:bE xs (Z.divQ (0+(xs.length:Int)) 2).toNat=ab (.ref a))(n:Nw)=>c4 (E [kf] 0x100) (c.B1 (d h) (f h) m) (uU j:e.dp+1+20<900) λ(t:aX)(n:Nw)=>c3 (E [L] 0x10) (λ(u:ltI g (.ref a) (.int x tx))(n:Nw)=>c6 (E [L,i,kf] 0x1000210) (@rfl _ (dS xW (fP L))) (uU j:e.dp+1+30<900) (c.up (d h) (f h) m u) (ix (d h) (f h) s) λ o tl(hi:Int)(y:aX)(A:aa)p(n:Nw)=>c2 (E [L] 0x10) (l o tl p)) λ(u:¬ltI g (.ref a) (.int x tx))(n:Nw)=>c6 (E [L,i,kf] 0x1000210) (@rfl _ (dS xW (fP L))) (uU j:e.dp+1+30<900) (c.dn (d h) (f h) m u) (iy (d h) (f h) s) λ o tl(hi:Int)(y:aX)(A:aa)p(n:Nw)=>c2 (E [L] 0x10) (l o tl p)) λ(h:¬0<(xs.length:Int))(n:Nw)=>c2 (E [L] 0x10) (l 0 tl (c.fin h))
theorem Ij(r:∀v,ok v->∃a t,v=.str a t)(s:bj b (gc kf (lk g) ok))(k:Int):bj b (Ii 4 fP kf (hN (ltI g) ry ok) k):=ct λ L i x z tl xs e rest K j y c l=>by obtain⟨x,tx,rfl⟩:=c.h7;cases y;have w:=dM ((xs.length:Int)-0).toNat;have d:=qX c.h0 (hi:=(xs.length:Int));have f:=qY c.h0 (hi:=(xs.length:Int));exact dg.run G [⟨_,_,tI⟩] [oLt,zc,⟨_,s⟩,⟨_,Ic G tI r s k (((xs.length:Int)-0).toNat+1-1)⟩,tH] (oo 0x221212316241141231411531214212224442411114412314414242217121121121 [(oo 0x1214 []),(oo 0x221212316244 [])]) λ n=>c3 (E [i,L] 0x11110) c.h4 λ(C:aX)(n:Nw)=>c3 (E [L] 0x100000) (λ(h:0<(xs.length:Int))(n:Nw)=>c3 (E [i,L] 0x1111111100000) (c3 (bk c.h0 (d h)) c.h4 (c.H9 r (d h) (f h))) λ(a:aR)(m:aX)(o:bE xs (Z.divQ (0+(xs.length:Int)) 2).toNat=ab (.str a m))(n:Nw)=>c4 (E [kf] 0x100) (c.B1 (d h) (f h) o) (uU j:e.dp+1+20<900) λ(t:aX)(n:Nw)=>c3 (E [L] 0x10) (λ(u:ltI g (.str a m) (.int x tx))(n:Nw)=>c6 (E [L,i,kf] 0x1000210) (@rfl _ (dS xW (fP L))) (uU j:e.dp+1+30<900) (c.up (d h) (f h) o u) (ix (d h) (f h) w) λ p tl(hi:Int)(A:aX)(B:aa)q(n:Nw)=>c2 (E [L] 0x10) (l p tl q)) λ(u:¬ltI g (.str a m) (.int x tx))(n:Nw)=>c6 (E [L,i,kf] 0x1000210) (@rfl _ (dS xW (fP L))) (uU j:e.dp+1+30<900) (c.dn (d h) (f h) o u) (iy (d h) (f h) w) λ p tl(hi:Int)(A:aX)(B:aa)q(n:Nw)=>c2 (E [L] 0x10) (l p tl q)) λ(h:¬0<(xs.length:Int))(n:Nw)=>c2 (E [L] 0x10) (l 0 tl (c.fin h))
theorem Ik(q:∀v,ok v->∃a,v=.ref a)(r:bj b (gc kf (lk g) ok))(k:Int):bj b (Ii 2 fW kf (hN (λ v x=>¬vM g v x) ry ok) k):=ct λ L i x z tl xs e rest K j w c l=>by obtain⟨x,tx,rfl⟩:=c.h7;cases w;have s:=dM ((xs.length:Int)-0).toNat;have d:=qX c.h0 (hi:=(xs.length:Int));have f:=qY c.h0 (hi:=(xs.length:Int));exact dg.run G [⟨_,_,tI⟩] [oLt,qH,⟨_,r⟩,⟨_,Ie G tI q r k (((xs.length:Int)-0).toNat+1-1)⟩,tH] (oo 0x2212123162441231115312142122244442411114412314414242217121121121 [(oo 0x1214 []),(oo 0x22121231624114 [])]) λ n=>c3 (E [i,L] 0x11110) c.h4 λ(B:aX)(n:Nw)=>c3 (E [L] 0x100000) (λ(h:0<(xs.length:Int))(n:Nw)=>c3 (E [i,L] 0x11111111100000) (c3 (bk c.h0 (d h)) c.h4 (c.wx q (d h) (f h))) λ(a:ae)(m:bE xs (Z.divQ (0+(xs.length:Int)) 2).toNat=ab (.ref a))(n:Nw)=>c4 (E [kf] 0x100) (c.B1 (d h) (f h) m) (uU j:e.dp+1+20<900) λ(t:aX)(n:Nw)=>c2 (λ(u:vM g (.ref a) (.int x tx))(n:Nw)=>c6 (E [L,i,kf] 0x1000210) (@rfl _ (dS xX (fW L))) (uU j:e.dp+1+30<900) (c.dn (d h) (f h) m (not_not_intro u)) (iy (d h) (f h) s) λ o tl(hi:Int)(y:aX)(A:aa)p(n:Nw)=>c2 (E [L] 0x10) (l o tl p)) λ(u:¬vM g (.ref a) (.int x tx))(n:Nw)=>c6 (E [L,i,kf] 0x1000210) (@rfl _ (dS xX (fW L))) (uU j:e.dp+1+30<900) (c.up (d h) (f h) m u) (ix (d h) (f h) s) λ o tl(hi:Int)(y:aX)(A:aa)p(n:Nw)=>c2 (E [L] 0x10) (l o tl p)) λ(h:¬0<(xs.length:Int))(n:Nw)=>c2 (E [L] 0x10) (l 0 tl (c.fin h))
theorem Il(r:∀v,ok v->∃a t,v=.str a t)(s:bj b (gc kf (lk g) ok))(k:Int):bj b (Ii 2 fW kf (hN (λ v x=>¬vM g v x) ry ok) k):=ct λ L i x z tl xs e rest K j y c l=>by obtain⟨x,tx,rfl⟩:=c.h7;cases y;have w:=dM ((xs.length:Int)-0).toNat;have d:=qX c.h0 (hi:=(xs.length:Int));have f:=qY c.h0 (hi:=(xs.length:Int));exact dg.run G [⟨_,_,tI⟩] [oLt,zc,⟨_,s⟩,⟨_,Ih G tI r s k (((xs.length:Int)-0).toNat+1-1)⟩,tH] (oo 0x2212123162441231115312142122244442411114412314414242217121121121 [(oo 0x1214 []),(oo 0x22121231624114 [])]) λ n=>c3 (E [i,L] 0x11110) c.h4 λ(C:aX)(n:Nw)=>c3 (E [L] 0x100000) (λ(h:0<(xs.length:Int))(n:Nw)=>c3 (E [i,L] 0x11111111100000) (c3 (bk c.h0 (d h)) c.h4 (c.H9 r (d h) (f h))) λ(a:aR)(m:aX)(o:bE xs (Z.divQ (0+(xs.length:Int)) 2).toNat=ab (.str a m))(n:Nw)=>c4 (E [kf] 0x100) (c.B1 (d h) (f h) o) (uU j:e.dp+1+20<900) λ(t:aX)(n:Nw)=>c2 (λ(u:vM g (.str a m) (.int x tx))(n:Nw)=>c6 (E [L,i,kf] 0x1000210) (@rfl _ (dS xX (fW L))) (uU j:e.dp+1+30<900) (c.dn (d h) (f h) o (not_not_intro u)) (iy (d h) (f h) w) λ p tl(hi:Int)(A:aX)(B:aa)q(n:Nw)=>c2 (E [L] 0x10) (l p tl q)) λ(u:¬vM g (.str a m) (.int x tx))(n:Nw)=>c6 (E [L,i,kf] 0x1000210) (@rfl _ (dS xX (fW L))) (uU j:e.dp+1+30<900) (c.up (d h) (f h) o u) (ix (d h) (f h) w) λ p tl(hi:Int)(A:aX)(B:aa)q(n:Nw)=>c2 (E [L] 0x10) (l p tl q)) λ(h:¬0<(xs.length:Int))(n:Nw)=>c2 (E [L] 0x10) (l 0 tl (c.fin h))
theorem Im(r:∀v,ok v->∃a,v=.ref a)(s:bj b (gc kf (uT g) ok))(k:Int):bj b (Su 4 fP kf (hN (AW g) vL ok) k):=ct λ L j x f tl hi w xs e rest K l c m=>by obtain⟨x,tx,rfl⟩:=c.h7;have y:=dM (hi-f).toNat;have d:=qX c.h0 (hi:=hi);have i:=qY c.h0 (hi:=hi);exact dg.run G [⟨_,_,tI⟩] [oLt,qH,⟨_,s⟩,⟨_,Ia G tI r s k ((hi-f).toNat+1-1)⟩,tC af,H6] (oo 0x2212123162411412814115322144144422212111122123122122117121 [(oo 0x2212 []),(oo 0x221212316244 [])]) λ n=>c3 (E [L] 0x10) (b_.mpr c.h0) λ(n:Nw)=>c3 (E [L] 0x10000) (λ(h:f<hi)(n:Nw)=>c3 (E [j,L] 0x1111111100000) (c3 (bk c.h0 (d h)) c.h4 (c.wx r (d h) (i h))) λ(a:ae)(o:bE xs (Z.divQ (f+hi) 2).toNat=ab (.ref a))(n:Nw)=>c4 (E [kf] 0x100) (c.B1 (d h) (i h) o) (uU l:e.dp+1+20<900) λ(t:aX)(n:Nw)=>c3 (E [L] 0x10) (λ(u:AW g (.ref a) (.str x tx))(n:Nw)=>c6 (E [L,j,kf] 0x1000210) (@rfl _ (dS xW (fP L))) (uU l:e.dp+1+30<900) (c.up (d h) (i h) o u) (ix (d h) (i h) y) λ p tl(hi:Int)(w:aX)(z:aa)q(n:Nw)=>c2 (E [L] 0x10) (m p tl q)) λ(u:¬AW g (.ref a) (.str x tx))(n:Nw)=>c6 (E [L,j,kf] 0x1000210) (@rfl _ (dS xW (fP L))) (uU l:e.dp+1+30<900) (c.dn (d h) (i h) o u) (iy (d h) (i h) y) λ p tl(hi:Int)(w:aX)(z:aa)q(n:Nw)=>c2 (E [L] 0x10) (m p tl q)) λ(h:¬f<hi)(n:Nw)=>c2 (E [L] 0x10) (m f tl (c.fin h))
theorem Io(r:∀v,ok v->∃a,v=.ref a)(s:bj b (gc kf (uT g) ok))(k:Int):bj b (Su 2 fW kf (hN (λ v x=>¬AX g v x) vL ok) k):=ct λ L j x f tl hi w xs e rest K l c m=>by obtain⟨x,tx,rfl⟩:=c.h7;have y:=dM (hi-f).toNat;have d:=qX c.h0 (hi:=hi);have i:=qY c.h0 (hi:=hi);exact dg.run G [⟨_,_,tI⟩] [oLt,qH,⟨_,s⟩,⟨_,Ig G tI r s k ((hi-f).toNat+1-1)⟩,tC af,H6] (oo 0x22121231624412811153221441444222212111122123122122117121 [(oo 0x2212 []),(oo 0x22121231624114 [])]) λ n=>c3 (E [L] 0x10) (b_.mpr c.h0) λ(n:Nw)=>c3 (E [L] 0x10000) (λ(h:f<hi)(n:Nw)=>c3 (E [j,L] 0x11111111100000) (c3 (bk c.h0 (d h)) c.h4 (c.wx r (d h) (i h))) λ(a:ae)(o:bE xs (Z.divQ (f+hi) 2).toNat=ab (.ref a))(n:Nw)=>c4 (E [kf] 0x100) (c.B1 (d h) (i h) o) (uU l:e.dp+1+20<900) λ(t:aX)(n:Nw)=>c2 (λ(u:AX g (.ref a) (.str x tx))(n:Nw)=>c6 (E [L,j,kf] 0x1000210) (@rfl _ (dS xX (fW L))) (uU l:e.dp+1+30<900) (c.dn (d h) (i h) o (not_not_intro u)) (iy (d h) (i h) y) λ p tl(hi:Int)(w:aX)(z:aa)q(n:Nw)=>c2 (E [L] 0x10) (m p tl q)) λ(u:¬AX g (.ref a) (.str x tx))(n:Nw)=>c6 (E [L,j,kf] 0x1000210) (@rfl _ (dS xX (fW L))) (uU l:e.dp+1+30<900) (c.up (d h) (i h) o u) (ix (d h) (i h) y) λ p tl(hi:Int)(w:aX)(z:aa)q(n:Nw)=>c2 (E [L] 0x10) (m p tl q)) λ(h:¬f<hi)(n:Nw)=>c2 (E [L] 0x10) (m f tl (c.fin h))
end
theorem kQ(g:A.handled=az)(hi:s.heap.get? it=ab (nU l i))(h:s.heap.get? l=ab (lO xs ep))(j:0<=i)(c:∀v a,bE xs i.toNat=ab v->Trans s a [(it,nU l i)] [(it,nU l (i+1))]->R (.ok (.ret v)) a)(d:∀e D a,bE xs i.toNat=az->Trans s a [(it,nU l i)] [(it,VE i),(e,HI D)]->R (.error (.ref e)) a):bx (aW prog w) A (.builtin "list_iterator.__next__" ⟨[.ref it],[]⟩) R s:=by obtain⟨k,rfl⟩:=dI j;rw [bq,dH]at c d;refine bL (b:=cK.«list_iterator.__next__») (by decide+kernel) (aL (by kernel_rfl)) ?_;show bV _ _ (qw (.ref it) 0>>=_) _ _ s;refine aw (dW hi rfl (x:=.ref l) rfl ?_);show bV _ _ (if(ao l==fi)=ah then _ else _) _ _ s;rw [if_neg (show¬((ao l==fi)=ah)from bP)];show bV _ _ (qw (.ref it) 1>>=_) _ _ s;refine aw (dW hi rfl (x:=.int k 0) rfl ?_);show bV _ _ (seqItems? (.ref l)>>=_) _ _ s;refine aw (qy h rfl ?_);simp only [bq,eC];induction f:xs[k]? with|some v=>exact aw (gu hi rfl (by simp) (bc (c v _ f (Trans.upd hi (HJ l k (k+1)) rfl _))))|none=>exact aw (lM (aw (gu hi rfl (by simp) (ro g λ t D=>d _ D _ f (Trans.ended hi (HK l k) rfl t D)))))
noncomputable def LS(l:ae)(i:Int):dR:=nV "tuple_iterator" [.ref l,.int i 0]
noncomputable def WL(i:Int):dR:=nV "tuple_iterator" [.none,.int i 0]
theorem r5(g:A.handled=az)(hi:s.heap.get? it=ab (LS l i))(h:s.heap.get? l=ab (tO xs ep))(j:0<=i)(c:∀v a,bE xs i.toNat=ab v->Trans s a [(it,LS l i)] [(it,LS l (i+1))]->R (.ok (.ret v)) a)(d:∀e D a,bE xs i.toNat=az->Trans s a [(it,LS l i)] [(it,WL i),(e,HI D)]->R (.error (.ref e)) a):bx (aW prog w) A (.builtin "tuple_iterator.__next__" ⟨[.ref it],[]⟩) R s:=by obtain⟨k,rfl⟩:=dI j;rw [bq,dH]at c d;refine bL (b:=cK.«tuple_iterator.__next__») (by decide+kernel) (aL (by kernel_rfl)) ?_;show bV _ _ (qw (.ref it) 0>>=_) _ _ s;refine aw (dW hi rfl (x:=.ref l) rfl ?_);show bV _ _ (if(ao l==fi)=ah then _ else _) _ _ s;rw [if_neg (show¬((ao l==fi)=ah)from bP)];show bV _ _ (qw (.ref it) 1>>=_) _ _ s;refine aw (dW hi rfl (x:=.int k 0) rfl ?_);show bV _ _ (seqItems? (.ref l)>>=_) _ _ s;refine aw (qy h rfl ?_);simp only [bq,eC];induction f:xs[k]? with|some v=>exact aw (gu hi rfl (by simp [nV]) (bc (c v _ f (Trans.upd hi (show d8 (·.setIfInBounds 1 (kK ((k:Int)+1))) (LS l k)=LS l (k+1)from rfl) rfl _))))|none=>exact aw (lM (aw (gu hi rfl (by simp [nV]) (ro g λ t D=>d _ D _ f (Trans.ended hi (show d8 (·.setIfInBounds 0 .none) (LS l k)=WL k from rfl) rfl t D)))))
noncomputable def Vp.is:Vp->aa->Prop|.re=>λ v=>∃a,v=.ref a|.it=>λ v=>∃i t,v=.int i t|.st=>λ v=>∃s t,v=.str s t|_=>λ c=>True
noncomputable def Vp.all(p:Vp)(P:aa->Prop):Prop:=match p with|.re=>∀a,P (.ref a)|.it=>∀i t,P (.int i t)|.st=>∀s t,P (.str s t)|_=>∀v,P v
theorem Vp.C5{p:Vp}{P:aa->Prop}{v:aa}(h:p.all P)(a:p.is v):P v:=by induction p<;>first|exact h v|(obtain⟨x,rfl⟩:=a;exact h x)|(obtain⟨x,t,rfl⟩:=a;exact h x t)
noncomputable def Sv{b:Bs}(p:Vp):Ok b:=⟨gD "list.__getitem__" [.re,.it] [.ls] λ l i a xs ep=>⟨[l],λ a a a K=>(0<=i/\xs.length<=1048576/\∃v,bE xs i.toNat=ab v/\p.is v)/\p.all λ v=>bE xs i.toNat=ab v->K 0 (.ok (.ret v)) [(l,lO xs ep)] []⟩,bF λ l i u xs ep=>.mk λ A s rest K R h g Rd k=>by obtain⟨⟨d,e,v,c,f⟩,h⟩:=h;exact ml (Rd.own _ (.head _)) d e c (k 0 _ _ _ _ (Vp.C5 h f c) (Trans.refl Rd.left))⟩
noncomputable def WM(v:aa)(it:ae)(xs:List aa)(i:Int)(a:dR)(cs:Cells)(K:Nat->dq->Cells->Cells->Prop):Prop:=(0<=i/\bE xs i.toNat=ab v)/\K 0 (.ok (.ret v)) ((it,a)::cs) []
noncomputable def WN(it:ae)(xs:List aa)(i:Int)(a:dR)(cs:Cells)(K:Nat->dq->Cells->Cells->Prop):Prop:=(0<=i/\bE xs i.toNat=az)/\∀e D,K 0 (.error (.ref e)) ((it,a)::cs) [(e,HI D)]
theorem nW{xs:List aa}{n:Nat}{x:aa}{P:Prop}(a:bE xs n=ab x)(h:bE xs n=az):P:=nomatch a.symm.trans h
section
variable{b:Bs}{l0:ae}{rz:List aa}{AS:Nat}(hb:bN b l0 (lO rz AS))
noncomputable def jN(v:aa):Ok b:=⟨gD "list_iterator.__next__" [.re] [.it,.ls] λ it l i xs ep=>⟨[it,l],λ a a a K=>WM v it xs i (nU l (i+1)) [(l,lO xs ep)] K⟩,bF λ it l i xs ep=>.mk λ A s rest K R h c Rd k=>kQ c (Rd.own _ (.head _)) (Rd.own _ (.tail _ (.head _))) h.1.1 (λ v d f T=>by cases h.1.2.symm.trans f;exact k 0 _ _ _ _ h.2 (Trans.eA Rd.left T)) λ e D d g T=>nW h.1.2 g⟩
noncomputable def C6(p:Vp):Ok b:=⟨gD "list_iterator.__next__" [.re] [.it,.ls] λ it l i xs ep=>⟨[it,l],λ a a a K=>(0<=i/\∃v,bE xs i.toNat=ab v/\p.is v)/\p.all λ v=>bE xs i.toNat=ab v->K 0 (.ok (.ret v)) [(it,nU l (i+1)),(l,lO xs ep)] []⟩,bF λ it l i xs ep=>.mk λ A s rest K R h f Rd k=>by obtain⟨⟨g,u,c,j⟩,h⟩:=h;exact kQ f (Rd.own _ (.head _)) (Rd.own _ (.tail _ (.head _))) g (λ v m d T=>k 0 _ _ _ _ (Vp.C5 h (by cases c.symm.trans d;exact j) d) (Trans.eA Rd.left T)) λ e D m n T=>nW c n⟩
noncomputable def C7(v:aa):Ok b:=⟨gD "tuple_iterator.__next__" [.re] [.fl "tuple_iterator" [.re,.it],.tp] λ it l i a xs ep=>⟨[it,l],λ c c c K=>a=0/\WM v it xs i (LS l (i+1)) [(l,tO xs ep)] K⟩,bF λ it l i a xs ep=>.mk λ A s rest K R h d Rd k=>by obtain⟨rfl,h⟩:=h;exact r5 d (Rd.own _ (.head _)) (Rd.own _ (.tail _ (.head _))) h.1.1 (λ v f g T=>by cases h.1.2.symm.trans g;exact k 0 _ _ _ _ h.2 (Trans.eA Rd.left T)) λ e D f j T=>nW h.1.2 j⟩
noncomputable def zf:Ok b:=⟨gD "tuple_iterator.__next__" [.re] [.fl "tuple_iterator" [.re,.it],.tp] λ it l i a xs ep=>⟨[it,l],λ c c c K=>a=0/\WN it xs i (WL i) [(l,tO xs ep)] K⟩,bF λ it l i a xs ep=>.mk λ A s rest K R h d Rd k=>by obtain⟨rfl,h⟩:=h;exact r5 d (Rd.own _ (.head _)) (Rd.own _ (.tail _ (.head _))) h.1.1 (λ v f g T=>nW g h.1.2) λ e D f j T=>k 0 _ _ _ _ (h.2 e D) ((Trans.eA Rd.left T).perm (.cons _ (.swap _ _ _)))⟩
noncomputable def kF:Ok b:=⟨gD "list_iterator.__next__" [.re] [.it,.ls] λ it l i xs ep=>⟨[it,l],λ a a a K=>WN it xs i (VE i) [(l,lO xs ep)] K⟩,bF λ it l i xs ep=>.mk λ A s rest K R h c Rd k=>kQ c (Rd.own _ (.head _)) (Rd.own _ (.tail _ (.head _))) h.1.1 (λ v d f T=>nW f h.1.2) λ e D d g T=>k 0 _ _ _ _ (h.2 e D) ((Trans.eA Rd.left T).perm (.cons _ (.swap _ _ _)))⟩
include hb
noncomputable def fc(v:aa):Ok b:=⟨gD "list_iterator.__next__" [.re] [.it] λ it l i=>⟨[it],λ a a a K=>l=l0/\WM v it rz i (nU l (i+1)) [] K⟩,bF λ it l i=>.mk λ A s rest K R h c Rd k=>by obtain⟨rfl,h⟩:=h;exact kQ c (Rd.own _ (.head _)) (Rd.jq _ _ hb.1 hb.2) h.1.1 (λ v d f T=>by cases h.1.2.symm.trans f;exact k 0 _ _ _ _ h.2 T) λ e D d g T=>nW h.1.2 g⟩
noncomputable def fN:Ok b:=⟨gD "list_iterator.__next__" [.re] [.it] λ it l i=>⟨[it],λ a a a K=>l=l0/\WN it rz i (VE i) [] K⟩,bF λ it l i=>.mk λ A s rest K R h c Rd k=>by obtain⟨rfl,h⟩:=h;exact kQ c (Rd.own _ (.head _)) (Rd.jq _ _ hb.1 hb.2) h.1.1 (λ v d f T=>nW f h.1.2) λ e D d g T=>k 0 _ _ _ _ (h.2 e D) T⟩
end
section
variable{b:Bs}
end
noncomputable def nF(a:aR)(xs:List aa)(r:aR):Prop:=∃l:List (aR×aX),xs=g_ l/\Y_ ((l.map (·.1)).toArray.foldl (·+·.length+a.length) 0)=af/\r=d6 a (l.map (·.1))/\r.length<=lN
set_option tactic.hygienic true in noncomputable def wy(r:aR):Ok b:=⟨gD "str.join" [.st,.re] [.ls] λ a f l xs ep=>⟨[l],λ f f f K=>nF a xs r/\∀t,K 0 (.ok (.ret (.str r t))) [(l,lO xs ep)] []⟩,bF λ a t l xs ep=>.mk λ A s rest K R h i Rd k=>by
 obtain⟨⟨ls,rfl,d,rfl,e⟩,h⟩:=h;refine cz (by decide+kernel) (aL (by kernel_rfl)) (Na a t l ls d) ⟨⟨_,Rd.own _ (.head _),rfl,ep,rfl⟩,?_⟩;have c:∀t tk,R (.ok (.ret (.str (d6 a (ls.map (·.1))) t))) {s with toks:=tk}:=λ t tk=>k 0 _ _ _ _ (h t) (Trans.same Rd.left _);unfold joinMade;split;.rename_i g;have:=c g.2 s.toks;simpa [d6,Y']using this
 .exact⟨e,c s.toks (s.toks+1)⟩⟩
noncomputable def kG:aa->Option (Option Int)|.none=>ab az|.int i _=>ab (ab i)|_=>az
theorem pN(h:kG v=ab k):IsPart v k:=by induction v with|none=>cases h;exact .none|int i t=>cases h;exact .int _ _|_=>exact ns h
noncomputable def fe(xs:List aa)(a hi st:Option Int):List aa:=(vG xs.toArray a hi st).toList
theorem r6(xs:List aa)(k:Nat):fe xs (ab (k:Int)) az az=xs.drop k:=by unfold fe;rw [slicePick_from']
theorem oM(xs:List aa)(k:Nat):fe xs az (ab (k:Int)) az=xs.take k:=by unfold fe;rw [slicePick_upto']
theorem Ip{st:Option Int}(a:st≠ab 0):¬((rawPart st==kK 0)=ah):=by
 induction st with
  |none=>exact bP
  |some c=>
   intro d;have:c=0:=by simpa [rawPart,kK]using d
   exact a (by rw [this])
theorem r7{prog:d7}{w:cP}{A:dx}{s:aD}{R:dq->aD->Prop}{l sl:ae}{xs:List aa}{ep:Nat}{i j k:aa}{c hi st:Option Int}(o:kG i=ab c)(p:kG j=ab hi)(q:kG k=ab st)(m:¬st=ab 0)(d:xs.length<=1048576)(r:s.heap.get? l=ab (lO xs ep))(g:s.heap.get? sl=ab (nV "slice" [i,j,k]))(h:∀n a,Trans s n [] [(a,lO (fe xs c hi st) 0)]->R (.ok (.ret (.ref a))) n):bx (aW prog w) A (.builtin "list.__getitem__" ⟨[.ref l,.ref sl],[]⟩) R s:=by
 have f:s.TypeIs (.ref sl) "slice":=⟨_,g,rfl⟩;refine bL (by decide+kernel) F.entry_list_getitem ?_;show bV _ _ (pz (.ref sl)>>=_) _ _ s;unfold pz;refine aw (aw (V' f slice_no_index ?_));simp only [Option.isNone_none,if_true];refine bc ?_;show bV _ _ (typeOf (.ref sl)>>=_) _ _ s;refine aw (wpAny_typeOf f ?_);rw [if_neg (by decide),listSliceParts_eq];refine aw (aw (dW g rfl rfl (aw (yM (pN q) ?_))));rw [if_neg (Ip m)];refine aw (dW g rfl rfl (aw (yM (pN o) ?_)));refine aw (dW g rfl rfl (aw (yM (pN p) (bc ?_))));refine aw ?_;unfold kr;refine aw (qy r rfl (bc ?_));refine aw (l8 (sliceIndices_raw c hi st xs.toArray.size m) ?_);refine aw (ia (bc ?_) (ai (RG xs.toArray c hi st) (by rw [di,b6];exact ai d (by decide))));refine h _ s.heap.objs.size ?_;have e:lO (fe xs c hi st) 0={cls:=.type "list",data:=.seq (vG xs.toArray c hi st) 0}:=by unfold lO fe;simp
 rw [e];exact Trans.new rfl s.toks
section
variable{b:Bs}
noncomputable def pO:Ok b:=⟨gD "list.__getitem__" [.re,.re] [.ls,.fl "slice" [.an,.an,.an]] λ l sl xs ep d e f=>⟨[l,sl],λ g g g K=>pF (kG d) λ i=>pF (kG e) λ hi=>pF (kG f) λ st=>(¬st=ab 0/\xs.length<=1048576)/\∀a,K 0 (.ok (.ret (.ref a))) [(l,lO xs ep),(sl,nV "slice" [d,e,f])] [(a,lO (fe xs i hi st) 0)]⟩,bF λ l sl xs ep d e f=>.mk λ A s rest K R h q Rd k=>by obtain⟨i,j,h⟩:=d_ h;obtain⟨hi,m,h⟩:=d_ h;obtain⟨st,n,⟨o,c⟩,p⟩:=d_ h;exact r7 j m n o c (Rd.own _ (.head _)) (Rd.own _ (.tail _ (.head _))) λ r a T=>k 0 _ _ _ _ (p a) ((Trans.eA Rd.left T).perm bD)⟩
noncomputable def kg{l0:ae}(hb:bN b l0 (lO xs ep)):Ok b:=⟨gD "list.__getitem__" [.re,.re] [.fl "slice" [.an,.an,.an]] λ l sl d e f=>⟨[sl],λ g g g K=>pF (kG d) λ i=>pF (kG e) λ hi=>pF (kG f) λ st=>(l=l0/\¬st=ab 0/\xs.length<=1048576)/\∀a,K 0 (.ok (.ret (.ref a))) [(sl,nV "slice" [d,e,f])] [(a,lO (fe xs i hi st) 0)]⟩,bF λ l sl d e f=>.mk λ A s rest K R h q Rd k=>by obtain⟨i,j,h⟩:=d_ h;obtain⟨hi,m,h⟩:=d_ h;obtain⟨st,n,⟨rfl,o,c⟩,p⟩:=d_ h;exact r7 j m n o c (Rd.jq _ _ hb.1 hb.2) (Rd.own _ (.head _)) λ r a T=>k 0 _ _ _ _ (p a) ((Trans.eA Rd.left T).perm bD)⟩
noncomputable def C8:Ok b:=⟨gD "list.__add__" [.re,.re] [.ls,.ls] λ l m xs c ys d=>⟨[l,m],λ f f f K=>xs.length+ys.length<=100000/\∀a,K 0 (.ok (.ret (.ref a))) [(l,lO xs c),(m,lO ys d)] [(a,lO (xs++ys) 0)]⟩,bF λ l m xs c ys d=>.mk λ A s rest K R h g Rd k=>by
 refine cz (by decide+kernel) F.entry_list_add (PySem.AutoSeq1.list___add___list_list_0 l xs.toArray c m ys.toArray d (by rw [b6,b6,di];exact ai h.1 (by decide))) ⟨Rd.own _ (.head _),Rd.own _ (.tail _ (.head _)),k 0 _ _ _ _ (h.2 s.heap.objs.size) ?_⟩;have e:lO (xs++ys) 0={cls:=.type "list",data:=.seq (xs.toArray++ys.toArray) 0}:=by unfold lO;simp
 rw [e];exact(Trans.eA Rd.left (Trans.new rfl s.toks)).perm bD⟩
end
structure El where
 e:ae
 dk:ae
 bT:ae
 bm:ae
 it:ae
 cs:ae
 ca:ae
 sg:ae
 ct:ae
 ad:ae
 tag:aR
 tt:aX
 n:Int
 mq:List aa
 tail:aR
 tl:aX
 most:Bool
 above:Option ae
 kids:List ae
 eF:List (aR×aa)
 more:List aj
 h:Ht
 j2:Array aj
 l7:Nat
 ei:Nat
 es:Nat
noncomputable def refsOf(l:List ae):List aa:=l.map .ref
set_option genSizeOf true in set_option genSizeOfSpec true in inductive Tr where|mk(x:El)(kids:List Tr)
theorem Tr.oN{P:Tr->Prop}(h:∀x ks,(∀t∈ks,P t)->P (.mk x ks))(t:Tr):P t:=Tr.rec h (λ a h=>absurd h ax) (λ a a p q a b=>(aF.mp b).elim (λ e=>e▸p) (q _)) t
noncomputable def Tr.x:Tr->El|.mk x _=>x
noncomputable def Tr.kids:Tr->List Tr|.mk _ k=>k
noncomputable def Tr.e(t:Tr):ae:=t.x.e
noncomputable def ef(ts:List Tr):List aa:=ts.map λ t=>.ref t.e
mutual noncomputable def Tr.worth(f:El->Int):Tr->Int|.mk x ks=>match Tr.pP f ks with|[]=>f x|w::ws=>if x.most then ws.foldl max w else ws.foldl min w noncomputable def Tr.pP(f:El->Int):List Tr->List Int|[]=>[]|t::ts=>Tr.worth f t::Tr.pP f ts end
theorem ue(ts:List Tr):Tr.pP f ts=ts.map (Tr.worth f):=by induction ts with|nil=>rfl|cons t ts a=>exact congrArg (Tr.worth f t::·) a
inductive bl:List aa->List aR->Prop|nil:bl [] []|cons{x:aR}{t:aX}{vs:List aa}{ts:List aR}:bl vs ts->bl (.str x t::vs) (x::ts)
theorem bl.app(h:bl vs ts)(a:bl ot ts'):bl (vs++ot) (ts++ts'):=by induction h with|nil=>exact a|cons _ b=>exact .cons b
theorem bl.len(h:bl vs ts):vs.length=ts.length:=by induction h with|nil=>rfl|cons _ a=>simp [a]
theorem bl.drop(h:bl vs ts):∀n,bl (vs.drop n) (ts.drop n)|0=>h|n+1=>by induction h with|nil=>exact .nil|cons h=>exact bl.drop h n
noncomputable def put(f:aR->Option Int)(k:aR)(v:Int):aR->Option Int:=λ x=>if x=k then ab v else f x
noncomputable def eV(f:aR->Option Int)(o:Int)(x:El):Int:=(f x.tag).getD o
noncomputable def dr(w:cP)(o:dR)(eF:List (aR×aa)):Prop:=o.ExactDict/\∃es ep,o.data=.dict es ep/\KeysOf (strKind PW w) es/\Pairs (strKind PW w) es.toList eF/\(eF.map (·.1)).Nodup
theorem dr.at{w:cP}{o:dR}{eF:List (aR×aa)}{h:Q3}{a:ae}(x:dr w o eF)(c:h.get? a=ab o):h.DictOf (strKind PW w) a eF:=x.2.elim λ es y=>y.elim λ ep y=>⟨o,es,ep,c,x.1,y⟩
theorem dr.of{w:cP}{eF:List (aR×aa)}{h:Q3}{a:ae}(x:h.DictOf (strKind PW w) a eF):∃o,h.get? a=ab o/\dr w o eF:=x.elim λ o x=>x.elim λ es x=>x.elim λ ep x=>⟨o,x.1,x.2.1,es,ep,x.2.2⟩
theorem dr.dd(x:dr w o eF):∃es ep,o=ft es ep:=by obtain⟨⟨a,e,f⟩,es,ep,g,_⟩:=x;obtain⟨c,h,d,sl⟩:=o;cases a;cases e;cases f;cases g;exact⟨es,ep,rfl⟩
noncomputable def getD(eF:List (aR×aa))(k:aR)(v:aa):aa:=match cy eF k with|ab x=>x|az=>v
theorem jD{prog:d7}{w:cP}{id:String}(a:iL id=ah)(c:fg h8 id=ab b)(g:MeetsIn prog w (b args) S)(h:S A R s):bx (aW prog w) A (.builtin id args) R s:=bL a c (g A R s h)
theorem r8(prog:d7)(w:cP)(k:aR)(t:aX):(strKind prog w).is k (.str k t)=ah:=by show Nb k (.str k t)=ah;simp [Nb]
theorem kh(h:¬d=1):(d==Q7)=af:=by simpa [Q7]using h
theorem getD_eq:(cy eF k).getD v=getD eF k v:=by unfold getD;induction cy eF k<;>rfl
section
variable{w:cP}{A:dx}{s:aD}{R:dq->aD->Prop}{d:ae}{k:aR}{tk:aX}{v:aa}{o:dR}{eF:List (aR×aa)}
theorem pQ(c:s.heap.get? d=ab o)(e:dr w o eF)(a:¬d=1)(h:∀t,R (.ok (.ret (getD eF k v))) {s with toks:=t}):bx (aW PW w) A (.builtin "dict.get" ⟨[.ref d,.str k tk,v],[]⟩) R s:=jD (by decide+kernel) (aL (by kernel_rfl)) (G0 (w:=w) (knd:=strKind PW w) d (r8 _ _ k tk) (kh a) v) ⟨cy eF,(e.at c).mapOf,by rw [getD_eq];exact h _⟩
theorem r9(a:s.heap.get? d=ab o)(c:dr w o eF)(e:cy eF k=ab v)(h:∀t,R (.ok (.ret v)) {s with toks:=t}):bx (aW PW w) A (.builtin "dict.__getitem__" ⟨[.ref d,.str k tk],[]⟩) R s:=jD (by decide+kernel) (aL (by kernel_rfl)) (meets_dict_getitem (w:=w) (knd:=strKind PW w) d (r8 _ _ k tk)) ⟨cy eF,_,(c.at a).mapOf,e,h _⟩
theorem C9(c:s.heap.get? d=ab o)(e:dr w o eF)(a:¬d=1)(h:∀t,R (.ok (.ret (.bool (cy eF k).isSome))) {s with toks:=t}):bx (aW PW w) A (.builtin "dict.__contains__" ⟨[.ref d,.str k tk],[]⟩) R s:=jD (by decide+kernel) (aL (by kernel_rfl)) (meets_dict_contains (w:=w) (knd:=strKind PW w) d (r8 _ _ k tk) (kh a)) ⟨cy eF,(e.at c).mapOf,h _⟩
theorem AY(m:s.heap.get? d=ab o)(n:dr w o eF)(c:eF.length<=1000)(h:∀a j,dr w a (jX eF k v)->Trans s j [(d,o)] [(d,a)]->R (.ok (.ret .none)) j):bx (aW PW w) A (.builtin "dict.__setitem__" ⟨[.ref d,.str k tk,v],[]⟩) R s:=by have l:=n.at m;refine bL (b:=cK.«dict.__setitem__») (by decide+kernel) (aL (by kernel_rfl)) ?_;show bV _ _ (Wa "__setitem__" ⟨[.ref d,.str k tk,v],[]⟩>>=_) _ _ s;refine aw (wpAny_notOrdered_dict l.typeIs ?_);show bV _ _ (dictSet d (.str k tk) v>>=_) _ _ s;refine aw (Nc (knd:=strKind PW w) (r8 _ _ k tk) l (λ p e f=>bc ?_) (by rw [di];exact ai c (by decide)));obtain⟨a,g,i⟩:=dr.of e;exact h a _ i (Trans.one g f)
end
noncomputable def Sw:aa->aR|.str s _=>s|_=>⟨#[]⟩
noncomputable def ents(es:Array aj):List (aR×aa):=es.toList.map λ e=>(Sw e.key,e.val)
theorem Iq(h:Pairs (strKind PW w) l eF):l.map (λ e=>(Sw e.key,e.val))=eF:=by induction h with|nil=>rfl|cons a c h f=>obtain⟨t,a⟩:=oj a;rw [bu,f,a,c];rfl
theorem dr.ents(x:dr w (ft es ep) eF):ents es=eF:=by obtain⟨_,a,c,e,_,f,_⟩:=x;cases e;exact Iq f
noncomputable def numOf:Option aa->Option Int|ab (.int i _)=>ab i|_=>az
noncomputable def dF(es:Array aj):aR->Option Int:=λ k=>numOf (cy (ents es) k)
structure lq(T:List aR)(w:cP)(es:Array aj)(ep:Nat):Prop where
 d:dr w (ft es ep) (ents es)
 k:∀kv∈ents es,kv.1∈T
 n:∀k v,cy (ents es) k=ab v->ry v
theorem mr{eF:List (aR×aa)}:cy (jX eF k v) x=if x=k then ab v else cy eF x:=by
 unfold jX cy;by_cases h:(eF.any λ a=>decide (a.1=k))=ah
 .rw [if_pos h]
  induction eF with
   |nil=>cases h
   |cons p eF f=>
    rw [bu,m1,m1];by_cases hp:p.1=k
    .rw [if_pos hp];by_cases c:x=k;.simp [c,hp]
     .have g:¬p.1=x:=λ e=>c (e▸hp);rw [if_neg c,decide_eq_false g];dsimp only
      have m:∀l:List (aR×aa),(l.map λ a=>if a.1=k then(a.1,v)else a).find? (λ a=>decide (a.1=x))=l.find? λ a=>decide (a.1=x):=λ l=>by
       induction l with
        |nil=>rfl
        |cons q l f=>
         rw [bu,m1,m1,f];by_cases hq:q.1=k;.rw [if_pos hq,decide_eq_false λ e:q.1=x=>c (e▸hq)]
         .rw [if_neg hq]
      rw [m]
    .rw [if_neg hp];have n:(eF.any λ a=>decide (a.1=k))=ah:=by simpa [hp]using h
     by_cases WO:p.1=x;.have c:¬x=k:=λ e=>hp (WO.trans e);simp [WO,c]
     .rw [decide_eq_false WO];exact f n
 .rw [if_neg h,List.find?_append];by_cases c:x=k;.subst c;have i:eF.find? (λ a=>decide (a.1=x))=az:=ku.mpr λ a j e=>h (rO.mpr ⟨a,j,e⟩);rw [i];simp
  .have:¬k=x:=λ e=>c e.symm;simp [this,c]
theorem wz{eF:List (aR×aa)}:∀a∈jX eF k v,a.1=k\/∃q∈eF,q.1=a.1:=by
 intro a h;unfold jX at h;split at h;.obtain⟨q,c,e⟩:=ba.mp h;exact .inr ⟨q,c,by rw [<-e];split<;>rfl⟩
 .rcases aO.mp h with h|h;.exact .inr ⟨a,h,rfl⟩
  .exact .inl (by rw [ay.mp h])
theorem C_{l:List aR}:∀{T:List aR},l.Nodup->(∀x∈l,x∈T)->l.length<=T.length:=by induction l with|nil=>exact λ i i=>bJ _|cons a l j=>intro T m h;have f:=h a (.head _);have c:=bM.mp m;have:=j c.2 λ x g=>(Ay (λ e:x=a=>c.1 (e▸g))).mpr (h x (.tail _ g));rw [vU f]at this;exact ai (bW this) (cR (Nat.succ_pred_eq_of_pos (xy f)))
section
variable{T:List aR}{w:cP}{es:Array aj}{ep:Nat}
theorem lq.len(h:lq T w es ep):(ents es).length<=T.length:=by
 obtain⟨_,_,_,_,_,_,c⟩:=h.d;have:=C_ c λ x e=>by obtain⟨f,a,rfl⟩:=ba.mp e;exact h.k f a
 rwa [aM]at this
theorem lq.get(h:lq T w es ep)(k:aR)(j:Int)(t:aX):∃t',getD (ents es) k (.int j t)=.int ((dF es k).getD j) t':=by unfold getD dF;induction e:cy (ents es) k with|none=>exact⟨t,rfl⟩|some v=>obtain⟨i,t',rfl⟩:=h.n k v e;exact⟨t',rfl⟩
theorem lq.isSome(h:lq T w es ep)(k:aR):(cy (ents es) k).isSome=(dF es k).isSome:=by unfold dF;induction e:cy (ents es) k with|none=>rfl|some v=>obtain⟨i,t',rfl⟩:=h.n k v e;rfl
theorem lq.at{k:aR}{i:Int}(e:dF es k=ab i):∃t,cy (ents es) k=ab (.int i t):=by unfold dF at e;induction a:cy (ents es) k with|none=>rw [a]at e;cases e|some v=>rw [a]at e;induction v<;>first|exact ns e|(cases e;exact⟨_,rfl⟩)
theorem lq.put{k:aR}{i:Int}{t:aX}(h:lq T w es ep)(l:k∈T)(j:dr w o' (jX (ents es) k (.int i t))):∃a c,o'=ft a c/\lq T w a c/\dF a=put (dF es) k i:=by
 obtain⟨a,c,rfl⟩:=j.dd;have e:=j.ents;refine⟨a,c,rfl,⟨e.symm▸j,λ m f=>?_,λ x v g=>?_⟩,funext λ x=>?_⟩
 .rw [e]at f;rcases wz m f with e|⟨q,n,e⟩;.rw [e];exact l
  .rw [<-e];exact h.k q n
 .rw [e,mr]at g;split at g;.cases g;exact⟨_,_,rfl⟩
  .exact h.n x v g
 .unfold dF Lean.put;rw [e,mr];split<;>rfl
end
section
variable{b:Bs}(G:Good b){T:List aR}
include G
noncomputable def zg(T:List aR):Ok b:=⟨gD "dict.get" [.re,.st,.it] [.dd] λ d k a j a es ep=>⟨[d],λ a a a K=>(¬d=1/\lq T b.w es ep)/\∀t,K 0 (.ok (.ret (.int ((dF es k).getD j) t))) [(d,ft es ep)] []⟩,bF λ d k tk j g es ep=>.mk λ A s rest K R h l Rd q=>by obtain⟨⟨c,f⟩,i⟩:=h;rw [G.prog];obtain⟨t',e⟩:=f.get k j g;exact pQ (Rd.own _ (.head _)) f.d c λ a=>e▸q 0 _ _ _ _ (i t') (Trans.same Rd.left _)⟩
noncomputable def Dc(T:List aR)(i:Int):Ok b:=⟨gD "dict.__getitem__" [.re,.st] [.dd] λ d k a es ep=>⟨[d],λ a a a K=>(lq T b.w es ep/\dF es k=ab i)/\∀t,K 0 (.ok (.ret (.int i t))) [(d,ft es ep)] []⟩,bF λ d k tk es ep=>.mk λ A s rest K R h g Rd q=>by obtain⟨⟨c,hi⟩,f⟩:=h;rw [G.prog];obtain⟨t',e⟩:=lq.at hi;exact r9 (Rd.own _ (.head _)) c.d e λ a=>q 0 _ _ _ _ (f t') (Trans.same Rd.left _)⟩
noncomputable def zh(T:List aR)(g:T.length<=1000):Ok b:=⟨gD "dict.__setitem__" [.re,.st,.it] [.dd] λ d k e i e es ep=>⟨[d],λ e e e K=>(lq T b.w es ep/\k∈T)/\∀a c,lq T b.w a c->dF a=put (dF es) k i->K 0 (.ok (.ret .none)) [(d,ft a c)] []⟩,bF λ d k tk i r es ep=>.mk λ A s rest K R h t Rd q=>by obtain⟨⟨f,j⟩,l⟩:=h;rw [G.prog];refine AY (Rd.own _ (.head _)) f.d (ai f.len g) λ u x m Tr=>?_;obtain⟨a,c,rfl,n,p⟩:=f.put j m;exact q 0 _ _ _ _ (l a c n p) Tr⟩
end
noncomputable def zi{b:Bs}(v:Int):Ok b:=⟨gD "int.__and__" [.it,.it] [] λ x a y a=>⟨[],λ a a a K=>br x y=v/\∀t,K 0 (.ok (.ret (.int v t))) [] []⟩,bF λ x t y u=>.mk λ A s rest K R h c Rd k=>cz Se Sf (show rM (cK.«int.__and__» ⟨[.int x t,.int y u],[]⟩) (.int (br x y))from .of_eq rfl).meets (by rw [h.1];exact k 0 _ _ _ _ (h.2 _) (Trans.nil s _))⟩
noncomputable def xY:aR:=⟨#[105,116,101,114,97,116,111,114]⟩
noncomputable def n_b:aR:=⟨#[98]⟩
noncomputable def Sx:aR:=⟨#[118,97,108]⟩
noncomputable def nsV:List aR:=[xY,n_b,Sx]
noncomputable def wV:=bE (aP 8) 2
noncomputable def qV:aR:=⟨#[95,112,97,114,115,101,95,118,97,114,105,110,116,46,60,108,111,99,97,108,115,62,46]⟩
noncomputable def NZ(L:ae):fJ:=nu 8 qV 65 64 L []
noncomputable def Rl(xs:List aa):Int->List Int->Prop|i,[]=>0<=i|i,o::os=>0<=i/\(∃t,bE xs i.toNat=ab (.int o t))/\Rl xs (i+1) os
noncomputable def VT(v b:Int):List Int->Int->Prop|[],r=>br b 64=0/\r=v|x::os,r=>br b 64=64/\(0<=v/\v<2^60)/\VT (kL (v*2^6) (br x 63)) x os r
noncomputable def fwd(i:Int):List Int->Int|[]=>i|_::os=>fwd (i+1) os
noncomputable def Zt:List Kd:=[.fr nsV,.it,.ls]
noncomputable def cV(os:List Int)(r:Int)(L it:ae)(b:Int)(tb:aX)(v:Int)(tv:aX)(l:ae)(i:Int)(xs:List aa):Ct:=⟨[L,it,l],λ d u f=>[d+30<900,VT v b os r,Rl xs i os],λ K=>∀e a c,K 0 (.ok .next) [(L,.fr [.ref it,.int e a,.int r c]),(it,.it l (fwd i os)),(l,.ls xs)] []⟩
noncomputable def spV(os:List Int)(r:Int):Sp:=gb (.of nE λ L=>dS wV (NZ L)) [.fr [.re,.it,.it],.it,.ls] Zt (k1 Zt) (cV os r)
theorem WQ{v:Int}(h:0<=v/\v<2^60):0<=v/\v<2^60/\(0:Int)<=6/\(6:Int)<=60:=⟨h.1,h.2,by decide,by decide⟩
theorem Sy{b:Bs}(G:Good b)(os:List Int):∀r,bj b (spV os r):=by induction os with|nil=>exact λ r=>ct λ L it x tb v tv l i xs e rest K h d j f=>by obtain⟨g,rfl⟩:=d;exact dg.run G [] [zi 0] (oo 0x3214111113121 []) λ n=>c3 (E [L] 0x10) g (λ(t:aX)(m:Nw)=>(f x tb tv:K 0 (fy j8) [(L,Dv.fr [ao it,ak x tb,ak r tv]),(it,Dv.it l i),(l,Dv.ls xs)] []))|cons o os p=>exact λ r=>ct λ L it x tb v tv l i xs e rest K h d j f=>by obtain⟨g,q,s⟩:=d;obtain⟨u,⟨t,w⟩,y⟩:=j;exact dg.run G [] [zi 64,WH,jN (.int o t),Sg,oOr,⟨_,p r⟩] (oo 0x321412134183611711161663632315414411211121141211113121 []) λ n=>c3 (E [L] 0x10) g (λ(z:aX)(m:Nw)=>c3 (E [L] 0x10) (WQ q) (λ(A:aX)(D:Nw)=>c3 (E [it,l,L] 0x122200010) (c2 u w) (λ(F:Nw)=>c2 (E [L] 0x10000) (λ(B:aX)(H:Nw)(C:aX)(I:Nw)=>c6 (E [L,it,l] 0x100210) (@rfl aT (dS wV (NZ L))) h s y (λ(k:Int)(a:aX)(c:aX)(J:Nw)=>(f k a c:K 0 (fy j8) [(L,Dv.fr [ao it,ak k a,ak r c]),(it,Dv.it l (fwd (i+1) os)),(l,Dv.ls xs)] []))))))
noncomputable def VC(o:Int)(os:List Int)(r:Int):Prop:=VT (br o 63) o os r
noncomputable def cVC(o:Int)(os:List Int)(r:Int)(it l:ae)(i:Int)(xs:List aa):Ct:=⟨[it,l],λ d u a=>[d+60<900,VC o os r,Rl xs i (o::os)],λ K=>∀t,K 0 (.ok (.ret (.int r t))) [(it,.it l (fwd i (o::os))),(l,.ls xs)] []⟩
noncomputable def Sz:List Kd:=[.it,.ls]
noncomputable def WR(o:Int)(os:List Int)(r:Int):Sp:=gb (.call 65 [.re]) [.it,.ls] Sz (k1 Sz) (cVC o os r)
theorem LU(G:Good b)(o:Int)(os:List Int)(r:Int):bj b (WR o os r):=ct λ it l i xs e rest K c d f g=>by obtain⟨h,⟨t,j⟩,k⟩:=f;exact dg.run G [] [jN (.int o t),Sg,⟨_,Sy G os r⟩] (oo 0x3231221341536114163632313414411211112112 []) λ n=>c4 (jf c:e.dp+0<1000) (E [it,l,n.1 0] 0x122200010) (c2 h j) (λ(q:Nw)=>c2 (E [n.1 0] 0x1000) (λ(m:aX)(s:Nw)=>c6 (E [n.1 0,it,l] 0x100210) (@rfl aT (dS wV (NZ (n.1 0)))) (fj c:e.dp+1+30<900) d k (λ(u:Int)(p:aX)(a:aX)(v:Nw)=>c2 (E [n.1 0] 0x10) (g a))))
noncomputable def SA(s:B_):B_:={s with names:=s.names.map λ p=>match p.2 with|.free=>(p.1,.cell)|_=>p}
structure Cp where
 L:ae
 F:ae
 it:ae
 acc:ae
 c0:ae
 c1:ae
 c2:ae
noncomputable def xZ:aa->ae|.ref a=>a|_=>0
noncomputable def N0:aT->ae|.compLoop _ _ it _ _=>xZ it|.forLoop _ it _ _ _=>xZ it|_=>0
noncomputable def SD:aT->ae|.compLoop _ _ _ a _=>xZ a|_=>0
noncomputable def jO(i:Nat)(c:aT):ae:=match bE (envOf c).cells i with|ab p=>p.2|az=>0
noncomputable def SE(c:aT):ae:=match(envOf c).frame with|ab a=>a|az=>0
noncomputable def fo(c:aT):Cp:=⟨nE c,SE c,N0 c,SD c,jO 0 c,jO 1 c,jO 2 c⟩
noncomputable def x1(e:bO)(a:aR)(c L F:ae):fJ:={scope:=(RT e).sc,locals:=L,globals:=3,cells:=[],qual:=a,code:=.ref c,frame:=ab F,builtins:=0}
noncomputable def lQ(e:bO)(b:aR)(c L F:ae)(a:List (aR×ae)):fJ:={scope:=SA (RT e).sc,locals:=L,globals:=3,cells:=a,qual:=b,code:=.ref c,frame:=ab F,builtins:=0}
noncomputable def tJ(xs:List aa):Int->List Int->Prop|i,[]=>0<=i/\bE xs i.toNat=az|i,o::os=>0<=i/\(∃t,bE xs i.toNat=ab (.int o t))/\tJ xs (i+1) os
noncomputable def aV:List aa->List Int->Prop|[],[]=>True|v::vs,n::ns=>(∃t,v=.int n t)/\aV vs ns|_,_=>False
theorem aV.len:∀{xs:List aa}{l:List Int},aV xs l->xs.length=l.length|[],[],_=>rfl|_::_,_::_,h=>congrArg (·+1) (aV.len h.2)|[],_::_,h=>h.elim|_::_,[],h=>h.elim
theorem aV.app:∀{xs:List aa}{l:List Int},aV xs l->aV ys m->aV (xs++ys) (l++m)|[],[],_,h=>h|_::_,_::_,h,a=>⟨h.1,aV.app h.2 a⟩|[],_::_,h,_=>h.elim|_::_,[],h,_=>h.elim
theorem iz(v:aa)(h:ys.length+(n+1)<=m):(snoc ys v).length+n<=m:=by rw [show(snoc ys v).length=ys.length+1 from bh,gG,il 1];exact h
theorem fu(ys:List aa)(v:aa)(a:List aa):snoc ys v++a=ys++v::a:=by unfold snoc;rw [bb];rfl
noncomputable def kR:aR:=⟨#[110,117,109,98,101,114]⟩
noncomputable def N1:aR:=⟨#[119,105,100,101]⟩
noncomputable def WS:aR:=⟨#[107]⟩
noncomputable def qDg:aR:=⟨#[95,108,97,119,95,100,105,103,105,116,115,46,60,108,111,99,97,108,115,62,46]⟩
noncomputable def Zu:bO:=xE (sE (bE (aP 14) 0) 0) 0
noncomputable def nX(p:Cp):aT:=.compLoop Zu 0 (.ref p.it) (.ref p.acc) (lQ Zu qDg 92 p.L p.F [(N1,p.c0),(kR,p.c1)])
noncomputable def pw(k:Int):Int:=.ofNat ((64:Int).toNat^k.toNat)
noncomputable def inD(num w k:Int):Prop:=w=1\/num>=pw k
noncomputable def dl(num w:Int):List Int->List Int|[]=>[]|k::ks=>open Classical in if inD num w k then(Z.modQ (Q6 num (pw k)) 64+64)::dl num w ks else dl num w ks
noncomputable def WT:Bool->List Kd|ah=>[.dc [],.fl "tuple_iterator",.tp,.ls,.cl,.cl]|af=>[.dc [WS],.fl "tuple_iterator",.tp,.ls,.cl,.cl]
noncomputable def N2:List Kd:=[.dc [WS],.ls,.cl,.cl]
noncomputable def mv:Bool->List aa->Prop|ah,[]=>True|af,[_]=>True|_,_=>False
structure zj(vs:List aa)(i:Int)(ks:List Int)(ys:List aa):Prop where
 a:tJ vs i ks
 k:∀k∈ks,1<=k/\k<=5
 l:ys.length+ks.length<=20
noncomputable def Zv(ks:List Int)(p:Cp)(a:ae)(i:Int)(c:aX)(vs:List aa)(ys:List aa)(w:Int)(e:aX)(num:Int)(f:aX):Ct:=⟨[p.L,p.it,a,p.acc,p.c0,p.c1],λ d u g=>[d+20<900,c=0,zj vs i ks ys],λ K=>∀v zs,aV zs (dl num w ks)->K 0 (.ok .next) [(p.L,.fr [v]),(p.acc,.ls (ys++zs)),(p.c0,.cl (ab (.int w e))),(p.c1,.cl (ab (.int num f)))] []⟩
noncomputable def WU(ks:List Int)(p:Cp)(v:aa):=Zv ks p
noncomputable def SF(ks:List Int):Sp:=gb (.of fo nX) [.fr [],.fr [.re,.it],.ls,.ls,.cs .it,.cs .it] (WT ah) (k1 N2) (Zv ks)
noncomputable def wA(ks:List Int):Sp:=gb (.of fo nX) [.fr [.an],.fr [.re,.it],.ls,.ls,.cs .it,.cs .it] (WT af) (k1 N2) (WU ks)
section
variable{vs ys zs:List aa}{i k num w:Int}{ks:List Int}(h:zj vs i (k::ks) ys)
include h
theorem zj.at:∃t,0<=i/\bE vs i.toNat=ab (.int k t):=h.a.2.1.elim λ t e=>⟨t,h.a.1,e⟩
theorem zj.pw:2<=(64:Int)/\(64:Int)<=64/\1<=k/\k<=64:=⟨by decide,by decide,(h.k k (.head _)).1,bk (h.k k (.head _)).2 (by decide)⟩
theorem zj.pos:0<Lean.pw k/\Lean.pw k<2^60:=by obtain⟨n,rfl⟩:=dI (bk (by decide) (h.k k (.head _)).1);have a:n<=5:=fI.mp (h.k n (.head _)).2;have c:64^n<=64^5:=BU (by decide) a;have d:0<64^n:=Nat.pow_pos (by decide);exact⟨e_.mpr d,qz (fI.mpr c) (by decide)⟩
theorem zj.len:ys.length<=1048576:=ai (ai (bX _ _) h.l) (by decide)
theorem zj.skip:zj vs (i+1) ks ys:=⟨h.a.2.2,λ k a=>h.k k (.tail _ a),ai (cZ (om _) _) h.l⟩
theorem zj.put(v:aa):zj vs (i+1) ks (snoc ys v):=⟨h.a.2.2,λ k a=>h.k k (.tail _ a),by have:=h.l;rw [show(snoc ys v).length=ys.length+1 from bh,gG,il 1];exact this⟩
end
noncomputable def oct(num w:Int):List Int:=match dl num w [5,4,3,2,1]++[Z.modQ num 64]with|d::a=>(d+128)::a|[]=>[]
theorem Dd(num w:Int):∀ks,(dl num w ks).length<=ks.length:=by
 intro ks
 induction ks with
  |nil=>exact bt _
  |cons _ ks a=>
   unfold dl;split;.exact bW a
   .exact fL a
section
variable(h:aV zs (dl num w [5,4,3,2,1]))
include h
theorem De:zs.length<=5:=h.len▸Dd num w [5,4,3,2,1]
theorem WV:zs.length+1<=100000:=ai (bW (De h)) (by decide)
theorem Df:aV (zs++[.int (Z.modQ num 64) t]) (dl num w [5,4,3,2,1]++[Z.modQ num 64]):=h.app ⟨⟨t,rfl⟩,trivial⟩
theorem N3:(zs++[ak (Z.modQ num 64) t]).length<=6:=by rw [bh];exact bW (De h)
theorem WW:(0:Int)<=0/\(zs++[ak (Z.modQ num 64) t]).length<=1048576/\∃v,bE (zs++[ak (Z.modQ num 64) t]) 0=ab v/\Vp.it.is v:=by refine⟨aN _,ai (N3 h) (by decide),?_⟩;have:=Df (t:=t) h;induction zs with|nil=>exact⟨_,rfl,_,_,rfl⟩|cons z zs=>induction a:dl num w [5,4,3,2,1]with|nil=>rw [a]at h;exact h.elim|cons d c=>rw [a]at h;obtain⟨⟨t,rfl⟩,_⟩:=h;exact⟨_,rfl,_,_,rfl⟩
theorem WX:¬(az:Option Int)=ab 0/\(zs++[ak (Z.modQ num 64) t]).length<=1048576:=⟨(λ h=>(by injection h)),ai (N3 h) (by decide)⟩
theorem SG:fe (zs++[ak (Z.modQ num 64) t]) (ab 1) az az=(zs++[ak (Z.modQ num 64) t]).drop 1:=r6 _ 1
theorem WY:1+(fe (zs++[ak (Z.modQ num 64) t]) (ab 1) az az).length<=100000:=by rw [SG h,rN];have:=N3 (t:=t) h;exact li 0x186a05041101303411106103111 [(zs++[ak (Z.modQ num 64) t]).length,(zs++[ak (Z.modQ num 64) t]).length-1] rfl this (iW (zs++[ak (Z.modQ num 64) t]).length 1)
theorem WZ(hi:bE (zs++[ak (Z.modQ num 64) t]) 0=ab (.int i t')):aV ([.int (i+128) t2]++fe (zs++[ak (Z.modQ num 64) t]) (ab 1) az az) (oct num w):=by have a:=Df (t:=t) h;rw [SG h];unfold oct;induction zs<;>induction d:dl num w [5,4,3,2,1]<;>rw [d]at h a<;>first|exact h.elim|(obtain⟨⟨f,e⟩,c⟩:=a;induction hi;cases e;exact⟨⟨t2,rfl⟩,c⟩)|(obtain⟨⟨f,e⟩,c⟩:=a;cases hi.symm.trans (congrArg ab e);exact⟨⟨t2,rfl⟩,c⟩)
end
section
variable{b:Bs}(G:Good b)
include G
theorem N4:bj b (wA []):=ct λ p v c i j vs ys w l num m e rest K o d f g=>by cases d;exact dg.run G [] [zf] (oo 0x654351e323134141 []) λ n=>c4 (E [p.3,c] 0x10010) (@rfl aX 0) f.a (λ(a:ae)(D:Array aa)(q:Nw)=>c2 (E [a] 0x10) (aA ys▸g v [] trivial))
theorem zk{e:Ev}{K:Kv}(D:bj b (wA ks))(l:e.dp+20<900)(f:Bool){m:List aa}(F:mv f m)(h:zj vs i (k::ks) ys)(z:∀v zs,aV zs (dl num w (k::ks))->K 0 (.ok .next) [(p.L,.fr [v]),(p.acc,.ls (ys++zs)),(p.c0,.cl (ab (.int w tw))),(p.c1,.cl (ab (.int num tn)))] []):dg b e (nX p) (WT f) [(p.L,.fr m),(p.it,.fr [.ref tu,.int i 0]),(tu,.ls vs),(p.acc,.ls ys),(p.c0,.cl (ab (.int w tw))),(p.c1,.cl (ab (.int num tn)))] (k1 N2) K:=by
 obtain⟨t,H⟩:=h.at;have A:inD num w k->∀v t zs,aV zs (dl num w ks)->K 0 (.ok .next) [(p.L,.fr [v]),(p.acc,.ls (snoc ys (.int (Z.modQ (num.fdiv (pw k)) 64+64) t)++zs)),(p.c0,.cl (ab (.int w tw))),(p.c1,.cl (ab (.int num tn)))] []:=λ hi v t zs o=>by rw [fu];refine z v _ ?_;unfold dl;rw [if_pos hi];exact⟨⟨t,rfl⟩,o⟩
 have I:¬inD num w k->∀v zs,aV zs (dl num w ks)->K 0 (.ok .next) [(p.L,.fr [v]),(p.acc,.ls (ys++zs)),(p.c0,.cl (ab (.int w tw))),(p.c1,.cl (ab (.int num tn)))] []:=λ hi v zs o=>z v zs (by unfold dl;rw [if_neg hi];exact o);have B:=h.len;have q:=h.pw;have J:=h.skip;induction f<;>rcases m with _|⟨v,_|⟨_,_⟩⟩<;>induction F;all_goals exact dg.run G [] [C7 (.int k t),oEq,Sl,oGe,oDiv,dP,⟨_,D⟩] (oo 0x4321516513247194218811111117111516c1241a36323134141 [(oo 0x4321516513247194218811111117111516c126111516c [(oo 0x432151654213719 [])])]) λ n=>c4 (E [p.3,tu] 0x10010) (@rfl aX 0) H (λ(O:Nw)=>c3 (E [p.5,p.1] 0x1110) (λ(d:w=1)(L:Nw)=>c3 (E [p.1,p.6] 0x110) q (λ(r:aX)(M:Nw)=>c2 h.pos (λ(s:aX)(j:Nw)=>c3 (E [p.4] 0x100) B (λ(u:Nat)(C:Nw)=>c6 (E [p.1,p.3,tu,p.4,p.5,p.6] 0x1543210) (@rfl aT (nX p)) l (@rfl aX 0) (h.put _:zj vs (i+1) ks (snoc ys (ak (Z.modQ (num.fdiv (bp (iZ 64^k.toNat))) 64+64) (j.tk 3)))) (λ(a:aa)(zs:List aa)(c:aV zs (dl num w ks))(y:Nw)=>A (.inl d) a (j.tk 3) zs c))))) (λ(d:¬w=1)(L:Nw)=>c3 (E [p.1,p.6] 0x110) q (λ(r:aX)(M:Nw)=>c2 (λ(c:num>=bp (iZ 64^k.toNat))(j:Nw)=>c3 (E [p.1,p.6] 0x110) q (λ(s:aX)(C:Nw)=>c2 h.pos (λ(N:aX)(y:Nw)=>c3 (E [p.4] 0x100) B (λ(u:Nat)(P:Nw)=>c6 (E [p.1,p.3,tu,p.4,p.5,p.6] 0x1543210) (@rfl aT (nX p)) l (@rfl aX 0) (h.put _:zj vs (i+1) ks (snoc ys (ak (Z.modQ (num.fdiv (bp (iZ 64^k.toNat))) 64+64) (y.tk 3)))) (λ(a:aa)(zs:List aa)(g:aV zs (dl num w ks))(Q:Nw)=>A (.inr c) a (y.tk 3) zs g))))) (λ(c:¬num>=bp (iZ 64^k.toNat))(j:Nw)=>c6 (E [p.1,p.3,tu,p.4,p.5,p.6] 0x1543210) (@rfl aT (nX p)) l (@rfl aX 0) J (λ(a:aa)(zs:List aa)(g:aV zs (dl num w ks))(C:Nw)=>I (λ x=>x.elim d c) a zs g)))))
theorem N5{k:Int}(a:bj b (wA ks)):bj b (wA (k::ks)):=ct λ p v j i l vs ys w m num n e rest K c d f g=>by cases d;exact zk G a c af trivial f g
theorem N6:∀ks,bj b (wA ks):=by intro ks;induction ks with|nil=>exact N4 G|cons _ ks a=>exact N5 G a
theorem N7(k:Int)(ks:List Int):bj b (SF (k::ks)):=ct λ p g i j vs ys w l num m e rest K a c d f=>by cases c;exact zk G (N6 G ks) a ah trivial d f
noncomputable def cDG(num:Int)(a:aX)(w:Int)(c:aX):Ct:=⟨[],λ d u e=>[d+40<900],λ K=>∀l xs,aV xs (oct num w)->K 0 (.ok (.ret (.ref l))) [(l,.ls xs)] []⟩
noncomputable def W0:Sp:=gb (.call 93 [.it,.it]) [] [] (k1 [.ls]) cDG
theorem zl:bj b W0:=ct λ num o w p e rest K l m=>by exact dg.run G [] [⟨_,N7 G 5 [4,3,2,1]⟩,C8,Sv .it,pO] (oo 0xb21a331461614f6133166166610f117215e1eeec6c13314616261181226524317136221212211224112 []) λ n=>c7 (jf l:e.dp+0<1000) (E [n.1 6,n.1 4,n.1 3,n.1 5,n.1 2,n.1 1] 0x1554422211543210) (@rfl aT (nX (Cp.mk (n.1 6) (n.1 0) (n.1 4) (n.1 5) (n.1 2) (n.1 1) 0))) (fj l:e.dp+1+20<900) (@rfl aX 0) (⟨⟨by decide,⟨_,rfl⟩,by decide,⟨_,rfl⟩,by decide,⟨_,rfl⟩,by decide,⟨_,rfl⟩,by decide,⟨_,rfl⟩,by decide,rfl⟩,by decide,by decide⟩:zj [ak 5 (n.tk 0),ak 4 (n.tk 1),ak 3 (n.tk 2),ak 2 (n.tk 3),ak 1 (n.tk 4)] 0 [5,4,3,2,1] []) (λ(v:aa)(zs:List aa)(h:aV zs (dl num w [5,4,3,2,1]))(c:Nw)=>c3 (E [n.1 5,c.1 0,n.1 1,n.1 6] 0x13332010010) (WV h) (λ(a:ae)(q:Nw)=>c3 (E [a,n.1 0] 0x111100000) (WW (t:=c.tk 1) h) (λ(i:Int)(t:aX)(d:bE (zs++[ak (Z.modQ num 64) (c.tk 1)]) 0=ab (ak i t))(f:Nw)=>c3 (E [a,f.1 1,n.1 0] 0x12000010) (WX (t:=c.tk 1) h) (λ(g:ae)(r:Nw)=>c3 (E [f.1 0,g] 0x1010010) (WY (t:=c.tk 1) h) (λ(j:ae)(s:Nw)=>m j ([.int (i+128) (f.tk 1)]++fe (zs++[.int (Z.modQ num 64) (c.tk 1)]) (ab 1) az az) (WZ h d))))))
end
noncomputable def qE:aR:=⟨#[95,108,97,119,95,101,108,101,109,101,110,116,46,60,108,111,99,97,108,115,62,46]⟩
noncomputable def Zw:bO:=sE (bE (aP 16) 7) 0
noncomputable def pR(p:Cp):aT:=.compLoop Zw 0 (.ref p.it) (.ref p.acc) (x1 Zw qE 102 p.L p.F)
noncomputable def zm:aR:=⟨#[100,105,103,105,116]⟩
structure LV(xs:List aa)(i:Int)(ds:List Int)(ys:List aa):Prop where
 a:tJ xs i ds
 k:∀d∈ds,0<=d/\d<256
 l:ys.length+ds.length<=1000
section
variable{xs ys:List aa}{i d:Int}{ds:List Int}(h:LV xs i (d::ds) ys)
include h
theorem LV.at:∃t,0<=i/\bE xs i.toNat=ab (.int d t):=h.a.2.1.elim λ t e=>⟨t,h.a.1,e⟩
theorem LV.len:ys.length<=1048576:=ai (ai (bX _ _) h.l) (by decide)
theorem LV.put(v:aa):LV xs (i+1) ds (snoc ys v):=⟨h.a.2.2,λ k a=>h.k k (.tail _ a),by have:=h.l;rw [show(snoc ys v).length=ys.length+1 from bh,gG,il 1];exact this⟩
end
noncomputable def N8:Bool->List Kd|ah=>[.dc [],.it,.ls,.ls]|af=>[.dc [zm],.it,.ls,.ls]
noncomputable def Dg:List Kd:=[.dc [zm],.ls,.ls]
noncomputable def Zx(ds:List Int)(p:Cp)(l:ae)(i:Int)(xs ys:List aa):Ct:=⟨[p.L,p.it,l,p.acc],λ d u a=>[d+20<900,LV xs i ds ys],λ K=>∀v zs,bl zs (ds.map eQ)->K 0 (.ok .next) [(p.L,.fr [v]),(l,.ls xs),(p.acc,.ls (ys++zs))] []⟩
noncomputable def W2(ds:List Int)(p:Cp)(v:aa):=Zx ds p
noncomputable def SH(ds:List Int):Sp:=gb (.of fo pR) [.fr [],.it,.ls,.ls] (N8 ah) (k1 Dg) (Zx ds)
noncomputable def LW(ds:List Int):Sp:=gb (.of fo pR) [.fr [.an],.it,.ls,.ls] (N8 af) (k1 Dg) (W2 ds)
section
variable{b:Bs}(G:Good b)
include G
theorem wB{e:Ev}{K:Kv}{o:Int}{ds:List Int}{p:Cp}(m:bj b (LW ds))(q:e.dp+20<900)(f:Bool){c:List aa}(r:mv f c)(h:LV xs i (o::ds) ys)(s:∀v zs,bl zs ((o::ds).map eQ)->K 0 (.ok .next) [(p.L,.fr [v]),(l,.ls xs),(p.acc,.ls (ys++zs))] []):dg b e (pR p) (N8 f) [(p.L,.fr c),(p.it,.it l i),(l,.ls xs),(p.acc,.ls ys)] (k1 Dg) K:=by
 obtain⟨t,u⟩:=h.at;have g:∀v t zs,bl zs (ds.map eQ)->K 0 (.ok .next) [(p.L,.fr [v]),(l,.ls xs),(p.acc,.ls (snoc ys (.str (eQ o) t)++zs))] []:=λ v t zs x=>by rw [fu];exact s v _ (.cons x)
 have y:=h.len;have ho:=h.k o (.head _);induction f<;>rcases c with _|⟨v,_|⟨_,_⟩⟩<;>induction r;all_goals exact dg.run G [] [jN (.int o t),WJ,dP,⟨_,m⟩] (oo 0x321411324516421581114161136323134141 []) λ n=>c3 (E [p.3,l] 0x10010) u (λ(A:Nw)=>c3 (E [p.1] 0x1000) ho (λ(a:aX)(B:Nw)=>c3 (E [p.4] 0x100) y (λ(z:Nat)(C:Nw)=>c5 (E [p.1,p.3,l,p.4] 0x13210) (@rfl aT (pR p)) q (h.put (.str (eQ o) a)) (λ(j:aa)(zs:List aa)(k:bl zs (cF eQ ds))(D:Nw)=>g j a zs k))))
theorem Ir:∀ds,bj b (LW ds):=by intro ds;induction ds with|nil=>exact ct λ p v l i xs ys e rest K f h a=>by exact dg.run G [] [kF] (oo 0x42341a323134141 []) λ n=>c3 (E [p.3,l] 0x10010) h.a (λ(c:ae)(D:Array aa)(j:Nw)=>c2 (E [c] 0x10) (aA ys▸a v [] .nil))|cons _ ds g=>exact ct λ p v l i xs ys e rest K f h a=>wB G g f af trivial h a
theorem zo(o:Int)(ds:List Int):bj b (SH (o::ds)):=ct λ p l i xs ys e rest K a h c=>wB G (Ir G ds) a ah trivial h c
end
noncomputable def ou:aR:=⟨#[110]⟩
noncomputable def x2(eF:List (aR×aa))(k:aR)(j:Int):Option Int:=match cy eF k with|ab (.int i _)=>ab i|ab _=>az|az=>ab j
noncomputable def uV(w:cP)(es:Array aj)(ep:Nat)(k:aR)(j i:Int):Prop:=dr w (ft es ep) (ents es)/\x2 (ents es) k j=ab i
theorem wC(h:x2 eF k j=ab i)(t:aX):∃t',getD eF k (.int j t)=.int i t':=by unfold x2 at h;unfold getD;induction e:cy eF k with|none=>rw [e]at h;cases h;exact⟨t,rfl⟩|some v=>rw [e]at h;induction v<;>first|exact ns h|(cases h;exact⟨_,rfl⟩)
noncomputable def LX(G:Good b)(i:Int):Ok b:=⟨gD "dict.get" [.re,.st,.it] [.dd] λ d k a j a es ep=>⟨[d],λ a a a K=>(¬d=1/\uV b.w es ep k j i)/\∀t,K 0 (.ok (.ret (.int i t))) [(d,ft es ep)] []⟩,bF λ d k tk j f es ep=>.mk λ A s rest K R h m Rd q=>by obtain⟨⟨c,g,hi⟩,l⟩:=h;rw [G.prog];obtain⟨t',e⟩:=wC hi f;exact pQ (Rd.own _ (.head _)) g c λ a=>e▸q 0 _ _ _ _ (l t') (Trans.same Rd.left _)⟩
noncomputable def oO:aR:=⟨#[60,108,97,109,98,100,97,62]⟩
noncomputable def SI:aR:=⟨#[108,97,119,95,119,98,48,48,52,56,95,48,49]⟩
noncomputable def uf(e:bO)(c:aR)(f:aa)(a:List (aR×ae))(g:aa):eL:={name:=oO,qualname:=c,params:=(RT e).ar,body:=.expr (xE e 0),scope:=(RT e).sc,globals:=3,closure:=a,defaults:=.none,kwdefaults:=.none,doc:=.none,pyModule:=.str SI 324,annotations:=az,code:=f,closureTuple:=g,builtins:=0}
noncomputable def W3:aR:=⟨#[95,108,97,119,95,101,108,101,109,101,110,116,46,60,108,111,99,97,108,115,62,46,60,108,97,109,98,100,97,62]⟩
noncomputable def gJ(c:aa)(a:List (aR×ae))(e:aa):eL:=uf (sE (bE (aP 16) 0) 0) W3 c a e
noncomputable def r_(c:aa)(a:List (aR×ae))(e:aa):eL:=uf (sE (bE (aP 16) 8) 0) W3 c a e
noncomputable def nG:aR:=⟨#[116,97,103]⟩
noncomputable def kT:aR:=⟨#[97,116,116,114,105,98]⟩
noncomputable def Dh:aR:=⟨#[109,111,115,116]⟩
noncomputable def oP:aR:=⟨#[105,110,110,101,114]⟩
noncomputable def jk:aR:=⟨#[97,112,112,101,110,100]⟩
noncomputable def Di:aR:=⟨#[109,97,107,101,101,108,101,109,101,110,116]⟩
noncomputable def sa:aR:=⟨#[105,116,101,114,116,101,120,116]⟩
noncomputable def Dj:aR:=⟨#[116,97,105,108]⟩
noncomputable def jg:aR:=⟨#[97,98,111,118,101]⟩
noncomputable def It:aR:=⟨#[115,105,103,110,115]⟩
noncomputable def tK:List aR:=[nG,kT,Dh,oP,jk,Di,sa,Dj]
noncomputable def eE(a k1:ae):List aa:=[.int 97 0,.int 10 0,.ref a,.int 105 0,.int 19 0,.ref k1]
noncomputable def mw(cs a:ae):List (aR×ae):=[(It,cs),(kT,a)]
noncomputable def x3(bT:ae):List aa:=[.builtin "list.append",.ref bT]
theorem oQ(num w:Int):∃o os,oct num w=o::os:=by unfold oct;induction dl num w [5,4,3,2,1]<;>exact⟨_,_,rfl⟩
noncomputable def strOf(os:List Int):aR:=⟨(os.map iZ).toArray⟩
theorem x4(os:List Int):d6 ⟨#[]⟩ (os.map eQ)=strOf os:=by
 have key:∀(l:List Int)(a:Array Nat),(l.map eQ).foldl (λ c p=>c++(#[]:Array Nat)++p.cps) a=a++(l.map iZ).toArray:=λ l=>by induction l with|nil=>intro a;simp|cons o l e=>intro a;show Wb _ (a++#[]++#[o.toNat]) _=_;rw [e];simp
 unfold d6 strOf;congr 1;induction os with|nil=>rfl|cons o os=>show Wb _ #[o.toNat] (os.map eQ)=_;rw [key];simp
theorem zp(h:bl zs c)(e:(c.map (·.length)).sum+c.length*sep.length<=100000):nF sep zs (d6 sep c):=by
 have g:∃l:List (aR×aX),zs=g_ l/\l.map (·.1)=c:=by clear e;induction h with|nil=>exact⟨[],rfl,rfl⟩|@cons x t vs ts _ f=>obtain⟨l,rfl,rfl⟩:=f;exact⟨(x,t)::l,rfl,rfl⟩
 obtain⟨l,rfl,rfl⟩:=g;have key:∀(c:List aR)(a:Nat),c.foldl (λ x y=>x+y.length+sep.length) a=a+(c.map (·.length)).sum+c.length*sep.length:=λ c=>by induction c with|nil=>intro a;simp|cons w c f=>intro a;rw [tf,f,bu,gC,eH,Vk];exact a7 (li 0x5716413117654311113 [a,w.length,sep.length,(cF (λ x=>x.length) c).sum,c.length*sep.length] rfl) (li 0x6574311117615413113 [a,w.length,(cF (λ x=>x.length) c).sum,c.length*sep.length,sep.length] rfl)
 refine⟨l,rfl,?_,rfl,?_⟩
 .rw [List.foldl_toArray',key];.exact decide_eq_false (fp.mpr (by rw [di];exact li 0x10000007043001130186a050431111 [(cF (λ x=>x.length) (cF (λ x=>x.fst) l)).sum,(cF (λ x=>x.fst) l).length*sep.length] rfl e))
  .simp
 .rw [PySem.size_glued,di];refine ai (cZ (Nat.mul_le_mul_right _ (iW _ 1)) _) (ai e (by decide))
theorem Dk(os:List Int):((os.map eQ).map (·.length)).sum=os.length:=by induction os with|nil=>rfl|cons o os a=>rw [bu,bu,gC,a,eH,il];rfl
theorem pS{zs:List aa}{os:List Int}(h:bl zs (os.map eQ))(a:os.length<=1000):nF ⟨#[]⟩ zs (strOf os):=x4 os▸zp h (by rw [Dk,aM];exact ai a (by decide))
theorem Dl(x:Int):0<=Z.modQ x 64/\Z.modQ x 64<64:=by rw [<-Z.modQ_eq];exact⟨eb _ (by decide),gv _ (by decide)⟩
theorem mod2(x:Int):0<=Z.modQ x 2/\Z.modQ x 2<2:=by rw [<-Z.modQ_eq];exact⟨eb _ (by decide),gv _ (by decide)⟩
theorem Dm(num w:Int):∀ks,∀d∈dl num w ks++[Z.modQ num 64],0<=d/\d<128
 |[],d,h=>by rw [ay.mp h];exact⟨(Dl num).1,yL (Dl num).2 (by decide)⟩
 |k::ks,d,h=>by
  unfold dl at h;split at h
  .rcases aF.mp h with rfl|h;.have:=Dl (num.fdiv (pw k));exact⟨lj 0x4020610040600112 [] [Z.modQ (num.fdiv (pw k)) 64] rfl this.1,lj 0x180204020614140206112 [] [Z.modQ (num.fdiv (pw k)) 64] rfl this.2⟩
   .exact Dm num w ks d h
  .exact Dm num w ks d h
set_option tactic.hygienic true in theorem Dn(num w:Int):∀d∈oct num w,0<=d/\d<256:=by
 have h:=Dm num w [5,4,3,2,1];unfold oct;split
 .rename_i d ds e;rw [e]at h;refine dJ.mpr ⟨?_,λ x a=>?_⟩;.have:=h d (.head _);exact⟨lj 0x8020610040600112 [] [d] rfl this.1,lj 0x1100308020614180206112 [] [d] rfl this.2⟩
  .have:=h x (.tail _ a);exact⟨this.1,lj 0x11003064180206112 [] [x] rfl this.2⟩
 .exact λ d h=>(absurd h ax)
set_option tactic.hygienic true in theorem lr(num w:Int):(oct num w).length<=6:=by
 have h:(dl num w [5,4,3,2,1]++[Z.modQ num 64]).length<=6:=by rw [bh];exact bW (Dd num w _)
 unfold oct;split;.rename_i d ds e;rw [e]at h;exact h
 .exact bJ _
theorem lu:∀{os:List Int}{xs ys:List aa},aV xs os->tJ (ys++xs) (ys.length:Int) os|[],[],ys,_=>⟨aS _,by rw [bq,dH,aA];exact cY (bt _)⟩|o::os,x::xs,ys,h=>by refine⟨aS _,h.1.elim λ t e=>⟨t,by rw [bq,dH,de (bt _),yN,e];rfl⟩,?_⟩;have:=lu (ys:=ys++[x]) h.2;rw [bb,bh]at this;exact this|[],_::_,_,h=>h.elim|_::_,[],_,h=>h.elim
theorem Iu{zs:List aa}{n:Int}{ns:List Int}(h:aV zs (n::ns)):(0:Int)<=0/\∃v,bE zs 0=ab v/\Vp.it.is v:=by induction zs with|nil=>exact h.elim|cons z zs=>exact⟨aN _,z,rfl,h.1.elim λ t e=>⟨n,t,e⟩⟩
theorem Iv{zs:List aa}{n i:Int}{ns:List Int}{u:aX}(h:aV zs (n::ns))(hi:bE zs 0=ab (.int i u)):tJ zs 1 ns/\i=n:=by induction zs with|nil=>exact h.elim|cons z zs=>obtain⟨⟨t,rfl⟩,h⟩:=h;cases hi;exact⟨lu (ys:=[_]) h,rfl⟩
noncomputable def nH(num w:Int):aR:=strOf ((oct num w).drop ((oct num w).length-(Z.modQ num 2).toNat))
section
variable{num w o:Int}{os:List Int}{xs zs:List aa}(ho:oct num w=o::os)
include ho
theorem Dq:(o::os).length<=6:=ho▸lr num w
theorem Dr(h:aV xs (oct num w)):LV xs 0 (o::os) []:=⟨lu (ys:=[]) (ho▸h),ho▸Dn num w,ai (cR (cN _)) (ai (Dq ho) (by decide))⟩
theorem Ds(h:bl zs ((o::os).map eQ)):bl zs ((oct num w).map eQ):=ho▸h
theorem Dt(h:bl zs ((o::os).map eQ)):zs.length<=1048576:=by rw [h.len,aM];exact ai (Dq ho) (by decide)
theorem LY(h:bl zs ((o::os).map eQ)):¬(az:Option Int)=ab 0/\zs.length<=1048576:=⟨(λ h=>(by injection h)),Dt ho h⟩
theorem zq(h:bl zs ((o::os).map eQ)):nF ⟨#[]⟩ (fe zs (ab ((zs.length:Int)-Z.modQ num 2)) az az) (nH num w):=by
 have a:zs.length=(oct num w).length:=by rw [h.len,aM,ho]
 have c:1<=zs.length:=by rw [a,ho];exact bW (bJ _)
 have e:(zs.length:Int)-Z.modQ num 2=((zs.length-(Z.modQ num 2).toNat:Nat):Int):=by have:=mod2 num;exact bg (lj 0x4563534265511205413111 [zs.length,zs.length-(Z.modQ num 2).toNat,(Z.modQ num 2).toNat] [Z.modQ num 2] rfl (cI zs.length (Z.modQ num 2).toNat) (bC this.1)) (lj 0x6553454253411110356112 [(Z.modQ num 2).toNat,zs.length-(Z.modQ num 2).toNat,zs.length] [Z.modQ num 2] rfl (eS (Z.modQ num 2)) (aH (lj 0x34326451121210611203110111 [zs.length,(Z.modQ num 2).toNat] [Z.modQ num 2] rfl c this.2 (bC (this.1)))))
 rw [e,r6,a];unfold nH;refine pS ?_ (ai (by rw [rN];exact iW _ _) (ai (lr num w) (by decide)));rw [List.map_drop];exact(ho▸h).drop _
end
noncomputable def SJ:Ok b:=⟨gD "int.__eq__" [.it,.it] [] λ x a y a=>⟨[],λ a a a K=>K 0 (.ok (.ret (.bool (decide (x=y))))) [] []⟩,bF λ x t y u=>.mk λ A s rest K R h c Rd k=>i9 WE WG (show rM (cK.«int.__eq__» ⟨[.int x t,.int y u],[]⟩) (.val (.bool (decide (x=y))))from .of_eq rfl) (k 0 _ _ _ _ h (Trans.nil s _))⟩
noncomputable def lR(tag:aR):Int:=Z.modQ (tD tag) 2
noncomputable def Zy:List Kd:=[.tb,.dd]
noncomputable def SK:List Kd:=[.tb,.dd,.fn,.dc tK,.ls,.fl "builtin_function_or_method",.fn,.cl,.cl,.ls]
noncomputable def f7(x:El):List aa:=[.str x.tag x.tt,.ref x.ad,.bool x.most,.ref x.bT,.ref x.bm,.ref 103,.ref x.it,.str x.tail x.tl]
structure g0(num:Int)(g:aR)(x:El):Prop where
 tag:x.tag=g
 n:x.n=num
 sg:bl x.mq ((oct num (lR g)).map eQ)
 tl:x.tail=nH num (lR g)
 most:x.most=decide (lR g=1)
 kids:x.kids=[]
 above:x.above=az
 more:x.more=[]
noncomputable def W4(num:Int)(tag:aR)(e c bT f it cs g j ct k:ae)(a:List aa)(l tl:aX):El:=⟨e,c,bT,f,it,cs,g,j,ct,k,tag,l,num,a,nH num (lR tag),tl,decide (lR tag=1),az,[],[],[],⟨λ m=>0,λ m=>0,0⟩,#[],0,0,0⟩
theorem zr{num:Int}{tag:aR}{e a bT c it cs f g ct j:ae}(h:bl mq ((oct num (lR tag)).map eQ)):g0 num tag (W4 num tag e a bT c it cs f g ct j mq tt tl):=⟨rfl,rfl,h,rfl,rfl,rfl,rfl,rfl⟩
noncomputable def cE(b:Bs)(num:Int)(tag:aR)(k:aX)(a:ae)(e f:aa)(c:ae)(g j:aa)(k1:ae)(es:Array aj)(ep:Nat):Ct:=⟨[100,a],λ d u l=>[d+100<900,e=.int 97 0,f=.int 10 0,g=.int 105 0,j=.int 19 0,tag.length<=1000,uV b.w es ep ou 0 num,0<=num/\num<68719476736],λ K=>∀x:El,g0 num tag x->x.ad=a->K 0 (.ok (.ret (.ref x.e))) [(100,.fr (eE c k1)),(x.ad,.dd es ep),(x.e,.fn (gJ (.ref c) [] .none) (ab x.dk)),(x.dk,.fr (f7 x)),(x.bT,.ls []),(x.bm,.fr (x3 x.bT)),(x.it,.fn (r_ (.ref k1) (mw x.cs x.ca) (.ref x.ct)) az),(x.cs,.cl (ab (.ref x.sg))),(x.ca,.cl (ab (.ref x.ad))),(x.sg,.ls x.mq)] []⟩
noncomputable def spE(b:Bs)(num:Int):Sp:=gb (.call 103 [.st,.re]) [.fr [.an,.an,.re,.an,.an,.re],.dd] Zy (Lean.k1 SK) (cE b num)
noncomputable def W5:List Kd:=SK++[.fl "code"]
noncomputable def pT:aR:=⟨#[47,99,108,97,105,109,47,99,117,116,46,112,121]⟩
noncomputable def bZ(vs:List aa):Prop:=∃a q t r,vs=a::.str q t::r
noncomputable def cE0(b:Bs)(num:Int)(tag:aR)(f:aX)(a:ae)(es:Array aj)(ep:Nat):Ct:=⟨[100,a],λ d u g=>[d+100<900,tag.length<=1000,uV b.w es ep ou 0 num,0<=num/\num<68719476736],λ K=>∀c k1 e(x:El),g0 num tag x->x.ad=a->bZ e->K 0 (.ok (.ret (.ref x.e))) [(100,.fr (eE c k1)),(x.ad,.dd es ep),(x.e,.fn (gJ (.ref c) [] .none) (ab x.dk)),(x.dk,.fr (f7 x)),(x.bT,.ls []),(x.bm,.fr (x3 x.bT)),(x.it,.fn (r_ (.ref k1) (mw x.cs x.ca) (.ref x.ct)) az),(x.cs,.cl (ab (.ref x.sg))),(x.ca,.cl (ab (.ref x.ad))),(x.sg,.ls x.mq),(k1,.fr e)] []⟩
noncomputable def W6(b:Bs)(num:Int):Sp:=gb (.call 103 [.st,.re]) [.fr [],.dd] Zy (Lean.k1 W5) (cE0 b num)
section
variable(G:Good b)
include G
theorem SM(num:Int):bj b (spE b num):=ct λ tag u g N O P Q R k1 es ep e rest K m x y z A B r S C=>by subst x y z A;refine dg.own G rfl λ D=>?_;have j:¬g=1:=D 1 (g,_) rfl;have k:tag.length<=1048576:=ai B (by decide);obtain⟨o,os,ho⟩:∃o os,oct num (lR tag)=o::os:=oQ num _;exact dg.run G [] [LX G num,⟨_,zl G⟩,⟨_,zo G o os⟩,SJ,LQ,pO,wy (nH num (lR tag)),tH] (oo 0x2ed59abc410fb11ef16fb16f18f18f18f118f118f1ef10f2191133186166611116213c1cccc18f521a116f1116f12f912f14f14f14f114f114f1af1111af1912f122243151562212122114111117110f11921312f112f12f12f12fc16368881818e16368881818e1211222121246661616c4246661616c2124441414a1161111171a112124441414a82122222121288481118112436112 []) λ n=>c4 (jf m:e.dp+0<1000) (E [n.1 0,n.1 4,n.1 3,n.1 1,100] 0x100334000022222211130222221110) k (λ(t:aX)(T:Nw)(p:Nw)=>c3 (E [g,n.1 1,n.1 4,n.1 3,n.1 0,p.1 0] 0x143333322243333322243333325555554333332224333332221000000) (c2 j r) (λ(F:aX)(U:Nw)=>c3 (E [n.1 0] 0x10) k (λ(H:aX)(V:Nw)=>c2 (fj m:e.dp+1+40<900) (λ(l:ae)(xs:List aa)(h:aV xs (oct num (Z.modQ (tD tag) 2)))(c:Nw)=>c5 (E [c.1 2,c.1 0,l,c.1 1] 0x1222113210) (@rfl aT (pR (Cp.mk (c.1 2) (n.1 0) (c.1 0) (c.1 1) 0 0 0))) (fj m:e.dp+1+20<900) (Dr ho h) (λ(v:aa)(zs:List aa)(f:bl zs (cF eQ (o::os)))(s:Nw)=>c3 (E [c.1 1,n.1 2,n.1 4,n.1 3,n.1 0,100,c.1 2] 0x1666115433333222110) (Dt ho f) (λ(I:aX)(X:Nw)=>c3 (E [g,n.1 1] 0x11000000) (c2 j r) (λ(J:aX)(L:Nw)=>c3 (E [c.1 1,L.1 0] 0x1000010) (LY ho f) (λ(a:ae)(Y:Nw)=>c3 (E [a] 0x10) (zq ho f) (λ(q:aX)(M:Nw)=>c2 (E [n.1 0,n.1 4,n.1 3] 0x10222221110) (C (W4 num tag (n.ad 3) (n.ad 4) (p.ad 0) (p.ad 1) (s.ad 1) (n.ad 2) (n.ad 1) (c.ad 1) (s.ad 0) g zs u q) (zr (Ds ho f)) rfl))))))))))
theorem N9(num:Int):bj b (W6 b num):=ct λ tag u j es ep e rest K p x s I y=>by refine dg.own G rfl λ z=>?_;have k:¬j=1:=z 1 (j,_) rfl;have m:tag.length<=1048576:=ai x (by decide);obtain⟨o,os,ho⟩:∃o os,oct num (lR tag)=o::os:=oQ num _;exact dg.run G [] [LX G num,⟨_,zl G⟩,⟨_,zo G o os⟩,SJ,LQ,pO,wy (nH num (lR tag)),tH] (oo 0x621af19f50ff10f11f12f41cfc136f22f11f22f24f24f24f124f124f36f1cf219113318616661111c21318f118f18f18f18f30fb21a12ef112ef1ef0ff1ef20f20f20f120f120f32f11132f19f32f26f10ff1ef12224315156221212211411111711cf110ff2131ef11ef1ef1ef1ef18f163688818181af163688818181af121122212124666161618f424666161618f212444141416f116111117116f11212444141416f14f2122222121214f14fa14f11114fa14f8112436112 []) λ n=>c4 (jf p:e.dp+0<1000) (E [n.1 0,n.1 10,n.1 9,n.1 1,100] 0x100334444000022222211130222221110) m (λ(t:aX)(J:Nw)(q:Nw)=>c3 (E [j,n.1 1,n.1 10,n.1 9,n.1 0,q.1 0] 0x143333322243333322243333325555554333332224333332221000000) (c2 k s) (λ(A:aX)(L:Nw)=>c3 (E [n.1 0] 0x10) m (λ(B:aX)(M:Nw)=>c2 (fj p:e.dp+1+40<900) (λ(l:ae)(xs:List aa)(h:aV xs (oct num (Z.modQ (tD tag) 2)))(f:Nw)=>c5 (E [f.1 2,f.1 0,l,f.1 1] 0x1222113210) (@rfl aT (pR (Cp.mk (f.1 2) (n.1 0) (f.1 0) (f.1 1) 0 0 0))) (fj p:e.dp+1+20<900) (Dr ho h) (λ(v:aa)(zs:List aa)(g:bl zs (cF eQ (o::os)))(c:Nw)=>c3 (E [f.1 1,n.1 2,n.1 10,n.1 9,n.1 0,100,f.1 2] 0x1666115555433333222110) (Dt ho g) (λ(C:aX)(N:Nw)=>c3 (E [j,n.1 1] 0x11000000) (c2 k s) (λ(D:aX)(F:Nw)=>c3 (E [f.1 1,F.1 0] 0x1000010) (LY ho g) (λ(a:ae)(O:Nw)=>c3 (E [a] 0x10) (zq ho g) (λ(r:aX)(H:Nw)=>c2 (E [n.1 0,n.1 10,n.1 9] 0x10222221110) (y (n.ad 8) (c.ad 6) [.str oO (c.tk 0),.str W3 (c.tk 1),.str pT (c.tk 2),.int 105 0,.int 0 0,.int 0 0,.int 0 0,.int 19 0,.ref (c.ad 1),.bool ah,.int 181 0,.ref (c.ad 2),.none,.ref (c.ad 3),.ref (c.ad 4),.ref (c.ad 5),.int (bp (c.tk 5)) 0,.int 105 0,.str pT (c.tk 6)] (W4 num tag (n.ad 9) (n.ad 10) (q.ad 0) (q.ad 1) (c.ad 7) (n.ad 2) (n.ad 1) (f.ad 1) (c.ad 0) j zs u r) (zr (Ds ho g)) rfl ⟨_,_,_,_,rfl⟩))))))))))
end
noncomputable abbrev lz:aa->aD->Prop:=λ a a=>False
section
variable{M:qx}{A:dx}{c:aT}{env:fJ}{s:aD}{E:aa->aD->Prop}
theorem qI{vs:List aa}{m:nh aa}{Q:aa->aD->Prop}(h:a_ M A c m Q E s):a_ M A c (operate vs m) Q E s:=λ d p f a=>by rw [Sem.wp_operate];exact h d p f a
theorem dz{d:Type}{vs:List aa}{m:nh d}{Q:d->aD->Prop}(h:a_ M A c m Q E s):a_ M A c (gh vs m) Q E s:=λ f p g a=>by rw [Sem.wp_holding];exact h f p g a
theorem ki(h:a_ M A c t Q lz s):a_ M A c t Q E s:=aQ h (λ a a x=>x) λ a a x=>x.elim
theorem my{op:CmpOp}{pos:Aw}{l r:bO}{Q:Bool->aD->Prop}(k:i3 op r=af)(h:a_ M A c (dh l env) (λ v f=>a_ M A c (dh r env) (λ g i=>bV M (A.under c) (fA op v g) (λ x j=>∃b,x=.bool b/\Q b j) E i) E f) E s):a_ M A c (eP (.Compare l [op] [r] pos) env (dh (.Compare l [op] [r] pos) env)) Q E s:=by
 show a_ M A c (dh l env>>=λ v=>testChain pos v [op] (yO [op] [r] (yP [r] env))) _ _ _;refine au (aQ h (λ v f m=>?_) λ a a x=>x);have n:yO [op] [r] (yP [r] env)=[dh r env]:=by show [qA op r (dh r env)]=_;unfold qA;rw [k]
 rw [n];show a_ M A c (do let rv<-gh [v] (dh r env);eR pos;let x<-operate [v,rv] (fA op v rv);gh [x] (truthy x)) _ _ _;refine au (dz (aQ m (λ g i o=>?_) λ a a x=>x));refine au (bU (bI ?_));refine au (qI (bU (iE o (λ x j d=>?_) λ a a x=>x)));obtain⟨b,rfl,d⟩:=d;exact dz λ a a a a=>d
end
theorem empty_eq{prog:d7}{w:cP}{A:dx}{s:aD}{l m:ae}{xs:List aa}{g i:Nat}{Q:aa->aD->Prop}{E:aa->aD->Prop}(a:s.heap.get? l=ab (lO xs g))(d:s.heap.get? m=ab (lO [] i))(f:A.units<yH)(h:Q (.bool xs.isEmpty) s):bV (aW prog w) A (fA .Eq (.ref l) (.ref m)) Q E s:=by induction xs with|nil=>exact Hn (items:=#[]) (e:=λ n=>ah) ⟨_,a,rfl,_,rfl⟩ ⟨_,d,rfl,_,rfl⟩ rfl f (λ j k=>absurd k (cQ _)) (by simpa using h)|cons x xs=>exact SeqAt.eq_list_lengthsAt ⟨_,a,rfl,_,rfl⟩ ⟨_,d,rfl,_,rfl⟩ (by simp) f h
inductive eM(v:aa)(ot:List eK):Kv|mk:eM v ot 0 (.ok (.ret v)) ot []
theorem iG(v:aa)(vs:List eK):eM v vs 0 (.ok (.ret v)) vs []:=.mk
section
variable{b:Bs}{e:Ev}{c:aT}{ks:List Kd}{vs:List eK}{ks':Nat->List Kd}{K:Kv}{H:Hs}{s0 s:aD}{C0:Cells}{env:fJ}
theorem DE.then{x:bO}{v:aa}{d:List eK}{f:List Kd}(h:DE b e c x env ks vs (k1 f) (eM v d))(a:At b s0 C0 s (d' H ks vs)){Q:aa->aD->Prop}{E:aa->aD->Prop}(o:∀p g,At b s0 C0 g (d' p f d)->Q v g):a_ (aW b.prog b.w) e.ar c (dh x env) Q E s:=aQ (h H s0 C0 s a) (λ q g k=>k.out λ j l tl m i n=>by generalize t:(fy (nO q):dq)=r at i;induction i;cases t;exact o m g (n.sub (a9 _ _))) λ x g k=>k.out λ j l tl m i n=>nomatch i
noncomputable def ifK(a d:List eK->Prop):Kv:=λ j r vs tl=>match j with|0=>r=.ok (.ret (.bool ah))/\tl=[]/\a vs|_=>r=.ok (.ret (.bool af))/\tl=[]/\d vs
noncomputable def Zz(k1 a:List Kd):Nat->List Kd|0=>k1|_=>a
theorem uW(t:bO)(body a rest:List ea)(pos:Aw)(env:fJ):dU (.If t body a pos::rest) env=(eR pos>>=λ d=>eP t env (dh t env)>>=λ x=>dU ((if x then body else a)++rest) env):=by rw [gP];show cG (cG (eR pos) λ d=>cG (eP t env (dh t env)) λ x=>if x=ah then dU body env else dU a env) _=cG _ _;rw [f_];congr 1;funext _;show cG (cG _ _) _=cG _ _;rw [f_];congr 1;funext x;rw [gX];induction x<;>rfl
theorem DS.if_(i k:List Kd){t:bO}{body d rest:List ea}{pos:Aw}(h:∀n o:List eK->Prop,(∀vs,DS b e c (body++rest) env i vs ks' K->n vs)->(∀vs,DS b e c (d++rest) env k vs ks' K->o vs)->DT b e c t env ks vs (Zz i k) (ifK n o)):DS b e c (.If t body d pos::rest) env ks vs ks' K:=λ H s0 C0 s a=>by
 rw [uW];refine au (bU (bI (au (aQ (h (λ vs=>DS b e c (body++rest) env i vs ks' K) (λ vs=>DS b e c (d++rest) env k vs ks' K) (λ r x=>x) (λ r x=>x) H s0 C0 s a) (λ x p l=>?_) λ x p l=>?_))));.refine l.out λ j m tl q f g=>?_;have g:=g.sub (a9 _ _);induction j<;>induction x<;>first|exact f.2.2 q s0 C0 p g|exact nomatch f.1
 .exact l.out λ j m tl q f g=>by induction j<;>injection f.1
theorem DE.nil{pos:Aw}(G:Good b)(K0:Kv)(d:∀a,K0 0 (.ok (.ret (.ref a))) [(a,.ls [])] []):DE b e c (.List [] pos) env [] [] (k1 [.ls]) K0:=DE.run G [] [] (oo 0x121 []) λ n=>d (n.ad 0)
theorem DT.nil{l:bO}{pos pos':Aw}{bT:ae}{xs:List aa}{d:List eK}{f:List Kd}(G:Good b)(z:e.un+c.cUnits<9900)(B:∀H s,Ready b s (d' H f d)->∃ep,s.heap.get? bT=ab (lO xs ep))(C:DE b e c l env ks vs (k1 f) (eM (.ref bT) d))(D:xs=[]->K 0 (.ok (.ret (.bool ah))) d [])(F:¬xs=[]->K 1 (.ok (.ret (.bool af))) d []):DT b e c (.Compare l [.Eq] [.List [] pos'] pos) env ks vs (Zz f f) K:=λ H s0 C0 s a=>by refine my rfl (C.then a λ g n p=>?_);have I:Ready b n []:=p.R.sub (cH _);refine aQ (DE.nil G (λ o r vs tl=>∃a,r=.ok (.ret (.ref a))/\vs=[(a,.ls [])]/\tl=[]) (λ a=>⟨a,rfl,rfl,rfl⟩) g n [] n (At.start I)) (λ v q t=>t.out λ j o o J i w=>?_) λ x q t=>t.out λ j o o J i w=>i.elim λ m i=>(by injection i.1);.obtain⟨m,L,rfl,rfl⟩:=i;cases L;have T:Trans n q (d' g f d) _:=Trans.eA p.R w.T;have u:=p.to T;obtain⟨ep,k⟩:=B g q (u.R.sub (dQ _ _));refine empty_eq k (u.R.own (m,lO [] _) (.head _)) z ⟨_,rfl,?_⟩;have y:=u.sub (dQ _ (d' g f d));induction xs with|nil=>exact⟨0,d,[],g,D rfl,by rw [aA];exact y⟩|cons x xs=>exact⟨1,d,[],g,F (λ h=>(by injection h)),by rw [aA];exact y⟩
theorem DS.text{d a:List ea}(q:d=a)(h:DS b e c a env ks vs ks' K):DS b e c d env ks vs ks' K:=q▸h
theorem DS.LZ{l:bO}{body a rest:List ea}{pos pos' d:Aw}(G:Good b)(h:e.un+c.cUnits<9900)(i:∀H s,Ready b s (d' H kj ot)->∃ep,s.heap.get? bT=ab (lO xs ep))(j:DE b e c l env ks vs (k1 kj) (eM (.ref bT) ot))(k:xs=[]->DS b e c (body++rest) env kj ot ks' K)(m:¬xs=[]->DS b e c (a++rest) env kj ot ks' K):DS b e c (.If (.Compare l [.Eq] [.List [] pos'] pos) body a d::rest) env ks vs ks' K:=DS.if_ kj kj λ n o f g=>DT.nil G h i j (λ e=>⟨rfl,rfl,f _ (k e)⟩) λ e=>⟨rfl,rfl,g _ (m e)⟩
end
set_option backward.match.sparseCases true
section
variable{prog:d7}{w:cP}{A:dx}{E:aa->aD->Prop}{s:aD}
theorem nv{d:ae}{eF:List (aR×aa)}(c:(strKind prog w).is k key=ah)(B:s.heap.DictOf (strKind prog w) d eF)(x:∀q,q.DictOf (strKind prog w) d (jX eF k v)->i5 d s.heap q->Q () {s with heap:=q})(C:eF.length<=lN):bV (aW prog w) A (G1 d ((strKind prog w).hash k) key v) Q E s:=by
 obtain⟨o,es,ep,m,y,j,r,p,t⟩:=B
 have D:es.size<=lN:=by
  have I:=p.length;have J:es.toList.length=es.size:=by simp
  lia
 unfold G1;refine aw (wpAny_dictFind_of c m j r ?_);have f:(es.findIdx? λ e=>(strKind prog w).is k e.key)=eF.findIdx? λ n=>decide (n.1=k):=by rw [<-p.findIdx k];obtain⟨l⟩:=es;simp
 induction hi:es.findIdx? λ e=>(strKind prog w).is k e.key with
  |some i=>
   refine wpAny_updateDict m j (x _ ⟨_,_,ep,cX _ m (Cc (Lk j _)),y.mapDict _,Lk j _,r.modify _ _,?_,?_⟩ (fw ..))
   .rw [jX,if_pos (Nd (f▸hi))];have F:(es.toList.findIdx? λ e=>(strKind prog w).is k e.key)=ab i:=by rw [<-hi];obtain⟨l⟩:=es;simp
    have:=p.modify t F v;obtain⟨l⟩:=es;simpa using this
   .rw [jX,if_pos (Nd (f▸hi)),keys_map_store];exact t
  |none=>
   have g:k∉eF.map (·.1):=not_mem_of_findIdx_none (f▸hi);have h:¬(eF.any λ n=>decide (n.1=k))=ah:=by rw [rO];rintro⟨n,u,G⟩;exact g (ba.mpr ⟨n,u,of_decide_eq_true G⟩)
   refine wpAny_updateDictKeys m j (x _ ⟨_,_,ep+1,cX _ m (Cc (BV j _)),y.mapDictKeys _,BV j _,r.push c _,?_,?_⟩ (fw ..));.rw [jX,if_neg h];have:=p.append c ((strKind prog w).hash k) v;obtain⟨l⟩:=es;simpa using this
   .rw [jX,if_neg h,aU,bH];refine⟨t,by simp,?_⟩;intro a H b z;simp only [bu,List.map_nil,ay]at z;subst z;exact λ e=>g (e▸H)
theorem Du:isSubtype (.type "dict") (.type "dict")=pure ah:=by rw [isSubtype_type];kernel_rfl
theorem jP{d o:ae}{eF more:List (aR×aa)}{Q:Unit->aD->Prop}(S:d≠o)(T:(o==Q7)=af)(hd:s.heap.DictOf (strKind prog w) d eF)(ho:s.heap.DictOf (strKind prog w) o more)(hQ:∀g,g.DictOf (strKind prog w) d (sY eF more)->i5 d s.heap g->Q () {s with heap:=g})(U:eF.length+more.length<=1000):bV (aW prog w) A (tY d (.ref o) af) Q E s:=by
 obtain⟨od,esd,epd,V,hcd,X,hkd,hpd,hnd⟩:=id hd;obtain⟨oo,a,epo,j,Y,c,J,K,hno⟩:=id ho;have hT:s.TypeIs (.ref o) "dict":=⟨oo,j,Y.1⟩;have u:more.length=a.size:=by rw [<-K.length];simp
 have L:∀e∈a,∃x t,e.key=.str x t:=λ e M=>by obtain⟨k,Z,_⟩:=J e M;obtain⟨t,ht⟩:=oj Z;exact⟨k,t,ht⟩
 unfold tY;refine aw (wpAny_isInstance hT Du ?_);rw [if_pos rfl];refine aw (V' hT F.slot_dict_iter.lookup ?_);refine aw (bc ?_);have e1:(ab (Nf "dict.__iter__")==ab (Nf "dict.__iter__"))=ah:=by decide
 rw [e1];dsimp only;rw [if_neg (by rw [T];exact bP)];refine aw (l9 V X ?_)
 have m:bV (aW prog w) A (do let l<-dictEntries o;let SN<-dictEpoch o;forIn (eI l.size) tZ λ i(zz:PUnit)=>(do let l'<-dictEntries o;match l'[i]? with|ab e=>do gh [e.key,e.val] (if af=ah then do let y<-dictFind d e.key e.hash;if y.isSome=ah then do rule "dict.merge.duplicate-key";let x<-newExc (dZ "KeyError") [e.key];Y9 x;G1 d e.hash e.key e.val else G1 d e.hash e.key e.val else G1 d e.hash e.key e.val);let ZA<-dictEpoch o;if(ZA !=SN)=ah then do(vT "dict.changed-during-merge":nh PUnit);pure (qB tZ)else pure (qB tZ)|_=>do(vT "dict.changed-during-merge":nh PUnit);pure (qB tZ):nh (ForInStep PUnit));pure ()) Q E s:=by
  refine aw (l9 j c ?_);refine aw (Wc j c ?_);refine aw ?_;rw [List.range_eq_range'];refine Vl _ (λ rest zz C=>∃g i,C={s with heap:=g}/\rest=Vm i (a.size-i)/\i<=a.size/\g.DictOf (strKind prog w) d (sY eF (more.take i))/\g.get? o=ab oo/\i5 d s.heap g) _ ?_ ?_ _ _ ⟨s.heap,0,rfl,by simp,bJ _,by simpa [sY]using hd,j,Wd _ _⟩
  .rintro x rest b C⟨g,i,rfl,q,hi,r,n,D⟩
   have f:i<a.size:=by
    rcases m2 i a.size with h|h;.exact h
    .rw [Nat.sub_eq_zero_of_le h]at q;simp at q
   obtain⟨rfl,G⟩:x=i/\rest=Vm (i+1) (a.size-(i+1)):=by
    have e:a.size-i=(a.size-(i+1))+1:=by exact a7 (li 0x110416323561111011051413111 [a.size,a.size-(i+1),i,a.size-i] rfl (cI a.size (i+1)) (aH hi)) (li 0x411061323110516111105413111 [a.size,a.size-i,i,a.size-(i+1)] rfl (cI a.size i) (aH (li 0x4110313143111 [i,a.size] rfl f)))
    rw [e,Ho]at q;injection q with h1 h2;exact⟨h1,h2⟩
   refine aw (l9 n c ?_);rw [fB f];obtain⟨kv,N⟩:∃kv,more[x]?=ab kv:=⟨more[x]'(by rw [u];exact f),aJ _⟩;obtain⟨k,v⟩:=kv;obtain⟨z,O⟩:=K.get? (e:=a[x]) (by simp [f]) N;obtain⟨k',H,I⟩:=J a[x] (Array.getElem_mem f);obtain rfl:k'=k:=(strKind prog w).inj _ _ _ H z;dsimp only;rw [if_neg (by decide),I,O]
   have hmx:(sY eF (more.take x)).length<=lN:=by
    have e1:=merged_length_le eF (more.take x);have e2:(more.take x).length<=more.length:=by rw [eG];exact(fh x more.length)
    rw [di];exact li 0x100000070530461110631511103e830431111 [eF.length,more.length,(sY eF (cj x more)).length,(cj x more).length] rfl U e1 e2
   refine aw (hD (nv z r (λ P R B=>?_) hmx));have p:P.get? o=ab oo:=(B.2 o (Ne.symm S)).trans n;refine aw (Wc p c ?_);rw [if_neg (by simp)];exact bc ⟨P,x+1,rfl,G,f,by rw [merged_take_succ eF more x (k',v) N];exact R,p,D.trans B⟩
  .rintro b C⟨g,i,rfl,q,hi,r,n,D⟩
   have W7:i=a.size:=by
    rcases m2 i a.size with h|h
    .have e:a.size-i=(a.size-(i+1))+1:=by exact a7 (li 0x110416323561111011051413111 [a.size,a.size-(i+1),i,a.size-i] rfl (cI a.size (i+1)) (aH hi)) (li 0x411061323110516111105413111 [a.size,a.size-i,i,a.size-(i+1)] rfl (cI a.size i) (aH (li 0x4110313143111 [i,a.size] rfl h)))
     rw [e,Ho]at q;exact(by injection q)
    .exact a7 hi h
   refine bc (hQ g ?_ D);rw [W7,<-u,fY]at r;exact r
 split
 .refine aw (l9 j c ?_);refine aw ?_;rw [<-Array.forIn_toList];refine Vl _ (λ rest zz C=>C=s/\∀e∈rest,∃x t,e.key=.str x t) _ ?_ ?_ _ _ ⟨rfl,λ e M=>L e (yQ.mp M)⟩;.rintro e rest b C⟨rfl,q⟩;obtain⟨x,t,Z⟩:=q e (.head _);rw [Z];exact bc ⟨rfl,λ e M=>q e (.tail _ M)⟩
  .rintro b C⟨rfl,_⟩;exact m
 .exact m
end
section
variable{A B C D E F I J L M N O P Q:Prop}
theorem SO(a:A)(b:B)(c:C)(d:D)(e:E)(f:F)(g:I)(h:J)(l:L)(m:M)(n:N)(o:O)(p:P)(q:Q):A/\B/\C/\D/\E/\F/\I/\J/\L/\M/\N/\O/\P/\Q:=⟨a,b,c,d,e,f,g,h,l,m,n,o,p,q⟩
end
section
variable{M:qx}{A:dx}{c:aT}{env:fJ}{s:aD}{E:aa->aD->Prop}
theorem wD{t a:bO}{p:Aw}(f:swapsWithSole [t] a p.line env=pure af)(g:swappedStores [t] a env=pure az)(i:(assignEach [t] env).map (·.2)=[iC t env])(h:a_ M A c (dh a env>>=λ v=>iC t env v>>=λ d=>dU ss env) Q E s):a_ M A c (dU (.Assign [t] a p::ss) env) Q E s:=by
 have e:dU (.Assign [t] a p::ss) env=(eR p>>=λ d=>dh a env>>=λ v=>iC t env v>>=λ d=>dU ss env):=by rw [gP,exec_Assign_arm,f,g,i];show cG (cG (eR p) λ d=>cG (dh a env) λ v=>cG (iC t env v) λ d=>pure j8) _=cG _ _;rw [f_];show cG _ _=cG _ _;congr 1;funext _;rw [f_];show cG _ _=cG _ _;congr 1;funext v;rw [f_];rfl
 rw [e];exact au (bU (bI h))
theorem Dw{pos:Aw}{x y:nh aa}(h:a_ M A c x (λ v d=>v=.bool ah/\a_ M A c (G2 pos .And (y::l)) Q E d) E s):a_ M A c (G2 pos .And (x::y::l)) Q E s:=by
 have e:G2 pos .And (x::y::l)=(x>>=λ v=>eR pos>>=λ f=>gh [v] (truthy v)>>=λ t=>match t with|af=>pure v|ah=>G2 pos .And (y::l)):=by show(do let v<-x;eR pos;let t<-gh [v] (truthy v);match ji,t with|.And,af|.Or,ah=>pure v|_,_=>G2 pos .And (y::l))=_;congr 1;funext v;congr 1;funext _;congr 1;funext t;induction t<;>rfl
 rw [e];refine au (aQ h (λ v d a=>?_) λ f f x=>x);obtain⟨rfl,a⟩:=a;exact au (bU (bI (au (dz (λ i p j g=>a)))))
theorem marked(a:i3 op r=af):yO [op] [r] (yP [r] env)=[dh r env]:=by show [qA op r (dh r env)]=_;unfold qA;rw [a]
theorem uX{op:CmpOp}{pos:Aw}(i:i3 op r=af)(h:a_ M A c (dh l env) (λ v d=>a_ M A c (dh r env) (λ f g=>bV M (A.under c) (fA op v f) Q E g) E d) E s):a_ M A c (dh (.Compare l [op] [r] pos) env) Q E s:=by show a_ M A c (dh l env>>=λ v=>compareChain pos v [op] (yO [op] [r] (yP [r] env))) _ _ _;refine au (aQ h (λ v d j=>?_) λ a a x=>x);rw [marked i];show a_ M A c (do let rv<-gh [v] (dh r env);eR pos;operate [v,rv] (fA op v rv)) _ _ _;refine au (dz (aQ j (λ f g k=>?_) λ a a x=>x));exact au (bU (bI (qI (bU k))))
theorem Iw{prog:d7}(h:Q (.bool ah) s):bV (aW prog w) A (fA .Is (.ref a) (.ref a)) Q E s:=by show bV _ A (G5 (.ref a) (.ref a)>>=λ b=>pure (d3 b)) _ _ _;unfold G5;simp only [beq_self_eq_true,if_true];exact aw (bc (bc h))
theorem Dx{prog:d7}(f:¬a=b)(j:s.heap.get? a=ab o)(k:s.heap.get? b=ab o')(l:o.cls=.type T)(m:¬T="tuple")(h:Q (.bool ah) s):bV (aW prog w) A (fA .IsNot (.ref a) (.ref b)) Q E s:=by
 show bV _ A (G5 (.ref a) (.ref b)>>=λ b=>pure (d3 (!b))) _ _ _;have i:(a==b)=af:=by simpa using f
 unfold G5;simp only [i,pG,if_false];refine aw ?_;obtain⟨p,g,d,t,os⟩:=s;refine aw (cD j (aw (cD k ?_)));rw [l];split;.rename_i n _ _ _;cases n;exact absurd rfl m
 .exact bc (bc h)
theorem Dy{x y:nh aa}{Q:aa->aD->Prop}(h:a_ M A c x (λ v g=>a_ M A c y (λ u d=>Q (.ref d.heap.objs.size) {d with heap:=d.heap.push (tO [v,u] 0)}) E g) E s):a_ M A c (qR [(af,x),(af,y)]>>=Li) Q E s:=by refine au ?_;show a_ M A c (x>>=λ v=>(pure [v]>>=λ a=>gh a (qR [(af,y)])>>=λ r=>pure (a++r))) _ _ _;refine au (aQ h (λ v g i=>?_) λ f f x=>x);refine au (bG ?_);show a_ M A c (gh [v] (qR [(af,y)])>>=λ r=>pure ([v]++r)) _ _ _;refine au (dz ?_);show a_ M A c (y>>=λ v=>(pure [v]>>=λ a=>gh a (qR [])>>=λ r=>pure (a++r))) _ _ _;refine au (aQ i (λ u d j=>?_) λ f f x=>x);refine au (bG ?_);show a_ M A c (gh [u] (pure [])>>=λ r=>pure ([u]++r)) _ _ _;refine au (dz (bG (bG (bG ?_))));show a_ M A c (Li [v,u]) Q E d;exact bU (Za j)
end
noncomputable def iN(b:Bs)(a:ae)(o:dR):Prop:=bN b a o/\¬a=1
theorem iN.ext(E:Ext b b')(h:iN b a o):iN b' a o:=⟨E.h a o h.1,h.2⟩
theorem x5(G:Good b)(h:k.el X λ Y c=>LO P Y λ Z f=>∀(a:Bs)(e:Ev)(rest:Cells)(K:Kv),Good a->Ext b a->(∀p∈rest,iN a p.1 p.2)->AP (Z.HT e.dp e.un rest) (Z.post K->dg a e c ks (uQ Z.ad f) ks' K)):bj b (gb k P ks ks' X):=uR h (λ d d=>True) (λ d d d h=>⟨trivial,h⟩) λ Z c f e s rest K H F d d q i R=>by obtain⟨a,j,E,l,m⟩:=rebase G R;rw [<-E.prog,<-E.w];exact dj (rr i (q a e rest K j E λ p g=>⟨m p g,G.oH R (aq _ g)⟩) H _ _ s (At.start l)) λ r n h=>Fi.ext E h
noncomputable def iS(D:Nat->aa->List eK->Prop):Kv:=λ j r vs tl=>∃v,r=.ok (.ret v)/\tl=[]/\D j v vs
section
variable{b:Bs}{e:Ev}{c:aT}{ks:List Kd}{vs:List eK}{ks':Nat->List Kd}{K:Kv}{H:Hs}{s0 s:aD}{C0:Cells}{env:fJ}
theorem iS.no(h:iS D j (.error x) ot tl):False:=h.elim λ a h=>(by injection h.1)
theorem DE.val{x:bO}{k1:Nat->List Kd}{D:Nat->aa->List eK->Prop}(h:DE b e c x env ks vs k1 (iS D))(a:At b s0 C0 s (d' H ks vs)){Q:aa->aD->Prop}{E:aa->aD->Prop}(n:∀j v d o f,D j v d->At b s0 C0 f (d' o (k1 j) d)->Q v f):a_ (aW b.prog b.w) e.ar c (dh x env) Q E s:=aQ (h H s0 C0 s a) (λ v f i=>i.out λ j g tl l k m=>by obtain⟨u,p,rfl,q⟩:=k;cases p;exact n j v g l f q (m.sub (a9 _ _))) λ x f i=>i.out λ j g tl l k m=>k.no.elim
noncomputable def DB(b:Bs)(e:Ev)(c:aT)(t:bO)(v:aa)(a:List ea)(env:fJ)(ks:List Kd)(vs:List eK)(ks':Nat->List Kd)(K:Kv):Prop:=Do b e c (cG (iC t env v) λ d=>dU a env) id ks vs ks' K
theorem DB.run(G:Good b)(a:List (Fx b))(d:List (Ok b))(o:Or){P:Nw->Prop}(h:∀n,P n){t:bO}{v:aa}{f:List ea}(g:P=two b e c a d (.bd t v f env) o ks vs ks' K ah:=by kernel_rfl)(i:P=two b e c a d (.bd t v f env) o ks vs ks' K af:=by kernel_rfl):DB b e c t v f env ks vs ks' K:=jM G a d o (me h g i)
theorem DS.asg{n:aR}{f p:Aw}{x:bO}{rest:List ea}{k1:Nat->List Kd}(g:swapsWithSole [.Name n f] x p.line env=pure af)(h:DE b e c x env ks vs k1 (iS λ j v d=>DB b e c (.Name n f) v rest env (k1 j) d ks' K)):DS b e c (.Assign [.Name n f] x p::rest) env ks vs ks' K:=λ H s0 C0 s a=>wD g rfl rfl (au (h.val a λ j v d i k l m=>l i s0 C0 k m))
theorem DE.L0(h:DE b e c x env ks vs (k1 kj) (eM v ot))(a:At b s0 C0 s (d' H ks vs++D)){Q:aa->aD->Prop}{E:aa->aD->Prop}(g:∀f d,At b s0 C0 d (d' f kj ot++D)->Q v d):a_ (aW b.prog b.w) e.ar c (dh x env) Q E s:=h.then (At.start a.R.left) λ f d i=>g f d (a.to (Trans.eA a.R i.T))
noncomputable def N_(b:Bs)(e:Ev)(c:aT)(env:fJ)(ks:List Kd)(vs:List eK):List bO->Prop|[]=>True|x::l=>DE b e c x env ks vs (k1 ks) (eM (.bool ah) vs)/\N_ b e c env ks vs l
theorem Dz{p:Aw}{Q:aa->aD->Prop}{E:aa->aD->Prop}:∀{x:bO}{l:List bO}{s:aD}{H:Hs},At b s0 C0 s (d' H ks vs)->N_ b e c env ks vs (x::l)->(∀g d,At b s0 C0 d (d' g ks vs)->Q (.bool ah) d)->a_ (aW b.prog b.w) e.ar c (G2 p .And (yP (x::l) env)) Q E s:=by intro x l;induction l generalizing x with|nil=>intro s H a h f;exact h.1.then a f|cons y l i=>intro s H a h f;exact Dw (h.1.then a λ g d j=>⟨rfl,i j h.2 f⟩)
theorem DE.and{x:bO}{l:List bO}{p:Aw}(h:N_ b e c env ks vs (x::l)):DE b e c (.BoolOp .And (x::l) p) env ks vs (k1 ks) (eM (.bool ah) vs):=λ H s0 C0 s a=>Dz a h λ d g f=>⟨0,vs,[],d,.mk,by rw [aA];exact f⟩
theorem At.fin(a:At b s0 C0 s (d' H kj vs)):Fi b s0 C0 (k1 kj) (eM v vs) (.ok (.ret v)) s:=⟨0,vs,[],H,.mk,by rw [aA];exact a⟩
theorem DE.cmp(f:i3 op r=af)(g:DE b e c l env ks vs (k1 ks) (eM u vs))(i:DE b e c r env ks vs (k1 ks) (eM v vs))(h:∀{H:Hs}{s:aD}{Q:aa->aD->Prop}{E:aa->aD->Prop},Ready b s (d' H ks vs)->Q w s->bV (aW b.prog b.w) (e.ar.under c) (fA op u v) Q E s):DE b e c (.Compare l [op] [r] p) env ks vs (k1 ks) (eM w vs):=λ H s0 C0 s a=>uX f (g.then a λ k m j=>i.then j λ n o d=>h d.R d.fin)
theorem zt{M:qx}{A:dx}{c:aT}{a:Type}{m:nh a}{k:aa->nh a}{Q:a->aD->Prop}{E:aa->aD->Prop}(h:a_ M A c m Q lz s):a_ M A c (tryCatch m k) Q E s:=λ g p j d=>by rw [Sem.wp_tryCatch'];exact gi M g m (λ i i i f=>f) (λ e l n f=>f.elim) p s (h g p j d)
theorem AZ{prog:d7}{w:cP}{A:dx}{c:aT}{s:aD}{E:aa->aD->Prop}{T1 T2:nh aa}{Q:aa->aD->Prop}(h:a_ (aW prog w) A c T1 (λ d f=>bV (aW prog w) (A.under c) (tY s.heap.objs.size d af) (λ a g=>a_ (aW prog w) A c T2 (λ i j=>bV (aW prog w) (A.under c) (tY s.heap.objs.size i af) (λ a k=>Q (.ref s.heap.objs.size) k) lz j) lz g) lz f) lz {s with heap:=s.heap.push {cls:=.type "dict",data:=.dict #[]}}):a_ (aW prog w) A c (dictDisplay [(az,T1),(az,T2)]) Q E s:=by unfold dictDisplay;dsimp only;simp only [Ll,Ng,List.isEmpty_nil,if_true,pure_bind,bind_assoc];refine au (bU (wpAny_alloc ?_));refine au (dz (ki (aQ h (λ d f l=>?_) λ a a x=>x)));refine au (dY (zt (dY (dz (bU (iE l (λ a g m=>?_) λ a a x=>x))))));refine au (dz (ki (aQ m (λ i j n=>?_) λ a a x=>x)));refine au (dY (zt (dY (dz (bU (iE n (λ a k o=>?_) λ a a x=>x))))));exact bG o
theorem DE.SP{q r:bO}{p:Aw}{f d:ae}{kA g:List (aR×aa)}(G:Good b)(Y:DE b e c q env ks vs (k1 ks) (eM (.ref f) vs))(Z:DE b e c r env ks vs (k1 ks) (eM (.ref d) vs))(d1:∀{H:Hs}{s:aD}{D:Cells},Ready b s (d' H ks vs++D)->∃o,s.heap.get? f=ab o/\dr b.w o kA)(d2:∀{H:Hs}{s:aD}{D:Cells},Ready b s (d' H ks vs++D)->∃o,s.heap.get? d=ab o/\dr b.w o g)(n1:¬f=1)(n2:¬d=1)(i:kA.length+g.length<=1000)(hK:∀n es ep,¬n=1->dr b.w (ft es ep) (sY kA g)->K 0 (.ok (.ret (.ref n))) ((n,.dd es ep)::vs) []):DE b e c (.Dict [az,az] [q,r] p) env ks vs (Lean.k1 (.dd::ks)) K:=λ H s0 C0 s a=>by have t:=G.prog;rw [arm_eval_Dict];refine au (bU (bI ?_));refine AZ (T1:=do let x<-dh q env;eR p;pure x) (T2:=do let x<-dh r env;eR p;pure x) ?_;have u:At b s0 C0 _ ((s.heap.objs.size,ft #[] 0)::d' H ks vs):=a.to (Trans.eA (C:=[]) a.R (Trans.new (s:=s) (o:=ft #[] 0) rfl s.toks));have u:=u.perm (bD (l₁:=[_]));refine au (Y.L0 u λ H1 s1 f=>au (bU (bI (bG ?_))));have hn:∀{x:ae}{o:dR},s.heap.get? x=ab o->s.heap.objs.size≠x:=λ h=>rf (e5 h);obtain⟨oA,gA,dA⟩:=d1 (D:=[]) (by rw [aA];exact a.R);obtain⟨oE,gE,dE⟩:=d2 (D:=[]) (by rw [aA];exact a.R);obtain⟨oA',v,w⟩:=d1 f.R;have z:(kA.map (·.1)).Nodup:=dA.2.elim λ m y=>y.elim λ m y=>y.2.2.2;have ge:=f.R.own _ (aq _ (.head _));rw [t];refine jP (eF:=[]) (more:=kA) (hn gA) (kh n1) ⟨_,_,_,ge,⟨rfl,rfl,rfl⟩,rfl,λ m h=>(by simp at h),.nil,g9⟩ (w.at v) (λ Y k R=>?_) (by rw [List.length_nil];exact li 0x3e8303001303e830431111 [kA.length,g.length] rfl i);rw [merged_nil_of_nodup kA z]at k;obtain⟨o1,g1,D1⟩:=dr.of k;have d:=f.perm bD;have d:=(d.to (Trans.eA d.R (Trans.one (s:=s1) (tk:=s1.toks) g1 R))).perm (bD (l₁:=[_]));rw [<-t];refine au (Z.L0 d λ H2 s2 S=>au (bU (bI (bG ?_))));obtain⟨oE',T,U⟩:=d2 S.R;rw [t];refine jP (eF:=kA) (more:=g) (hn gE) (kh n2) (D1.at (S.R.own _ (aq _ (.head _)))) (U.at T) (λ Z V X=>?_) i;obtain⟨o2,g2,D2⟩:=dr.of V;obtain⟨es,ep,rfl⟩:=D2.dd;have l:=S.perm bD;have l:=l.to (Trans.eA l.R (Trans.one (s:=s2) (tk:=s2.toks) g2 X));exact⟨0,(s.heap.objs.size,.dd es ep)::vs,[],λ|0=>⟨λ m=>0,λ m=>0,0⟩|j+1=>H2 j,hK _ es ep (G.oH l.R (.head _)) D2,by rw [aA];exact l⟩
end
set_option backward.match.sparseCases false
noncomputable def km(b:Bs)(rest:Cells)(c:ae)(d:aa->aX->aa)(ok:aa->Prop):Prop:=∀a,Good a->Ext b a->(∀p∈rest,iN a p.1 p.2)->(∃e f,bN a c (fO e f))/\bj a (gc c d ok)
noncomputable def ZC(b:Bs)(sel:List Nat)(S:SB)(a:aa->aX->aa)(ok:aa->Prop)(k:Int)(c:ae)(x:aa)(e:ae)(xs:List aa):Ct:=⟨[c],λ d u r=>[km b (pick r sel) e a ok,d+60<900,ok x,∀t,S xs (a x t) 0 (xs.length:Int) k],λ K=>K 0 (.ok (.ret .none)) [(c,.ls (gw xs k x))] []⟩
noncomputable def cN1(b:Bs)(sel:List Nat)(S:SB)(a:aa->aX->aa)(ok:aa->Prop)(k:Int)(c:ae)(x:aa)(e:Int)(tl:aX)(hi:Int)(g:aX)(f:ae)(xs:List aa):Ct:=⟨[c],λ d u r=>[km b (pick r sel) f a ok,d+60<900,ok x,∀t,S xs (a x t) e hi k],λ K=>K 0 (.ok (.ret .none)) [(c,.ls (gw xs k x))] []⟩
noncomputable def cS0(b:Bs)(sel:List Nat)(S:SB)(e:aa->aX->aa)(ok:aa->Prop)(k:Int)(a:ae)(x:aa)(f:ae)(xs:List aa):Ct:=⟨[a],λ d u r=>[km b (pick r sel) f e ok,d+60<900,S xs x 0 (xs.length:Int) k],λ K=>∀c t,c=k->K 0 (.ok (.ret (.int c t))) [(a,.ls xs)] []⟩
noncomputable def W8(b:Bs)(sel:List Nat)(S:SB)(a:aa->aX->aa)(ok:aa->Prop)(k:Int)(c x:ae):=ZC b sel S a ok k c (.ref x)
noncomputable def W9(b:Bs)(sel:List Nat)(S:SB)(a:aa->aX->aa)(ok:aa->Prop)(k:Int)(c:ae)(x:aR)(t:aX):=ZC b sel S a ok k c (.str x t)
noncomputable def W_(b:Bs)(sel:List Nat)(S:SB)(a:aa->aX->aa)(ok:aa->Prop)(k:Int)(c x:ae):=cN1 b sel S a ok k c (.ref x)
noncomputable def W'(b:Bs)(sel:List Nat)(S:SB)(a:aa->aX->aa)(ok:aa->Prop)(k:Int)(c:ae)(x:Int)(t:aX):=cS0 b sel S a ok k c (.int x t)
theorem hN.SQ{c:aa->aa->Prop}{X ok:aa->Prop}{xs:List aa}{x:aa}{d hi k a:Int}(h:hN c X ok xs x d hi k)(e:a=k):0<=a/\a<=(xs.length:Int)/\xs.length<=1048576:=e▸⟨bk h.h0 h.h1,bk h.h2 h.h3,h.h4⟩
theorem DA{K:Kv}{a:ae}{xs:List aa}{k:Int}(h:K 0 (.ok (.ret .none)) [(a,.ls (gw xs k x))] [])(c:Int)(e:c=k):K 0 (.ok (.ret .none)) [(a,.ls (gw xs c x))] []:=e▸h
noncomputable def L2:List Kd:=[.ls]
noncomputable def SR(b:Bs)(sel:List Nat)(a:ae)(S:SB)(c:aa->aX->aa)(ok:aa->Prop)(k:Int):Sp:=gb (.CU a [.re,.re] oL .re) [.ls] L2 (k1 L2) (W8 b sel S c ok k)
noncomputable def L3(b:Bs)(sel:List Nat)(a:ae)(S:SB)(c:aa->aX->aa)(ok:aa->Prop)(k:Int):Sp:=gb (.CU a [.re,.st] oL .re) [.ls] L2 (k1 L2) (W9 b sel S c ok k)
noncomputable def L4(b:Bs)(sel:List Nat)(a:ae)(S:SB)(c:aa->aX->aa)(ok:aa->Prop)(k:Int):Sp:=gb (.CU a [.re,.re,.it,.it] oL .re) [.ls] L2 (k1 L2) (W_ b sel S c ok k)
noncomputable def SS(b:Bs)(sel:List Nat)(a:ae)(S:SB)(c:aa->aX->aa)(ok:aa->Prop)(k:Int):Sp:=gb (.CU a [.re,.it] oL .re) [.ls] L2 (k1 L2) (W' b sel S c ok k)
section
variable{b:Bs}(G:Good b)(sel:List Nat){ok:aa->Prop}
include G
theorem zu{g:aa->Int}(r:∀v,ok v->∃a,v=.ref a)(k:Int):bj b (SR b sel 41 (hN (ltI g) ry ok) (lk g) ok k):=x5 G λ i x j xs s e rest K G X u c f w l y=>by obtain⟨⟨C,D,d⟩,m⟩:=c s G X λ p z=>u p (dw z);exact dg.run G [⟨_,_,d⟩] [⟨_,m⟩,⟨_,ze G d r m k⟩,oK] (oo 0x12112152144222242431314121212121211121222113322212112121212121112 []) λ n=>c5 (jf f:e.dp+0<1000) (E [j,n.1 0] 0x11111111111111100) w (fj f:e.dp+1+20<900) (λ(t:aX)(o:Nw)=>c7 (jf f:e.dp+1<1000) (E [o.1 0,i,j,n.1 0] 0x13330000000000210) (@rfl aT (fE (aP 4) (fP (o.1 0)))) (fj f:e.dp+1+40<900) (@rfl Int 0) (l t:hN (ltI g) ry ok xs (ak (g (ao x)) t) 0 (↑xs.length:Int) k) (λ(q:Int)(A:aX)(h:q=k)(F:Nw)=>c3 (E [i,n.1 0] 0x111100001100) ((l t).SQ h) (λ(B:Nat)(H:Nw)=>DA y q h)))
theorem zv{g:aa->Int}(r:∀v,ok v->∃a t,v=.str a t)(k:Int):bj b (L3 b sel 41 (hN (ltI g) ry ok) (lk g) ok k):=x5 G λ i x tx j xs s e rest K G X u c f w l y=>by obtain⟨⟨C,D,d⟩,m⟩:=c s G X λ p z=>u p (dw z);exact dg.run G [⟨_,_,d⟩] [⟨_,m⟩,⟨_,Ij G d r m k⟩,oK] (oo 0x12112152144222242431314121212121211121222113322212112121212121112 []) λ n=>c5 (jf f:e.dp+0<1000) (E [j,n.1 0] 0x11111111111111100) w (fj f:e.dp+1+20<900) (λ(t:aX)(o:Nw)=>c7 (jf f:e.dp+1<1000) (E [o.1 0,i,j,n.1 0] 0x13330000000000210) (@rfl aT (fE (aP 4) (fP (o.1 0)))) (fj f:e.dp+1+40<900) (@rfl Int 0) (l t:hN (ltI g) ry ok xs (ak (g (cW x tx)) t) 0 (↑xs.length:Int) k) (λ(q:Int)(A:aX)(h:q=k)(F:Nw)=>c3 (E [i,n.1 0] 0x111100001100) ((l t).SQ h) (λ(B:Nat)(H:Nw)=>DA y q h)))
theorem zw{g:aa->Int}(r:∀v,ok v->∃a t,v=.str a t)(k:Int):bj b (L3 b sel 23 (hN (λ v x=>¬vM g v x) ry ok) (lk g) ok k):=x5 G λ i x tx j xs s e rest K G X u c f w l y=>by obtain⟨⟨C,D,d⟩,m⟩:=c s G X λ p z=>u p (dw z);exact dg.run G [⟨_,_,d⟩] [⟨_,m⟩,⟨_,Il G d r m k⟩,oK] (oo 0x12112152144222242431314121212121211121222113322212112121212121112 []) λ n=>c5 (jf f:e.dp+0<1000) (E [j,n.1 0] 0x11111111111111100) w (fj f:e.dp+1+20<900) (λ(t:aX)(o:Nw)=>c7 (jf f:e.dp+1<1000) (E [o.1 0,i,j,n.1 0] 0x13330000000000210) (@rfl aT (fE (aP 2) (fW (o.1 0)))) (fj f:e.dp+1+40<900) (@rfl Int 0) (l t:hN (λ(v x:aa)=>¬vM g v x) ry ok xs (ak (g (cW x tx)) t) 0 (↑xs.length:Int) k) (λ(q:Int)(A:aX)(h:q=k)(F:Nw)=>c3 (E [i,n.1 0] 0x111100001100) ((l t).SQ h) (λ(B:Nat)(H:Nw)=>DA y q h)))
theorem zx{g:aa->aR}(r:∀v,ok v->∃a,v=.ref a)(k:Int):bj b (L4 b sel 41 (hN (AW g) vL ok) (uT g) ok k):=x5 G λ i x s tl hi D j xs u e rest K G X w c f y l z=>by obtain⟨⟨F,H,d⟩,m⟩:=c u G X λ p A=>w p (dw A);exact dg.run G [⟨_,_,d⟩] [⟨_,m⟩,⟨_,Im G d r m k⟩,oK] (oo 0x12112152144222242431314121212121211121222113322212112121212121112 []) λ n=>c5 (jf f:e.dp+0<1000) (E [j,n.1 0] 0x11111111111111100) y (fj f:e.dp+1+20<900) (λ(t:aX)(o:Nw)=>c6 (jf f:e.dp+1<1000) (E [o.1 0,i,j,n.1 0] 0x13330000000000210) (@rfl aT (fE (aP 4) (fP (o.1 0)))) (fj f:e.dp+1+40<900) (l t:hN (AW g) vL ok xs (cW (g (ao x)) t) s hi k) (λ(q:Int)(B:aX)(h:q=k)(I:Nw)=>c3 (E [i,n.1 0] 0x111100001100) ((l t).SQ h) (λ(C:Nat)(J:Nw)=>DA z q h)))
theorem zy{g:aa->aR}(r:∀v,ok v->∃a,v=.ref a)(k:Int):bj b (L4 b sel 23 (hN (λ v x=>¬AX g v x) vL ok) (uT g) ok k):=x5 G λ i x s tl hi D j xs u e rest K G X w c f y l z=>by obtain⟨⟨F,H,d⟩,m⟩:=c u G X λ p A=>w p (dw A);exact dg.run G [⟨_,_,d⟩] [⟨_,m⟩,⟨_,Io G d r m k⟩,oK] (oo 0x12112152144222242431314121212121211121222113322212112121212121112 []) λ n=>c5 (jf f:e.dp+0<1000) (E [j,n.1 0] 0x11111111111111100) y (fj f:e.dp+1+20<900) (λ(t:aX)(o:Nw)=>c6 (jf f:e.dp+1<1000) (E [o.1 0,i,j,n.1 0] 0x13330000000000210) (@rfl aT (fE (aP 2) (fW (o.1 0)))) (fj f:e.dp+1+40<900) (l t:hN (λ(v x:aa)=>¬AX g v x) vL ok xs (cW (g (ao x)) t) s hi k) (λ(q:Int)(B:aX)(h:q=k)(I:Nw)=>c3 (E [i,n.1 0] 0x111100001100) ((l t).SQ h) (λ(C:Nat)(J:Nw)=>DA z q h)))
theorem rA(j:∀v,ok v->∃a,v=.ref a)(k:Int):bj b (SS b sel 50 (hN (ltI g) ry ok) (lk g) ok k):=x5 G λ l x tx m xs o e rest K G X q c f r s=>by obtain⟨⟨y,z,d⟩,u⟩:=c o G X λ p w=>q p (dw w);exact dg.run G [⟨_,_,d⟩] [⟨_,ze G d j u k⟩] (oo 0x1212131312121212121112 []) λ n=>c7 (jf f:e.dp+0<1000) (E [n.1 0,l,m] 0x10000000000210) (@rfl aT (fE (aP 4) (fP (n.1 0)))) (fj f:e.dp+0+40<900) (@rfl Int 0) r (λ(i:Int)(t:aX)(h:i=k)(A:Nw)=>s i t h)
theorem rB(j:∀v,ok v->∃a,v=.ref a)(k:Int):bj b (SS b sel 32 (hN (λ v x=>¬vM g v x) ry ok) (lk g) ok k):=x5 G λ l x tx m xs o e rest K G X q c f r s=>by obtain⟨⟨y,z,d⟩,u⟩:=c o G X λ p w=>q p (dw w);exact dg.run G [⟨_,_,d⟩] [⟨_,Ik G d j u k⟩] (oo 0x1212131312121212121112 []) λ n=>c7 (jf f:e.dp+0<1000) (E [n.1 0,l,m] 0x10000000000210) (@rfl aT (fE (aP 2) (fW (n.1 0)))) (fj f:e.dp+0+40<900) (@rfl Int 0) r (λ(i:Int)(t:aX)(h:i=k)(A:Nw)=>s i t h)
end
set_option backward.match.sparseCases true
section
variable{b:Bs}{e:Ev}{c:aT}{ks:List Kd}{vs:List eK}{ks':Nat->List Kd}{K:Kv}{H:Hs}{s0 s:aD}{C0 D:Cells}{env:fJ}
theorem Do.take{n:Type}{t:nh n}{f:n->BR}(G:Good b)(a:At b s0 C0 s (d' H ks vs++D))(h:∀m,Good m->Ext b m->(∀p∈D,iN m p.1 p.2)->Do m e c t f ks vs ks' K){Q:n->aD->Prop}{E:aa->aD->Prop}(w:∀j v d tl k g,K j (.ok (f v)) d tl->At b s0 C0 g ((d' k (ks' j) d++tl)++D)->Q v g)(y:∀j x d tl k g,K j (.error x) d tl->At b s0 C0 g ((d' k (ks' j) d++tl)++D)->E x g):a_ (aW b.prog b.w) e.ar c t Q E s:=by obtain⟨m,z,X,A,B⟩:=rebase G a.R;rw [<-X.prog,<-X.w];exact aQ (h m z X (λ p u=>⟨B p u,G.oH a.R (aq _ u)⟩) H _ _ s (At.start A)) (λ v g o=>o.out λ j d tl k q r=>w j v d tl k g q (a.to (Trans.eA a.R r.T))) λ x g o=>o.out λ j d tl k q r=>y j x d tl k g q (a.to (Trans.eA a.R r.T))
theorem DE.look{x:bO}(G:Good b)(h:∀d,Good d->Ext b d->∀H,(∀p∈d' H ks vs,iN d p.1 p.2)->DE d e c x env [] [] (k1 []) (eM v [])):DE b e c x env ks vs (k1 ks) (eM v vs):=λ H s0 C0 s a=>Do.take (ks:=[]) (vs:=[]) (H:=H) G (a:At b s0 C0 s (d' H [] []++d' H ks vs)) (λ d n X g=>h d n X H g) (λ j u k tl o q f m=>by generalize g:(fy (nO u):dq)=r at f;induction f;cases g;exact At.fin m) λ j x k tl o q f m=>nomatch f
theorem DE.iG{x:bO}{v:aa}{d:List eK}{k1:Nat->List Kd}(h:DE b e c x env ks vs k1 (eM v d))(o:D' 0 v d):DE b e c x env ks vs k1 (iS D'):=λ H s0 C0 s a=>aQ (h H s0 C0 s a) (λ u p g=>g.out λ j k tl m f n=>by generalize q:(fy (nO u):dq)=r at f;induction f;cases q;exact⟨0,_,_,m,⟨_,rfl,rfl,o⟩,n⟩) λ x p g=>g.out λ j k tl m f n=>nomatch f
theorem DB.cut(n:Nat){k1:Nat->List Kd}{t:bO}{v:aa}(h:DB b e c t v (ss.take n) env ks vs k1 λ j r d tl=>r=.ok .next/\tl=[]/\DS b e c (ss.drop n) env (k1 j) d ks' K):DB b e c t v ss env ks vs ks' K:=λ H s0 C0 s a=>by
 have q:(cG (iC t env v) λ w=>dU ss env)=cG (cG (iC t env v) λ w=>dU (ss.take n) env) λ f=>match f with|.next=>dU (ss.drop n) env|f=>pure f:=by
  rw [f_];congr 1;funext _;conv=>lhs;rw [<-eD n ss,gX]
  rfl
 rw [q];refine au (aQ (h H s0 C0 s a) (λ f o k=>k.out λ j d tl p g u=>?_) λ x o k=>k.out λ j d tl p g u=>(by injection g.1));obtain⟨m,rfl,g⟩:=g;have m:f=.next:=cA m;subst m;exact g p s0 C0 o (u.sub (a9 _ _))
theorem b7:∀{l:List α}(i:Nat){p:α},bE l i=ab p->p∈l|[],_,_,h=>(by injection h)|_::_,0,_,h=>bw h▸gj|_::_,i+1,_,h=>.tail _ (b7 i h)
theorem At.upd(a:At b s0 C0 s (V++D))(T:Trans s s1 V W):At b s0 C0 s1 (W++D):=a.to (Trans.eA a.R T)
end
noncomputable def DC(it:ae)(i:Int)(old:aa):dR:=nV "enumerate" [.none,.bool af,.ref it,.int i 0,.none,old]
section
variable{b:Bs}{e:Ev}{c:aT}{ks:List Kd}{vs:List eK}{ks':Nat->List Kd}{K:Kv}
noncomputable def DN(b:Bs)(e:Ev)(c:aT)(it:aa)(ks:List Kd)(vs:List eK)(ks':Nat->List Kd)(K:Kv):Prop:=Do b e c (qt it) Zg ks vs ks' K
theorem DN.run(G:Good b)(a:List (Fx b))(d:List (Ok b))(o:Or){P:Nw->Prop}(h:∀n,P n){it:aa}(f:P=two b e c a d (.nx it) o ks vs ks' K ah:=by kernel_rfl)(g:P=two b e c a d (.nx it) o ks vs ks' K af:=by kernel_rfl):DN b e c it ks vs ks' K:=jM G a d o (me h f g)
end
noncomputable def DD:Ok b:=⟨gD "enumerate.__new__" [.ty,.re] [.ls] λ a l xs ep=>⟨[l],λ d d d K=>a="enumerate"/\∀it en,K 0 (.ok (.ret (.ref en))) [(l,lO xs ep)] [(en,DC it 0 .none),(it,nU l 0)]⟩,bF λ a l xs ep=>.mk λ A s rest K R h m Rd k=>by obtain⟨rfl,g⟩:=h;refine cz (by decide+kernel) (aL (by kernel_rfl)) (Nh l xs.toArray ep) ⟨Rd.own _ (.head _),k 0 _ _ _ _ (g s.heap.objs.size (s.heap.push (nU l 0)).objs.size) ?_⟩;have f:=Trans.eA Rd.left (Trans.new (o:=nU l 0) rfl s.toks);have j:=Trans.eA (D:=[(s.heap.objs.size,nU l 0),(l,lO xs ep)]) (Trans.ready Rd.left f) (Trans.new (o:=DC s.heap.objs.size 0 .none) rfl s.toks);exact(Trans.trans f j).perm (.trans (.cons _ (.swap _ _ _)) (.swap _ _ _))⟩
noncomputable def nY:List Kd:=[.fl "enumerate",.it]
section
variable{b:Bs}(G:Good b){e:Ev}{c:aT}{K:Kv}{en it l:ae}{i:Int}{old v:aa}{xs:List aa}{ep:Nat}(hl:bN b l (lO xs ep))
include G hl
theorem DF(h:0<=i/\bE xs i.toNat=ab v)(d:∀g t,K 0 (.ok (.ret (.ref g))) [(g,.ls [.int i t,v]),(en,.fr [.int (g:Int) 0,.bool af,.ref it,.int (i+1) 0,.none,v]),(it,.it l (i+1))] []):DN b e c (.ref en) nY [(en,.fr [.none,.bool af,.ref it,.int i 0,.none,old]),(it,.it l i)] (k1 (.tp::nY)) K:=DN.run G [] [fc hl v] (oo 0x2314136363666242444221341421212 []) λ n=>c4 (E [it,en] 0x1111000) (@rfl ae l) (h) (λ(a:Nw)=>c2 (E [en] 0x100000000000000) (d (a.ad 0) (a.tk 0)))
theorem zA(h:0<=i/\bE xs i.toNat=az)(d:K 0 (.ok .next) [] []):DN b e c (.ref en) nY [(en,.fr [.none,.bool af,.ref it,.int i 0,.none,old]),(it,.it l i)] (k1 []) K:=DN.run G [] [fN hl] (oo 0x116221341421212 []) λ n=>c4 (E [it,en] 0x1111000) (@rfl ae l) (h) (λ(a:ae)(D:Array aa)(f:Nw)=>c2 (E [a] 0x10) d)
end
theorem A0(h:R (.ok .next) s):bx (aW prog w) A (.block [] env) R s:=by refine fD ?_;show a_ _ A _ ((dU [] env).onRaise _>>=λ f=>(pure (Fin.done f):nh Fin)) _ _ s;exact au (dY λ a a a a=>λ a a a a=>h)
noncomputable def DG(M:qx)(A:dx)(c:aT)(R:dq->aD->Prop):BR->aD->Prop|.next=>bx M A c R|.cont=>bx M A c R|.brk=>R (.ok .next)|.ret v=>R (.ok (.ret v))
theorem rC(h:a_ (aW prog w) A (.forLoop target it body [] env) (qt it) (λ v g=>match v with|az=>R (.ok .next) g|ab v=>a_ (aW prog w) A (.forLoop target it body [] env) (gZ target it v) (λ a j=>a_ (aW prog w) A (.forLoop target it body [] env) (cG (iC target env v) λ a=>dU body env) (DG (aW prog w) A (.forLoop target it body [] env) R) lz j) lz g) lz s):bx (aW prog w) A (.forLoop target it body [] env) R s:=by
 refine fD ?_;show a_ _ A _ ((forTurn target it body [] env).onRaise _) _ _ s;refine dY ?_;unfold forTurn;refine au (bU (bI ?_));refine au (dY (aQ h (λ v g k=>?_) λ a a x=>x))
 induction v with
  |none=>exact bG ⟨rfl,A0 k⟩
  |some v=>
   refine au (ki (aQ k (λ a j m=>?_) λ a a x=>x));have e:(do iC target env v;match<-dU body env with|.next|.cont=>again (.forLoop target it body [] env)|.brk=>pure (.done .next)|.ret v=>pure (.done (.ret v)):nh Fin)=((cG (iC target env v) λ a=>dU body env)>>=λ f=>match f with|.next=>again (.forLoop target it body [] env)|.cont=>again (.forLoop target it body [] env)|.brk=>pure (.done .next)|.ret v=>pure (.done (.ret v))):=by show _=cG (cG _ _) _;rw [f_];rfl
   show a_ _ A _ (do iC target env v;match<-dU body env with|.next|.cont=>again (.forLoop target it body [] env)|.brk=>pure (.done .next)|.ret v=>pure (.done (.ret v)):nh Fin) _ _ j;rw [e];refine au (ki (aQ m (λ f n d=>?_) λ a a x=>x));induction f with|next=>exact bG ⟨rfl,d⟩|cont=>exact bG ⟨rfl,d⟩|brk=>exact bG d|ret v=>exact bG d
theorem DI(k:∀v,RF x env v=pure v)(h:a_ (aW prog w) A c (dh x env) (λ v f=>bV (aW prog w) (A.under c) (Y4 v) (λ it g=>bx (aW prog w) (A.under c) (.forLoop t it body [] env) (λ r j=>r=.ok .next/\a_ (aW prog w) A c (dU rest env) Q lz j) g) lz f) lz s):a_ (aW prog w) A c (dU (.For t x body [] pos::rest) env) Q lz s:=by rw [gP,exec_For];refine au (au (bU (bI (au (aQ h (λ v f m=>?_) λ a a x=>x)))));rw [k v];refine au (bG (au (bU (bI (au (bU (hD (iE m (λ it g n=>?_) λ a a x=>x))))))));exact bU (wpAny_runOwn (dj n λ r j d=>by obtain⟨rfl,d⟩:=d;exact d))
theorem DJ(G:Good b){e:Ev}{s0 s:aD}(A:∃d x pos,T=.Tuple d x pos){body:List ea}{env:fJ}{R:dq->aD->Prop}(a:At b s0 C0 s (d' H nY [(en,.fr [.none,.bool af,.ref it,.int i 0,.none,old]),(it,.it l i)]++D))(hl:∃ep,(l,lO xs ep)∈D)(h:0<=i/\bE xs i.toNat=ab v)(B:∀g t w p,At b s0 C0 w (((g,tO [.int i t,v] p)::d' H nY [(en,.fr [.none,.bool af,.ref it,.int (i+1) 0,.none,v]),(it,.it l (i+1))])++D)->a_ (aW b.prog b.w) e.ar (.forLoop T (.ref en) body [] env) (cG (iC T env (.ref g)) λ o=>dU body env) (DG (aW b.prog b.w) e.ar (.forLoop T (.ref en) body [] env) R) lz w):bx (aW b.prog b.w) e.ar (.forLoop T (.ref en) body [] env) R s:=by obtain⟨ep,hl⟩:=hl;obtain⟨d,x,pos,rfl⟩:=A;refine rC (Do.take (ks':=k1 (.tp::nY)) (K:=λ o r f tl=>∃g t,r=.ok (.ret (.ref g))/\tl=[]/\f=[(g,.ls [.int i t,v]),(en,.fr [.int (g:Int) 0,.bool af,.ref it,.int (i+1) 0,.none,v]),(it,.it l (i+1))]) G a (λ N C X F=>DF C (F _ hl).1 h λ g t=>⟨g,t,rfl,rfl,rfl⟩) (λ j u f tl m n q k=>?_) λ j x f tl m n q k=>q.elim λ o h=>h.elim λ o h=>(by injection h.1));obtain⟨g,t,y,rfl,rfl⟩:=q;induction u with|none=>exact(by injection y with h;injection h)|some u=>cases eU (cA y);refine bU (yR (it:=it) (k.R.own (en,_) (.tail _ (.head _))) λ z I J=>?_);have k:At b s0 C0 n ((g,tO [.int i t,v] (m 0).e)::(en,nV "enumerate" [.int (g:Int) 0,.bool af,.ref it,.int (i+1) 0,.none,v])::(it,nU l (i+1))::D):=k;have L:=k.perm (.swap _ _ _);have M:At b s0 C0 {n with heap:=z} ((en,DC it (i+1) v)::(g,tO [.int i t,v] (m 0).e)::(it,nU l (i+1))::D):=L.upd (Trans.one I J);exact B g t _ _ (M.perm (.swap _ _ _):At b s0 C0 {n with heap:=z} ((g,tO [.int i t,v] (m 0).e)::(en,DC it (i+1) v)::(it,nU l (i+1))::D))
theorem A1(G:Good b){e:Ev}{s0 s:aD}{C0 D:Cells}{H:Hs}(a:At b s0 C0 s (d' H nY [(en,.fr [.none,.bool af,.ref it,.int i 0,.none,old]),(it,.it l i)]++D))(hl:∃ep,(l,lO xs ep)∈D)(h:0<=i/\bE xs i.toNat=az)(n:∀g,At b s0 C0 g D->R (.ok .next) g):bx (aW b.prog b.w) e.ar (.forLoop t (.ref en) body [] env) R s:=by obtain⟨ep,hl⟩:=hl;refine rC (Do.take (ks':=k1 []) (K:=λ y r d tl=>r=.ok .next/\tl=[]/\d=[]) G a (λ z o X p=>zA o (p _ hl).1 h ⟨rfl,rfl,rfl⟩) (λ j u d tl q k f m=>?_) λ j x d tl q k f m=>(by injection f.1));obtain⟨w,rfl,rfl⟩:=f;induction u with|none=>exact n k m|some u=>exact(by injection w with h;injection h)
noncomputable def l4:aR:=⟨#[108,111,32,109,117,115,116,32,98,101,32,110,111,110,45,110,101,103,97,116,105,118,101]⟩
noncomputable def L5(a:ae):dR:=⟨.type "ValueError",az,.fields #[.ref a,.none,.none,.none,.bool af,.none],#[]⟩
noncomputable def oVE:Ok b:=⟨gD "ValueError.__new__" [.ty,.st] [] λ c x t=>⟨[],λ f f f K=>c="ValueError"/\∀e g ep,K 0 (.ok (.ret (.ref e))) [] [(e,L5 g),(g,tO [.str x t] ep)]⟩,bF λ c x t=>.mk λ A s rest K R h p Rd k=>by obtain⟨rfl,m⟩:=h;obtain⟨a,i,j,tk,os⟩:=s;have l:=Trans.new (s:=⟨a,i,j,tk,os⟩) (o:=tO [.str x t] 0) rfl tk;have n:=Trans.new (s:=⟨a.push (tO [.str x t] 0),i,j,tk,os⟩) (o:=L5 a.objs.size) rfl tk;exact codeAny_exc_new F.excCall_ValueError.toExcNewFacts (k 0 _ _ _ _ (m _ _ 0) (by have:=Trans.trans l (Trans.eA (Trans.ready Rd.left l) n);rw [kq]at this;exact this))⟩
noncomputable def L6(P:ae->List eK->Prop):Kv:=λ j r vs tl=>∃x,r=.error (.ref x)/\tl=[]/\P x vs
theorem Xa(h:P x vs)(j:Nat):L6 P j (.error (.ref x)) vs []:=⟨x,rfl,rfl,h⟩
noncomputable def bi:Bool->Nat|ah=>4|af=>2
noncomputable abbrev L7(f:Bool):List ea:=aP (bi f)
noncomputable def A2:Bool->ae->fJ|ah=>fP|af=>fW
section
variable{b:Bs}(G:Good b){e:Ev}
include G
theorem DK(f:Bool){F:ae}{a x h k:aa}{g:Int}{tl:aX}{P:ae->List eK->Prop}(i:g<0)(j:∀y t u,P y [(F,.fr [a,x,.int g tl,h,k]),(y,.ob (L5 t)),(t,.ls [.str l4 u])]):DS b e (.func (L7 f) (A2 f F)) (L7 f) (A2 f F) [.fr AV] [(F,.fr [a,x,.int g tl,h,k])] (k1 [.fr AV,.ob,.tp]) (L6 P):=by induction f;all_goals exact DS.run G [] [tC ah,oVE] (oo 0x13241666663661441441141111111312 []) λ n=>c3 (E [F] 0x10) ((i:HY ah (g<0))) (λ(l:Nw)=>c2 (@rfl String ("ValueError")) (λ(c:ae)(o:ae)(ep:Nat)(m:Nw)=>c2 (E [c] 0x1000000000000) (Xa (j c (m.ad 0) (l.tk 0)) 0)))
end
theorem uY{q:Type}{M:qx}{A:dx}{c:aT}{m:nh q}{k:aa->nh Unit}{Q:q->aD->Prop}{E:aa->aD->Prop}{s:aD}(h:a_ M A c m Q (λ x j=>bV M (A.under c) (k x) (λ a l=>E x l) (λ a a=>False) j) s):a_ M A c (m.onRaise k) Q E s:=λ i p r g=>by rw [Q4];refine gi M i m (λ a a a n=>n) (λ x t j n=>?_) p s (h i p r g);exact gi _ i _ (λ f u l o=>o) (λ e u l o=>(o:False).elim) t j (n i t (r▸PySem.Ctx.Below.in g))
theorem wF{e:Ev}{body:List ea}{env:fJ}(hf:env.frame=ab F)(hk:env.scope.kind=.function)(a:l_ e.rT as):∃l,(e.ar.under (.func body env)).frames=ab (env::l)/\Nx (env::l) (F::as):=by obtain⟨l,c,f⟩:=a;refine⟨l,?_,⟨hf,hk⟩,f⟩;show Y5 [env] e.rT=_;rw [c];rfl
theorem zB{prog:d7}{w:cP}{A:dx}{body:List ea}{env:fJ}{R:dq->aD->Prop}(h:a_ (aW prog w) A (.func body env) (dU body env) (λ a a=>False) (λ x c=>bV (aW prog w) (A.under (.func body env)) (j4 env x) (λ a i=>R (.error x) i) (λ a a=>False) c) s):bx (aW prog w) A (.func body env) R s:=by refine fD ?_;show a_ _ A _ (do point;match<-(dU body env).onRaise (j4 env)with|.ret v=>ret v|_=>ret .none) _ _ s;refine au (bU (Lj ?_));exact au (aQ (uY h) (λ f c g=>g.elim) λ x c g=>g)
section
variable{b:Bs}(G:Good b){e:Ev}{body:List ea}{env:fJ}{F:ae}{ns:List aR}{d:List aa}{s0 s:aD}{C0 D:Cells}{H:Hs}{R:dq->aD->Prop}(hf:env.frame=ab F)(hk:env.scope.kind=.function)
include G hf hk
theorem DM(A:l_ e.rT (D.map (·.1)))(B:∀p∈D,mi p.2)(a:At b s0 C0 s (d' H [.fr ns] [(F,.fr d)]++D))(C:∀g,Good g->DS g e (.func body env) body env [.fr ns] [(F,.fr d)] (k1 [.fr ns,.ob,.tp]) (L6 λ y vs=>∃t u,vs=[(F,.fr d),(y,.ob (L5 t)),(t,.ls [.str l4 u])]))(I:∀sl y n T oT t u ep f,gI (.type "ValueError") (.ref t) T n oT->At b s0 C0 f (D.map (R_ sl)++[(y,n),(T,oT),(t,tO [.str l4 u] ep)])->R (.error (.ref y)) f):bx (aW b.prog b.w) e.ar (.func body env) R s:=by
 refine zB (Do.take G a (λ g J o o=>C g J) (λ j v i tl c f k r=>k.elim λ o h=>(by injection h.1)) λ j x i tl c f k r=>?_);obtain⟨y,K,rfl,t,u,rfl⟩:=k;cases nP K;obtain⟨l,L,M⟩:=wF (body:=body) hf hk A;have N:At b s0 C0 f ((F,LN (c 0) (.fr ns) (.fr d))::(y,L5 t)::(t,tO [.str l4 u] (c 2).e)::D):=r;have q:((F,LN (c 0) (.fr ns) (.fr d))::(y,L5 t)::(t,tO [.str l4 u] (c 2).e)::D).Perm ((((F,LN (c 0) (.fr ns) (.fr d))::D)++[(y,L5 t)])++[(t,tO [.str l4 u] (c 2).e)]):=by rw [bb];exact .cons _ (bD (l₁:=[(y,L5 t),(t,tO [.str l4 u] (c 2).e)]))
 have w:=N.perm q;refine NS (At.start w.R.left) (λ p m=>?_) L M rfl rfl rfl λ O sl P V Q S U=>?_
 .rcases aF.mp m with rfl|m;.exact λ vs h=>(by injection h)
  .exact B p m
 .have z:=w.upd S.T;rw [bu,fZ,fZ,bb]at z;exact I sl _ _ _ _ _ _ _ _ U (z.sub (xA _ _))
omit G hf hk in theorem SU{es:List aj}:mi (Wr es ep sl):=λ a h=>(by injection h)
noncomputable def SV(F L:ae)(o:dR)(y:ae)(vs:List eK):Prop:=∃c f sl a T oT t u,gI (.type "ValueError") (.ref t) T a oT/\vs=[(F,.fs c f),(L,.ob {o with slots:=sl}),(y,.ob a),(T,.ob oT),(t,.ls [.str l4 u])]
theorem DO{L:ae}{o:dR}(w:l_ e.rT [L])(z:mi o)(a:At b s0 C0 s (d' H [.fr ns,.ob] [(F,.fr d),(L,.ob o)]))(A:DS b e (.func body env) body env [.fr ns,.ob] [(F,.fr d),(L,.ob o)] (k1 [.fs ns,.ob,.ob,.ob,.tp]) (L6 (SV F L o)))(B:∀sl y f T oT t u ep c,gI (.type "ValueError") (.ref t) T f oT->At b s0 C0 c [(L,{o with slots:=sl}),(y,f),(T,oT),(t,tO [.str l4 u] ep)]->R (.error (.ref y)) c):bx (aW b.prog b.w) e.ar (.func body env) R s:=by
 refine zB (aQ (A H s0 C0 s a) (λ v c h=>h.out λ j vs tl g i q=>i.elim λ S h=>(by injection h.1)) λ x c h=>h.out λ j vs tl g i q=>?_);obtain⟨y,C,rfl,I,J,sl,f,T,oT,t,u,k,rfl⟩:=i;cases nP C;obtain⟨l,K,M⟩:=wF hf hk w;have r:At b s0 C0 c (([(F,LN (g 0) (.fs ns) (.fs I J)),(L,{o with slots:=sl})]++[(y,f),(T,oT)])++[(t,tO [.str l4 u] (g 4).e)]):=q;refine CY (At.start r.R.left) (λ p m=>?_) K M k λ N n O U P Q k=>?_
 .rcases aF.mp m with rfl|m;.exact SU
  .cases ay.mp m;exact z
 .exact B (n L) _ _ _ _ _ _ _ _ k ((r.upd Q.T).sub (xA _ _))
end
theorem DP(G:Good b)(h:k.el X λ Y c=>LO P Y λ Z f=>∀(a:Bs)(e:Ev)(rest:Cells)(K:Kv),Good a->Ext b a->(∀p∈rest,iN a p.1 p.2)->l_ e.rT Z.1->AP (Z.2.HT e.dp e.un rest) (Z.2.post K->dg a e c ks (uQ Z.2.ad f) ks' K)):bj b (HU k P ks ks' X):=uR h (λ F Z=>F Z.1) (λ g g g h=>h) λ Z c f e s rest K H F j hf q l R=>by obtain⟨a,m,E,n,o⟩:=rebase G R;rw [<-E.prog,<-E.w];exact dj (rr l (q a e rest K m E (λ p i=>⟨o p i,G.oH R (aq _ i)⟩) (j _ hf)) H _ _ s (At.start n)) λ r t h=>Fi.ext E h
noncomputable def N':List Kd:=[.ob,.ob,.ob,.tp]
noncomputable def SW:List Kd:=[.ob,.ob,.ob,.ob,.tp]
noncomputable abbrev Xb(c:Int)(n:Nat)(xs:List ae)(L:ae)(o:dR):List ae×Ct:=([L],⟨xs++[L],λ d f f=>[c<0,mi o,d+n<900],λ K=>∀sl y a T oT t u,gI (.type "ValueError") (.ref t) T a oT->K 0 (.error (.ref y)) [(L,.ob {o with slots:=sl}),(y,.ob a),(T,.ob oT),(t,.ls [.str l4 u])] []⟩)
noncomputable abbrev ZD(f:Int)(n:Nat)(xs:List ae)(F:ae)(a:dR)(L:ae)(o:dR):List ae×Ct:=([F,L],⟨xs++[F,L],λ d g g=>[f<0,mi a,mi o,d+n<900],λ K=>∀h sl y c T oT t u,gI (.type "ValueError") (.ref t) T c oT->K 0 (.error (.ref y)) [(F,.ob {a with slots:=h}),(L,.ob {o with slots:=sl}),(y,.ob c),(T,.ob oT),(t,.ls [.str l4 u])] []⟩)
noncomputable def DR(i:Nat)(env:ae->fJ):Sp:=HU (.of nE λ F=>.func (aP i) (env F)) [.fr [.an,.an,.it,.an,.an],.at .ob] [.fr AV,.ob] (k1 N') λ F a x c tl h k=>Xb c 20 [F]
noncomputable def DU(i:Nat)(env:ae->fJ):Sp:=HU (.of nE λ F=>.func (aP i) (env F)) [.fr [.an,.an,.it,.an,.an],.at .ob,.at .ob] [.fr AV,.ob,.ob] (k1 SW) λ F a x c tl h k=>ZD c 20 [F]
noncomputable def wG(b:Bs)(sel:List Nat)(g:aa->Int)(ok:aa->Prop)(a:ae):Sp:=HU (.CU a [.re,.st,.it] oL .re) [.at .ob] [.ob] (k1 N') λ v x tx c tl f L o=>([L],⟨[L],λ d h r=>[km b (pick r sel) f (lk g) ok,ok (.str x tx),c<0,mi o,d+60<900],(Xb c 0 [] L o).2.post⟩)
noncomputable def qNL:aR:=⟨#[105,110,115,111,114,116,95,108,101,102,116,46,60,108,111,99,97,108,115,62,46]⟩
noncomputable def qNR:aR:=⟨#[105,110,115,111,114,116,95,114,105,103,104,116,46,60,108,111,99,97,108,115,62,46]⟩
noncomputable def zC(L:ae):fJ:=nu 3 qNL 41 40 L []
noncomputable def zD(L:ae):fJ:=nu 1 qNR 23 22 L []
noncomputable def zE(i:Nat)(env:ae->fJ)(ok:aa->Prop)(f:ae):Sp:=HU (.of nE λ F=>.func (aP i) (env F)) [.fr [.re,.st,.it,.no,.rq f],.at .ob] [.fr AV,.ob] (k1 N') λ F a x tx c tl L o=>([L],⟨[F,L],λ d g g=>[ok (.str x tx),c<0,mi o,d+55<900],(Xb c 0 [] L o).2.post⟩)
noncomputable def L8(a:ae):Sp:=HU (.CU a [.re,.it,.it,.no] oL .re) [.at .ob,.at .ob] [.ob,.ob] (k1 SW) λ v x tx c tl k=>ZD c 30 []
theorem L9:mi (Rc es ep):=λ a h=>(by injection h)
theorem SX{F L y T t:ae}{o a oT:dR}(d:List aa)(c:Array (Option aa))(f:gI (.type "ValueError") (.ref t) T a oT)(j:Nat):L6 (SV F L o) j (.error (.ref y)) [(F,.fs d c),(L,.ob {o with slots:=sl}),(y,.ob a),(T,.ob oT),(t,.ls [.str l4 u])] []:=⟨y,rfl,rfl,d,c,sl,a,T,oT,t,u,f,rfl⟩
section
variable{b:Bs}(G:Good b)
include G
theorem DV(f:Bool):bj b (DR (bi f) (A2 f)):=NR λ F a x w tl h k L o e rest K i j l z m H s0 C0 s c=>by refine DM (D:=[(L,o)]) (env:=A2 f F) (F:=F) G (by induction f<;>rfl) (by induction f<;>kernel_rfl) i (λ p n=>by cases ay.mp n;exact l) c (λ A q=>DK q f j λ y t u=>⟨t,u,rfl⟩) λ sl y B T oT t u ep C r v=>?_;exact⟨0,_,[],λ g=>⟨λ g=>0,λ g=>0,ep⟩,m _ _ _ _ _ _ _ r,by rw [aA];exact v⟩
theorem DX(f:Bool):bj b (DU (bi f) (A2 f)):=NR λ F a x B tl h k l m L o e rest K n q c r C v H s0 C0 s g=>by
 refine DM (D:=[(l,m),(L,o)]) (env:=A2 f F) (F:=F) G (by induction f<;>rfl) (by induction f<;>kernel_rfl) n (λ p i=>?_) g (λ I w=>DK w f q λ y t u=>⟨t,u,rfl⟩) λ sl y J T oT t u ep M z A=>?_
 .rcases aF.mp i with rfl|i;.exact c
  .cases ay.mp i;exact r
 .exact⟨0,_,[],λ j=>⟨λ j=>0,λ j=>0,ep⟩,v _ _ _ _ _ _ _ _ z,by rw [aA];exact A⟩
theorem Iy:bj b (L8 50):=NR λ v x tx p tl k F q L o e rest K h i a j f l=>by exact dg.run G [] [⟨DU 4 fP,DX G ah⟩] (oo 0xfbf2132141312121212121112 []) λ n=>c9 (jf f:e.dp+0<1000) (E [n.1 0,F,L] 0x10000000000210) (@rfl aT (fE (aP 4) (fP (n.1 0)))) h i a j (fj f:e.dp+0+20<900) (λ(m:Array (Option aa))(sl:Array (Option aa))(y:ae)(g:dR)(T:ae)(oT:dR)(t:ae)(u:aX)(c:gI (dZ "ValueError") (ao t) T g oT)(r:Nw)=>l m sl y g T oT t u c)
theorem Iz:bj b (L8 32):=NR λ v x tx p tl k F q L o e rest K h i a j f l=>by exact dg.run G [] [⟨DU 2 fW,DX G af⟩] (oo 0xfbf2132141312121212121112 []) λ n=>c9 (jf f:e.dp+0<1000) (E [n.1 0,F,L] 0x10000000000210) (@rfl aT (fE (aP 2) (fW (n.1 0)))) h i a j (fj f:e.dp+0+20<900) (λ(m:Array (Option aa))(sl:Array (Option aa))(y:ae)(g:dR)(T:ae)(oT:dR)(t:ae)(u:aX)(c:gI (dZ "ValueError") (ao t) T g oT)(r:Nw)=>l m sl y g T oT t u c)
theorem Oa(sel:List Nat)(g:aa->Int)(ok:aa->Prop):bj b (wG b sel g ok 50):=DP G λ v x tx m tl p L o q e rest K G X r i a w j k c l=>by exact dg.run G [] [⟨DR 4 fP,DV G ah⟩] (oo 0xfbf212131312121212121112 []) λ n=>c8 (jf c:e.dp+0<1000) (E [n.1 0,L] 0x1000000000010) (@rfl aT (fE (aP 4) (fP (n.1 0)))) i j k (fj c:e.dp+0+20<900) (λ(sl:Array (Option aa))(y:ae)(f:dR)(T:ae)(oT:dR)(t:ae)(u:aX)(h:gI (dZ "ValueError") (ao t) T f oT)(z:Nw)=>l sl y f T oT t u h)
theorem Ob(sel:List Nat)(g:aa->Int)(ok:aa->Prop):bj b (wG b sel g ok 32):=DP G λ v x tx m tl p L o q e rest K G X r i a w j k c l=>by exact dg.run G [] [⟨DR 2 fW,DV G af⟩] (oo 0xfbf212131312121212121112 []) λ n=>c8 (jf c:e.dp+0<1000) (E [n.1 0,L] 0x1000000000010) (@rfl aT (fE (aP 2) (fW (n.1 0)))) i j k (fj c:e.dp+0+20<900) (λ(sl:Array (Option aa))(y:ae)(f:dR)(T:ae)(oT:dR)(t:ae)(u:aX)(h:gI (dZ "ValueError") (ao t) T f oT)(z:Nw)=>l sl y f T oT t u h)
theorem Oc{g:aa->Int}{ok:aa->Prop}{c:ae}{v:eL}{w:Option ae}(f:bN b c (fO v w))(hk:bj b (gc c (lk g) ok)):bj b (zE 3 zC ok c):=NR λ F a x tx k tl L o e rest K l z A m p B H s0 C0 s i=>by refine DO (env:=zC F) (F:=F) G rfl (by kernel_rfl) l m i ?_ λ sl y q T oT t u ep M C I=>⟨0,_,[],λ r=>⟨λ r=>0,λ r=>0,ep⟩,B sl _ _ _ _ _ u C,by rw [aA];exact I⟩;exact DS.run G [⟨_,_,f⟩] [⟨_,hk⟩,⟨_,Iy G⟩] (oo 0xfbf21213141222113322212 []) λ n=>c4 (E [c,F] 0x1111100) z (fj p:e.dp+1+20<900) (λ(t:aX)(N:Nw)=>c7 (E [F,L,50] 0x1000210) (c2 (@rfl ae F) l) A (L9:mi (Rc [cO ((n.hs 0).h 0) (cW (fb (bY [97])) ((n.hs 0).t 0)) (ao a),cO ((n.hs 0).s.h 0) (cW (fb (bY [120])) ((n.hs 0).s.t 0)) (cW x tx),cO ((n.hs 0).s.s.h 0) (cW (fb (bY [108,111])) ((n.hs 0).s.s.t 0)) (ak k tl),cO ((n.hs 0).s.s.s.h 0) (cW (fb (bY [104,105])) ((n.hs 0).s.s.s.t 0)) fi,cO ((n.hs 0).s.s.s.s.h 0) (cW (fb (bY [107,101,121])) ((n.hs 0).s.s.s.s.t 0)) (ao c)] (n.hs 0).e)) m (fj p:e.dp+1+30<900) (λ(J:Array (Option aa))(sl:Array (Option aa))(y:ae)(q:dR)(T:ae)(oT:dR)(j:ae)(u:aX)(h:gI (dZ "ValueError") (ao j) T q oT)(O:Nw)=>(SX (y:=y) (F:=F) (L:=L) (o:=o) (sl:=sl) (u:=u) [.ref a,.str x tx,.int k tl,.none,.ref c] J h 0)))
theorem Od{g:aa->Int}{ok:aa->Prop}{c:ae}{v:eL}{w:Option ae}(f:bN b c (fO v w))(hk:bj b (gc c (lk g) ok)):bj b (zE 1 zD ok c):=NR λ F a x tx k tl L o e rest K l z A m p B H s0 C0 s i=>by refine DO (env:=zD F) (F:=F) G rfl (by kernel_rfl) l m i ?_ λ sl y q T oT t u ep M C I=>⟨0,_,[],λ r=>⟨λ r=>0,λ r=>0,ep⟩,B sl _ _ _ _ _ u C,by rw [aA];exact I⟩;exact DS.run G [⟨_,_,f⟩] [⟨_,hk⟩,⟨_,Iz G⟩] (oo 0xfbf21213141222113322212 []) λ n=>c4 (E [c,F] 0x1111100) z (fj p:e.dp+1+20<900) (λ(t:aX)(N:Nw)=>c7 (E [F,L,32] 0x1000210) (c2 (@rfl ae F) l) A (L9:mi (Rc [cO ((n.hs 0).h 0) (cW (fb (bY [97])) ((n.hs 0).t 0)) (ao a),cO ((n.hs 0).s.h 0) (cW (fb (bY [120])) ((n.hs 0).s.t 0)) (cW x tx),cO ((n.hs 0).s.s.h 0) (cW (fb (bY [108,111])) ((n.hs 0).s.s.t 0)) (ak k tl),cO ((n.hs 0).s.s.s.h 0) (cW (fb (bY [104,105])) ((n.hs 0).s.s.s.t 0)) fi,cO ((n.hs 0).s.s.s.s.h 0) (cW (fb (bY [107,101,121])) ((n.hs 0).s.s.s.s.t 0)) (ao c)] (n.hs 0).e)) m (fj p:e.dp+1+30<900) (λ(J:Array (Option aa))(sl:Array (Option aa))(y:ae)(q:dR)(T:ae)(oT:dR)(j:ae)(u:aX)(h:gI (dZ "ValueError") (ao j) T q oT)(O:Nw)=>(SX (y:=y) (F:=F) (L:=L) (o:=o) (sl:=sl) (u:=u) [.ref a,.str x tx,.int k tl,.none,.ref c] J h 0)))
theorem Oe(sel:List Nat)(g:aa->Int)(ok:aa->Prop):bj b (wG b sel g ok 41):=DP G λ v x tx B tl f L o k e rest K G X l m a q r w i z=>by obtain⟨⟨C,I,c⟩,hk⟩:=a k G X λ p A=>l p (dw A);exact dg.run G [⟨_,_,c⟩] [⟨zE 3 zC ok f,Oc G c hk⟩] (oo 0xfbf212131312121212121112 []) λ n=>c9 (jf i:e.dp+0<1000) (E [n.1 0,L,f] 0x10000000000210) (@rfl aT (fE (aP 3) (zC (n.1 0)))) m q r w (fj i:e.dp+0+55<900) (λ(sl:Array (Option aa))(y:ae)(j:dR)(T:ae)(oT:dR)(t:ae)(u:aX)(h:gI (dZ "ValueError") (ao t) T j oT)(J:Nw)=>z sl y j T oT t u h)
theorem Of(sel:List Nat)(g:aa->Int)(ok:aa->Prop):bj b (wG b sel g ok 23):=DP G λ v x tx B tl f L o k e rest K G X l m a q r w i z=>by obtain⟨⟨C,I,c⟩,hk⟩:=a k G X λ p A=>l p (dw A);exact dg.run G [⟨_,_,c⟩] [⟨zE 1 zD ok f,Od G c hk⟩] (oo 0xfbf212131312121212121112 []) λ n=>c9 (jf i:e.dp+0<1000) (E [n.1 0,L,f] 0x10000000000210) (@rfl aT (fE (aP 1) (zD (n.1 0)))) m q r w (fj i:e.dp+0+55<900) (λ(sl:Array (Option aa))(y:ae)(j:dR)(T:ae)(oT:dR)(t:ae)(u:aX)(h:gI (dZ "ValueError") (ao t) T j oT)(J:Nw)=>z sl y j T oT t u h)
end
set_option backward.match.sparseCases false
theorem wH{d:Type}{M:qx}{A:dx}{c:aT}{m:nh d}{Q:Except aa d->aD->Prop}{E:aa->aD->Prop}(h:a_ M A c m (λ a=>Q (.ok a)) (λ e=>Q (.error e)) s):a_ M A c m.attempt Q E s:=λ f p g b=>by rw [Sem.wp_attempt];exact h f p g b
theorem DY{prog:d7}{w:cP}{A:dx}{c:aT}{s:aD}{tb:List ea}(h:a_ (aW prog w) A c (dU tb env) (λ a a=>False) (λ x e=>bV (aW prog w) (A.under c) (j4 env x) (λ a g=>a_ (aW prog w) A c (Lh x env (hd::hs)) Q lz g) lz e) s):a_ (aW prog w) A c (dU [.Try tb (hd::hs) [] [] pos] env) Q lz s:=by rw [gP];refine au (aQ ?_ (λ f i k=>by induction f<;>exact bG k) λ a a x=>x);show a_ _ A c (do eR pos;tryStmt af (dU tb env) (hd::hs) (dU [] env) [] env) _ _ s;refine au (bU (bI ?_));unfold tryStmt;dsimp only;rw [if_pos (show([]:List ea).isEmpty=ah from rfl)];refine au (wH (aQ h (λ a a x=>x.elim) λ x e l=>?_));intro d p j b;have z:=l d p (j▸b.in);unfold j4 at z;rw [fK]at z;dsimp only;rw [fK];refine gi _ d _ (λ a m i n=>?_) (λ a a a z=>z) p e z;rw [if_neg (show¬(hd::hs).isEmpty=ah from bP)];rw [fK];refine gi _ d _ (λ a o g q=>?_) (λ a a a z=>z) m i n;rw [Ni,if_neg bP,if_neg bP];exact q d o j b
theorem x6(h:v.frame=v0.frame):j4 v=j4 v0:=by funext x;unfold j4 B' PySem.frameOf;rw [h]
section
variable(key:Nat->Int)
noncomputable def Lx(a b:Nat):Prop:=key a<key b\/key a=key b/\a<b
noncomputable def sb(p:Array Nat)(n:Nat):Prop:=∀i j,i<j->j<n->Lx key (p.getD i 0) (p.getD j 0)
noncomputable def VK(p:Array Nat)(n:Nat):Prop:=∀i j,i<j->j<n->Lx key (p.getD j 0) (p.getD i 0)
end
structure pU(N:Nat)(p:Array Nat)(n:Nat):Prop where
 pm:p.Perm (eI N).toArray
 id:∀i,n<=i->i<N->p.getD i 0=i
 lo:∀i,i<n->p.getD i 0<n
theorem pU.sz(h:pU N p n):p.size=N:=by have:=h.pm.size_eq;simpa using this
theorem pU.lt{N n:Nat}{p:Array Nat}(h:pU N p n)(h0:0<N)(i:Nat):p.getD i 0<N:=by rw [b5];induction e:p[i]? with|none=>exact h0|some x=>exact hG.mp (lU.mp (h.pm.mem_iff.mp (xB e)))
theorem pU.next(h:pU N p n)(a:n<N):pU N p (n+1):=⟨h.pm,λ i b c=>h.id i (Hq b) c,λ i hi=>by
 rcases dy (gW hi)with hi|rfl;.exact gU (h.lo i hi)
 .rw [h.id i (bt _) a];exact dM _⟩
theorem oR{p q:Array Nat}{i j:Nat}(h:p[i]?=q[j]?):p.getD i 0=q.getD j 0:=by rw [b5,b5,h]
theorem jt{p:Array Nat}{i j:Nat}(a:j<=p.size)(k:Nat):(xC p i j).getD k 0=if i<=k/\k<j then p.getD (i+j-1-k) 0 else p.getD k 0:=by
 have e:=getElem?_mirror_all (i:=i) a k;split;.rename_i h;rw [if_pos h]at e;exact oR e
 .rename_i h;rw [if_neg h]at e;exact oR e
theorem Og{p:Array Nat}{a d:Nat}(b:a<p.size)(c:d<=a)(k:Nat):(bubble p a d).getD k 0=if k=a-d then p.getD a 0 else if a-d<k/\k<=a then p.getD (k-1) 0 else p.getD k 0:=by
 have e:=getElem?_bubble b d c k;by_cases h:k=a-d;.rw [if_pos h]at e⊢;exact oR e
 .rw [if_neg h]at e⊢;by_cases h:a-d<k/\k<=a;.rw [if_pos h]at e⊢;exact oR e
  .rw [if_neg h]at e⊢;exact oR e
theorem pU.rev(h:pU N p n)(b:j<=n)(c:n<=N):pU N (xC p i j) n:=by
 have a:j<=p.size:=by rw [h.sz];exact ai b c
 refine⟨(mirror_perm _ _ _ _).trans h.pm,λ k d e=>?_,λ k f=>?_⟩;.rw [jt a,if_neg (by lia)];exact h.id k d e
 .rw [jt a];split;.exact h.lo _ (by lia)
  .exact h.lo k f
section
variable{key:Nat->Int}{N:Nat}{s:aD}{cmp:Nat->Nat->(Bool->aD->Prop)->aD->Prop}(hc:∀i j C s,i<N->j<N->C (decide (key i<key j)) s->cmp i j C s)(h0:0<N)
include hc h0
theorem oU{a:Type}{i j:Nat}{k:Bool->KasT a}{Q:a->aD->Prop}(hi:i<N)(b:j<N)(c:key i<key j->(k ah).kasWp cmp Q s)(d:¬key i<key j->(k af).kasWp cmp Q s):(KasT.ask i j k).kasWp cmp Q s:=by
 refine hc i j _ s hi b ?_;by_cases h:key i<key j;.rw [decide_eq_true h];exact c h
 .rw [decide_eq_false h];exact d h
theorem DZ{p:Array Nat}{Q:Nat->aD->Prop}:∀(f n:Nat),n+f=N->1<=n->pU N p n->sb key p n->(∀m,n<=m->m<=N->(m<N->key (p.getD m 0)<key (p.getD (m-1) 0))->pU N p m->sb key p m->Q m s)->(kas_asc p f n).kasWp cmp Q s:=by
 intro f
 induction f with
  |zero=>intro n a o b d h;exact h n (bt _) (li 0x433240031111 [n,N] rfl a) (λ h=>by exact(li 0x134111200413111 [N,n] rfl a.symm h).elim) b d
  |succ f q=>
   intro n a o b d h
   exact oU hc h0 (b.lt h0 _) (b.lt h0 _) (λ g=>h n (bt _) (li 0x533251104131111 [n,f,N] rfl a) (λ u=>g) b d) λ r=>q (n+1) (a7 (li 0x541103113251104131111 [n,f,N] rfl a) (li 0x511041133211051413111 [N,n,f] rfl a.symm)) (li 0x110311103 [n] rfl) (b.next (li 0x1533251104131111 [n,f,N] rfl a)) (λ i j c k=>by
    rcases dy (gW k)with k|rfl;.exact d i j c k
    .have e:=b.id j (bt _) (li 0x1533251104131111 [j,f,N] rfl a);have l:=b.lo i c
     have:key (p.getD i 0)<=key (p.getD (j-1) 0):=by
      rcases dy (show i<=j-1 by exact li 0x5330110514111143111 [i,j,j-1] rfl c (cI j 1))with hi|rfl;.exact(d i (j-1) hi (li 0x14332411031111 [j-1,j] rfl (aH (o)))).elim cp λ h=>b0 h.1
      .exact aN _
     unfold Lx;lia) λ m t=>h m (li 0x4330411031111 [n,m] rfl t)
structure L_(key:Nat->Int)(N:Nat)(p:Array Nat)(n q:Nat):Prop where
 I:pU N p n
 hq:q+1<=n
 fr:∀i j,i<j->j<n-(q+1)->Lx key (p.getD j 0) (p.getD i 0)
 cr:∀i j,i<n-(q+1)->n-(q+1)<=j->j<n->key (p.getD j 0)<key (p.getD i 0)
 eq:∀i j,n-(q+1)<=i->i<j->j<n->key (p.getD i 0)=key (p.getD j 0)/\p.getD i 0<p.getD j 0
omit hc h0 in theorem L_.turn{p:Array Nat}(h:L_ key N p n q)(c:n<=N):pU N (if q>0 then xC p (n-(q+1)) n else p) n/\VK key (if q>0 then xC p (n-(q+1)) n else p) n:=by
 have e:=h.hq;have d:n<=p.size:=by rw [h.I.sz];exact c
 split
 .refine⟨h.I.rev (bt _) c,λ i j a b=>?_⟩;rw [jt d j,jt d i];by_cases h1:n-(q+1)<=i;.rw [if_pos ⟨by exact yI (cM h1 a),b⟩,if_pos ⟨h1,by exact ik a b⟩];exact .inr (h.eq _ _ (li 0x67301105147111103615111143111 [j,n,n-(q+1)+n-1,n-(q+1)+n-1-j,n-(q+1)] rfl b (cI (n-(q+1)+n-1) j) (cI (n-(q+1)+n) 1)) (li 0x16732547111103615111143111 [i,j,n-(q+1)+n-1,n-(q+1)+n-1-i,n-(q+1)+n-1-j] rfl a (cI (n-(q+1)+n-1) i) (aH (by exact li 0x633011061451111143111 [j,n,n-(q+1),n-(q+1)+n-1] rfl b (cI (n-(q+1)+n) 1)))) (li 0x175327311106111126451111043111 [n-(q+1),i,n-(q+1)+n-1-i,n-(q+1)+n-1,n] rfl h1 (aH (by exact li 0x733011071561111154111143111 [i,j,n,n-(q+1),n-(q+1)+n-1] rfl a b (cI (n-(q+1)+n) 1))) (aH (by exact li 0x45111030411031111 [q,n,n-(q+1)] rfl e))))
  .by_cases h2:n-(q+1)<=j;.rw [if_pos ⟨h2,b⟩,if_neg λ h=>h1 h.1];exact .inl (h.cr _ _ ((G6.mp h1)) (li 0x67301105147111103615111143111 [j,n,n-(q+1)+n-1,n-(q+1)+n-1-j,n-(q+1)] rfl b (cI (n-(q+1)+n-1) j) (cI (n-(q+1)+n) 1)) (li 0x175327311106111126451111043111 [n-(q+1),j,n-(q+1)+n-1-j,n-(q+1)+n-1,n] rfl h2 (aH (by exact li 0x633011061451111143111 [j,n,n-(q+1),n-(q+1)+n-1] rfl b (cI (n-(q+1)+n) 1))) (aH (by exact li 0x5411103143111 [i,n-(q+1),n] rfl (G6.mp h1)))))
   .rw [if_neg λ h=>h2 h.1,if_neg λ h=>h1 h.1];exact h.fr _ _ a ((G6.mp h2))
 .refine⟨h.I,λ i j a b=>?_⟩;by_cases h1:j<n-(q+1);.exact h.fr _ _ a h1
  .exact .inl (h.cr _ _ (by lia) ((fp.mp h1)) b)
omit hc h0 in theorem L_.of{p:Array Nat}(e:pU N p n)(f:n<N)(d:VK key p n)(g:key (p.getD n 0)<key (p.getD (n-1) 0)):L_ key N p (n+1) 0:=⟨e.next f,by exact li 0x110311100013 [n] rfl,λ i j b a=>d i j b (li 0x153321105111000141111143111 [j,n+1-(0+1),n] rfl a (aH (by exact li 0x110311100013 [n] rfl))),λ i j b a c=>by
 have:j=n:=by exact a7 (li 0x4331110413111 [j,n] rfl c) (li 0x45301100013111051111043111 [n+1-(0+1),j,n] rfl a (cI (n+1) (0+1)))
 subst this;refine dK g ?_;rcases dy (show i<=j-1 by exact li 0x6330110615111054111143111 [i,j+1-(0+1),j,j-1] rfl b a (cI j 1))with hi|rfl;.exact(d i (j-1) hi (li 0x14332411031111 [j-1,j] rfl (aH (by exact li 0x51103054111143111 [i,j+1-(0+1),j] rfl b a)))).elim cp λ h=>b0 h.1
 .exact aN _,λ i j b a c=>by exact⟨(li 0x11000131110611111110615111154111043111 [n+1-(0+1),i,j,n] rfl b a c (cI (n+1) (0+1))).elim,(li 0x11000131110611111110615111154111043111 [n+1-(0+1),i,j,n] rfl b a c (cI (n+1) (0+1))).elim⟩⟩
theorem IA{Q:Array Nat×Nat×Nat->aD->Prop}:∀(f:Nat)(p:Array Nat)(n q:Nat),n+f=N->L_ key N p n q->(∀p m q,m<=N->L_ key N p m q->Q (p,m,q) s)->(kas_desc f p n q).kasWp cmp Q s:=by
 intro f
 induction f with
  |zero=>intro p n q c a h;exact h p n q (li 0x433240031111 [n,N] rfl c) a
  |succ f w=>
   intro p n q c a h
   exact oU hc h0 (a.I.lt h0 _) (a.I.lt h0 _) (λ t=>by
    rw [if_pos rfl];have y:=a.turn (li 0x533251104131111 [n,f,N] rfl c);have b:=a.hq;have z:n<=p.size:=by rw [a.I.sz];exact li 0x533251104131111 [n,f,N] rfl c
    have u:key ((if q>0 then xC p (n-(q+1)) n else p).getD n 0)<key ((if q>0 then xC p (n-(q+1)) n else p).getD (n-1) 0):=by
     split;.rw [jt z,jt z,if_neg (by lia),if_pos (⟨li 0x4532311061511110110413111 [n,n-1,n-(q+1),q] rfl (cI n 1) (aH (b)),li 0x14332411031111 [n-1,n] rfl (aH (by exact li 0x411030411031111 [q,n] rfl b))⟩)];have:=(a.eq (n-(q+1)) (n-1) (bt _) (by lia) (li 0x14332411031111 [n-1,n] rfl (aH (by exact li 0x411030411031111 [q,n] rfl b)))).1;rw [show n-(q+1)+n-1-(n-1)=n-(q+1)by exact a7 (li 0x673254711112361110511110110413111 [n,n-1,n-(q+1)+n-1,n-(q+1),n-(q+1)+n-1-(n-1)] rfl (cI n 1) (aH (li 0x45111030411031111 [q,n,n-(q+1)] rfl b)) (aH (li 0x5632411061111011051431111 [n-(q+1),n,n-(q+1)+n-1,n-1] rfl (cI (n-(q+1)+n) 1) (aH (by exact li 0x411030411031111 [q,n] rfl b))))) (li 0x463271105111101103176111105413111 [n-(q+1)+n-1,n-(q+1)+n-1-(n-1),n-1,n-(q+1),n] rfl (cI (n-(q+1)+n-1) (n-1)) (cI (n-(q+1)+n) 1) (aH (li 0x411030411031111 [q,n] rfl b))),this];exact t
     .exact t
    have d:=L_.of y.1 (li 0x1533251104131111 [n,f,N] rfl c) y.2 u;split;.rename_i l;rw [if_pos l]at d;exact w _ (n+1) 0 (a7 (li 0x541103113251104131111 [n,f,N] rfl c) (li 0x511041133211051413111 [N,n,f] rfl c.symm)) d h
    .rename_i l;rw [if_neg l]at d;exact w _ (n+1) 0 (a7 (li 0x541103113251104131111 [n,f,N] rfl c) (li 0x511041133211051413111 [N,n,f] rfl c.symm)) d h) λ x=>by
    rw [if_neg bP];refine oU hc h0 (a.I.lt h0 _) (a.I.lt h0 _) (λ B=>h p n q (li 0x533251104131111 [n,f,N] rfl c) a) λ v=>?_;have b:=a.hq;have e:=a.I.id n (bt _) (li 0x1533251104131111 [n,f,N] rfl c);have o:key (p.getD (n-1) 0)=key (p.getD n 0):=by exact bg (b_.mp x) (b_.mp v)
    have A:∀i,n-(q+1)<=i->i<n->key (p.getD i 0)=key (p.getD n 0):=λ i g k=>by
     rcases dy (show i<=n-1 by exact li 0x5330110514111143111 [i,n,n-1] rfl k (cI n 1))with hi|rfl;.exact(a.eq i (n-1) g hi (li 0x14332411031111 [n-1,n] rfl (aH (by exact li 0x411030411031111 [q,n] rfl b)))).1.trans o
     .exact o
    refine w p (n+1) (q+1) (a7 (li 0x541103113251104131111 [n,f,N] rfl c) (li 0x511041133211051413111 [N,n,f] rfl c.symm)) ⟨a.I.next (li 0x1533251104131111 [n,f,N] rfl c),by exact li 0x1104111011031130411031111 [q,n] rfl b,λ i j g k=>a.fr i j g (li 0x163321105111011071141111011071615111143111 [j,n+1-(q+1+1),n,n-(q+1),q] rfl k (cI n (q+1)) (aH (by exact li 0x1104111011031130411031111 [q,n] rfl b))),λ i j g k r=>?_,λ i j g k r=>?_⟩ h
    .rcases dy (gW r)with r|rfl;.exact a.cr i j (li 0x163321105111011071141111011071615111143111 [i,n+1-(q+1+1),n,n-(q+1),q] rfl g (cI n (q+1)) (aH (by exact li 0x1104111011031130411031111 [q,n] rfl b))) (li 0x47325110617111101101106113111051111043111 [n+1-(q+1+1),j,n,q,n-(q+1)] rfl k (cI (n+1) (q+1+1)) (aH (b))) r
     .rw [<-o];exact a.cr i _ (li 0x163321105111011071141111011071615111143111 [i,j+1-(q+1+1),j,j-(q+1),q] rfl g (cI j (q+1)) (aH (by exact li 0x1104111011031130411031111 [q,j] rfl b))) (li 0x4532311061511110110413111 [j,j-1,j-(q+1),q] rfl (cI j 1) (aH (b))) (li 0x14332411031111 [j-1,j] rfl (aH (by exact li 0x411030411031111 [q,j] rfl b)))
    .rcases dy (gW r)with r|rfl;.exact a.eq i j (li 0x47325110617111101101106113111051111043111 [n+1-(q+1+1),i,n,q,n-(q+1)] rfl g (cI (n+1) (q+1+1)) (aH (b))) k r
     .exact⟨A i (li 0x47325110617111101101106113111051111043111 [j+1-(q+1+1),i,j,q,j-(q+1)] rfl g (cI (j+1) (q+1+1)) (aH (b))) k,by rw [e];exact a.I.lo i k⟩
theorem zF{n:Nat}{p:Array Nat}{Q:Nat×Array Nat->aD->Prop}(a:1<=n)(b:n<=N)(g:pU N p n)(o:VK key p n)(h:∀m p,1<=m->m<=N->pU N p m->sb key p m->Q (m,p) s):(kas_tail3 n N p).kasWp cmp Q s:=by
 unfold kas_tail3;rw [jI];have k:n<=p.size:=by rw [g.sz];exact b
 refine DZ hc h0 (N-n) n (a7 (li 0x5341325431111 [N-n,n,N] rfl (aH (b))) (li 0x4513305413111 [N,N-n,n] rfl (cI N n))) a (g.rev (bt _) b) (λ i j c l=>?_) λ m q d r e f=>h m _ (ai a q) d e f;rw [jt k,jt k,if_pos ⟨bJ _,by exact ik c l⟩,if_pos ⟨bJ _,l⟩];exact o _ _ (by lia) (li 0x15332500111041111043111 [0+n-1-i,0+n-1,n] rfl (iW (0+n-1) i) (aH (by exact li 0x3001110303110111 [n] rfl a)))
theorem qJ{n:Nat}{p:Array Nat}{Q:Nat×Array Nat->aD->Prop}(d:n<N)(f:pU N p n)(g:VK key p n)(k:key (p.getD n 0)<key (p.getD (n-1) 0))(h:∀m p,1<=m->m<=N->pU N p m->sb key p m->Q (m,p) s):(kas_descPart n N p).kasWp cmp Q s:=by
 unfold kas_descPart;rw [jI];refine IA hc h0 (N-(n+1)) p (n+1) 0 (a7 (li 0x531104113251104131111 [N-(n+1),n,N] rfl (aH (by exact li 0x4110313143111 [n,N] rfl d))) (li 0x411051133011051413111 [N,N-(n+1),n] rfl (cI N (n+1)))) (L_.of f d g k) λ l m q b e=>?_;have a:=e.turn b;have:=e.hq;dsimp only;split;.rename_i c;rw [if_pos c]at a;exact zF hc h0 (by lia) b a.1 a.2 h
 .rename_i c;rw [if_neg c]at a;exact zF hc h0 (li 0x411030411031111 [q,m] rfl this) b a.1 a.2 h
theorem D0{Q:Nat×Array Nat->aD->Prop}{p:Array Nat}(t:1<=N)(u:pU N p 1)(h:∀m p,1<=m->m<=N->pU N p m->sb key p m->Q (m,p) s):(kas_count N p).kasWp cmp Q s:=by
 unfold kas_count;rw [jI];refine DZ hc h0 (N-1) 1 (a7 (li 0x43110132411031111 [N-1,N] rfl (aH (t))) (li 0x41101330110413111 [N,N-1] rfl (cI N 1))) (bt _) u (λ i j c k=>by exact(li 0x11104111143111 [i,j] rfl c k).elim) λ n c f v a b=>?_;by_cases e:n=N;.rw [if_pos (by rw [e];exact beq_self_eq_true N)];exact h n p c f a b
 rw [if_neg (λ h=>e (eq_of_beq h))];have d:=v (by lia);split
 .refine oU hc h0 (a.lt h0 _) (a.lt h0 _) (λ x=>h n p c f a b) λ l=>?_;rw [if_neg bP];have g:n<=p.size:=by rw [a.sz];exact f
  have w:∀i,i<n->key (p.getD 0 0)<=key (p.getD i 0)/\key (p.getD i 0)<=key (p.getD (n-1) 0):=λ i hi=>by
   constructor
   .rcases Nat.eq_zero_or_pos i with rfl|o;.exact aN _
    .exact(b 0 i o hi).elim cp λ h=>b0 h.1
   .rcases dy (show i<=n-1 by exact li 0x5330110514111143111 [i,n,n-1] rfl hi (cI n 1))with hi|rfl;.exact(b i (n-1) hi (li 0x14332411031111 [n-1,n] rfl (aH (c)))).elim cp λ h=>b0 h.1
    .exact aN _
  refine qJ hc h0 (by lia) (a.rev (bt _) f) (λ i j q r=>?_) ?_ h;.rw [jt g,jt g,if_pos ⟨bJ _,r⟩,if_pos ⟨bJ _,by exact ik q r⟩];exact b _ _ (by lia) (li 0x15332500111041111043111 [0+n-1-i,0+n-1,n] rfl (iW (0+n-1) i) (aH (by exact li 0x3001110303110111 [n] rfl c)))
  .rw [jt g,jt g,if_neg (by lia),if_pos (⟨li 0x3003 [n-1] rfl,li 0x14332411031111 [n-1,n] rfl (aH (c))⟩)];have:=(w 0 (li 0x1300303110111 [n] rfl c)).2;rw [show 0+n-1-(n-1)=0 by lia];exact dK d (b_.mp l)
 .have:n=1:=by lia
  subst this;exact qJ hc h0 (by lia) a (λ i j c k=>by exact(li 0x11104111143111 [i,j] rfl c k).elim) d h
theorem D3{p:Array Nat}{k n:Nat}(u:pU N p n){Q:Nat->aD->Prop}(h:∀l,l<=k->(∀i,i<l->¬key (p.getD k 0)<key (p.getD i 0))->(∀i,l<=i->i<k->key (p.getD k 0)<key (p.getD i 0))->Q l s)(x:sb key p k):∀(f l r:Nat),r<=l+f->l<=r->r<=k->(∀i,i<l->¬key (p.getD k 0)<key (p.getD i 0))->(∀i,r<=i->i<k->key (p.getD k 0)<key (p.getD i 0))->(kas_place p k f l r).kasWp cmp Q s:=by
 intro f
 induction f with
  |zero=>intro l r v d m o t;exact h l (ai d m) o λ i hi=>t i (li 0x533054111000413111 [r,l,i] rfl v hi)
  |succ f w=>
   intro l r v d m o t;unfold kas_place;split;.exact h l (ai d m) o λ i hi=>t i (by lia)
   have c:=λ i j a b=>(x i j a b).elim cp λ h=>b0 h.1;refine oU hc h0 (u.lt h0 _) (u.lt h0 _) (λ e=>?_) λ g=>?_
   .rw [if_pos rfl];refine w l _ (by lia) (by lia) (by lia) o λ i hi y=>?_;rcases dy hi with hi|rfl;.exact dK e (c _ _ hi y)
    .exact e
   .rw [if_neg bP];refine w _ r (by lia) (by lia) m (λ i hi=>?_) t;rcases dy (gW hi)with hi|rfl;.have:=c i _ hi (by lia);exact λ q=>lj 0x187112068112076112 [] [key (p.getD ((l+r)/2) 0),key (p.getD k 0),key (p.getD i 0)] rfl (b_.mp g) this q
    .exact g
theorem Oh{Q:Array Nat->aD->Prop}(h:∀p,pU N p N->sb key p N->Q p s):∀(f:Nat)(p:Array Nat)(k:Nat),k+f=N->pU N p k->sb key p k->(kas_bin f p k).kasWp cmp Q s:=by
 intro f
 induction f with
  |zero=>
   intro p k d c g;have:k=N:=by exact a7 (li 0x433240031111 [k,N] rfl d) (li 0x433200413111 [N,k] rfl d.symm)
   subst this;exact h p c g
  |succ f t=>
   intro p k d c g;unfold kas_bin;rw [jI];refine D3 hc h0 c (λ l r m n=>?_) g k 0 k (by exact li 0x300133 [k] rfl) (bJ _) (bt _) (λ i hi=>absurd hi (cQ _)) λ i m n=>by exact(li 0x134111043111 [k,i] rfl m n).elim
   have u:k<p.size:=by rw [c.sz];exact li 0x1533251104131111 [k,f,N] rfl d
   have e:=c.id k (bt _) (by exact li 0x1533251104131111 [k,f,N] rfl d);have b:=Og u (iW k l);rw [show k-(k-l)=l by exact a7 (li 0x5632346111105413111 [k,k-l,l,k-(k-l)] rfl (cI k l) (aH ((iW k l)))) (li 0x4632365111105413111 [k,k-(k-l),k-l,l] rfl (cI k (k-l)) (aH (r)))]at b;simp only [e]at b m n;refine t _ (k+1) (by exact a7 (li 0x541103113251104131111 [k,f,N] rfl d) (li 0x511041133211051413111 [N,k,f] rfl d.symm)) ⟨(bubble_perm _ _ _).trans c.pm,λ i hi v=>?_,λ i hi=>?_⟩ λ i j a o=>?_;.rw [b,if_neg (by exact λ q=>li 0x2351110511041111043111 [l,k,i] rfl r hi q),if_neg (by lia)];exact c.id i (li 0x4330411031111 [k,i] rfl hi) v
   .rw [b];split;.exact li 0x11103133 [k] rfl
    split;.exact gU (c.lo _ (by lia))
    .exact gU (c.lo _ (by lia))
   .rw [b,b];by_cases a1:i<l
    .have w:=c.lo i (d5 a1 r);rw [if_neg (λ q=>li 0x234111143111 [i,l] rfl a1 q.symm),if_neg (by lia)];split;.have:=m i a1;unfold Lx;lia
     split;.exact g _ _ (by lia) (li 0x145323110511111110413111 [j,k,j-1] rfl o (aH (by exact li 0x41103143111 [i,j] rfl a)))
     .exact g _ _ (a) (by lia)
    .rw [if_neg (show¬j=l by exact λ q=>li 0x254111035111143111 [i,j,l] rfl a (fp.mp a1) q),if_pos (show l<j/\j<=k by exact⟨cM (fp.mp a1) a,li 0x4331110413111 [j,k] rfl o⟩)];split;.exact .inl (n _ (li 0x6530110614111035111143111 [i,j,l,j-1] rfl a (fp.mp a1) (cI j 1)) (li 0x145323110511111110413111 [j,k,j-1] rfl o (aH (by exact li 0x41103143111 [i,j] rfl a))))
     .rw [if_pos (show l<i/\i<=k by lia)];exact g _ _ (by lia) (li 0x145323110511111110413111 [j,k,j-1] rfl o (aH (by exact li 0x41103143111 [i,j] rfl a)))
theorem IB{Q:Array Nat->aD->Prop}(h:∀p,pU N p N->sb key p N->Q p s):(kas_sort N).kasWp cmp Q s:=by
 unfold kas_sort;rw [jI];refine D0 hc h0 h0 ⟨yS _,λ i e hi=>?_,λ i hi=>?_⟩ λ m p c d a b=>?_;.rw [b5,eC,jY hi];rfl
 .have:i=0:=by exact a7 (li 0x3311103111 [i] rfl hi) (li 0x3003 [i] rfl)
  subst this;rw [b5,eC,jY (h0)];exact Nj
 .dsimp only;split;.rw [show max m 1=m by exact a7 (cR (Nat.max_eq_left c)) (Nat.le_max_left m 1)];exact Oh hc h0 h _ p m (a7 (li 0x5341325431111 [N-m,m,N] rfl (aH (d))) (li 0x4513305413111 [N,N-m,m] rfl (cI N m))) a b
  .have:m=N:=by lia
   subst this;exact h p a b
end
noncomputable def hashW(w:cP)(s:aR):Int:=if s.cps.isEmpty=ah then 0 else reduceHash (w.params.strHash s.cps)
theorem x7:hashW=hashW:=rfl
end gy.Lean
name_z hashWZ for gy.Lean.hashW by gy.Lean.x7
namespace gy.Lean
noncomputable def qK(v y:aa):Prop:=(∃i t u,v=.int i t/\y=.int i u)\/(∃x t u,v=.str x t/\y=.str x u)
noncomputable def uZ(ka kb:List (aR×aa)):Prop:=ka.length=kb.length/\∀a∈ka,∃y,cy kb a.1=ab y/\qK a.2 y
theorem qK.at(h:qK v y):Vn A s v y ah:=by
 rcases h with⟨i,t,u,rfl,rfl⟩|⟨x,t,u,rfl,rfl⟩;.have:=PySem.W.keq_flat (A:=A) (s:=s) (ti i t) (ti i u);simpa [RH]using this
 .have:=PySem.W.keq_flat (A:=A) (s:=s) (tj x t) (tj x u);simpa [RH]using this
theorem zG:∀{ka:List (aR×aa)},(∀a∈ka,∃y,cy kb a.1=ab y/\qK a.2 y)->PySem.W.KeqHits A s kb ka ah|[],_=>.nil|(k,v)::r,h=>by obtain⟨y,b,c⟩:=h (k,v) (.head _);exact .hit b c.at (zG λ a d=>h a (.tail _ d))
noncomputable def D4(prog:d7)(w:cP)(A:dx)(s:aD)(y x:aa):Prop:=∀(E:aa->aD->Prop)(Q:Bool->aD->Prop),Q ah s->bV (aW prog w) A (eqBool y x) Q E s
theorem ug(a:xs.length=ys.length)(u:s.heap.get? l=ab (lO xs e1))(v:s.heap.get? m=ab (lO ys e2))(h:∀j(G:j<xs.length)(H:j<ys.length),D4 prog w A.in1 s xs[j] ys[j])(z:R (.ok (.ret (.bool ah))) s):∀k i,xs.length-i=k->bV (aW prog w) A.in1 (cK.«list.__eq__.loop» ⟨[.ref l,.ref m,kK i,kK 2],[]⟩) (λ x t=>match x with|.done f=>R (.ok f) t|.again B=>B.quiet=ah/\bx (aW prog w) A B R t) (λ e t=>R (.error e) t) s
 |0,i,y=>by
  obtain⟨r,g,d,tk,os⟩:=s;have b:r.get? l=ab {cls:=.type "list",dict:=az,data:=.seq xs.toArray e1,slots:=#[]}:=u;have c:r.get? m=ab {cls:=.type "list",dict:=az,data:=.seq ys.toArray e2,slots:=#[]}:=v;wp_walk using cD b,cD c;have o:xs.toArray[((i:Nat):Int).toNat]?=az:=by simp;exact li 0x543053141112003111 [xs.length-i,xs.length,i] rfl y (cI xs.length i)
  have p:ys.toArray[((i:Nat):Int).toNat]?=az:=by simp;exact li 0x633065141112005111243111 [ys.length,xs.length,xs.length-i,i] rfl a.symm y (cI xs.length i)
  rw [o,p];wp_walk using cD b,cD c;show R (.ok (.ret (.bool (xs.toArray.size==ys.toArray.size)))) _;have:(xs.toArray.size==ys.toArray.size)=ah:=by simp [a]
  rw [this];exact z
 |k+1,i,y=>by
  have C:=ug a u v h z k (i+1) (by lia);have q:i<xs.length:=by lia
  have n:i<ys.length:=by exact li 0x1453135111243111 [xs.length,ys.length,i] rfl a q
  have D:=h i q n;obtain⟨r,g,d,tk,os⟩:=s;have b:r.get? l=ab {cls:=.type "list",dict:=az,data:=.seq xs.toArray e1,slots:=#[]}:=u;have c:r.get? m=ab {cls:=.type "list",dict:=az,data:=.seq ys.toArray e2,slots:=#[]}:=v;wp_walk using cD b,cD c;have o:xs.toArray[((i:Nat):Int).toNat]?=ab xs[i]:=by simp [q]
  have p:ys.toArray[((i:Nat):Int).toNat]?=ab ys[i]:=by simp [n]
  rw [o,p];refine aw (D _ _ ?_);wp_walk;have F:((i:Int)+1)=((i+1:Nat):Int):=by push_cast;rfl
  rw [F];exact⟨rP (by decide+kernel) _,bL (by decide+kernel) (aL (by kernel_rfl)) C⟩
theorem x8(o:s.heap.get? l=ab (lO xs e1))(p:s.heap.get? m=ab (lO ys e2))(a:xs.length=ys.length)(h:∀j(v:j<xs.length)(x:j<ys.length),D4 prog w A.in1 s xs[j] ys[j])(t:R (.ok (.ret (.bool ah))) s):bV (aW prog w) A.in1 (cK.«list.__eq__» ⟨[.ref l,.ref m],[]⟩) (λ i c=>match i with|.done f=>R (.ok f) c|.again q=>q.quiet=ah/\bx (aW prog w) A q R c) (λ e c=>R (.error e) c) s:=by
 have b:=ug a o p h t _ 0 rfl;obtain⟨r,g,d,tk,os⟩:=s;have k:r.get? l=ab {cls:=.type "list",dict:=az,data:=.seq xs.toArray e1,slots:=#[]}:=o;have n:r.get? m=ab {cls:=.type "list",dict:=az,data:=.seq ys.toArray e2,slots:=#[]}:=p;have y:=AutoSeq1.sub_list_list;have u:¬(xs.toArray.size !=ys.toArray.size)=ah:=by simp [a]
 wp_walk using cD k,cD n;exact⟨rP (by decide+kernel) _,bL (by decide+kernel) (aL (by kernel_rfl)) b⟩
theorem zH(c:a≠d)(h:∀(E:aa->aD->Prop)(Q:aa->aD->Prop),Q (.bool ah) s->bV (aW prog w) A (fA .Eq (.ref a) (.ref d)) Q E s):D4 prog w A s (.ref a) (.ref d):=λ E Q f=>by unfold eqBool;refine hD (wpAny_ite_split (λ e=>?_) λ g=>aw (h E _ (wpAny_truthy_bool f)));have b:=eq_of_beq e;injection b with b;exact absurd b c
theorem u7(e:prog=PW){A:dx}{s:aD}{a d:ae}{o b:dR}{k c:List (aR×aa)}{Q:aa->aD->Prop}{E:aa->aD->Prop}(f:s.heap.get? a=ab o)(g:s.heap.get? d=ab b)(h:¬a=1)(i:¬d=1)(j:A.units<yH)(l:dr w o k)(m:dr w b c)(S1:uZ k c)(n:Q (.bool ah) s):bV (aW prog w) A (fA .Eq (.ref a) (.ref d)) Q E s:=by rw [e];refine PySem.W.keq_eq (kh h) (kh i) (l.at f) (m.at g) j (λ p=>zG S1.2) ?_;rw [S1.1];simpa using n
theorem D6(t:prog=PW){A:dx}{s:aD}{l m c g d:ae}{o1 o2 u:dR}{G H:Nat}{k1 v h:List (aR×aa)}{Q:aa->aD->Prop}{E:aa->aD->Prop}(i:s.heap.get? l=ab (lO [.ref c,.ref g] G))(y:s.heap.get? m=ab (lO [.ref d,.ref d] H))(I:s.heap.get? c=ab o1)(J:s.heap.get? g=ab o2)(z:s.heap.get? d=ab u)(K:¬c=1)(L:¬g=1)(B:¬d=1)(M:c≠d)(N:g≠d)(O:A.units+10<yH)(P:dr w o1 k1)(S:dr w o2 v)(C:dr w u h)(S1:uZ k1 h)(S2:uZ v h)(D:Q (.bool ah) s):bV (aW prog w) A (fA .Eq (.ref l) (.ref m)) Q E s:=by
 have u1:A.in1.in1.units<yH:=by show A.units+1+1<yH;exact li 0x14110110311314a1031111 [A.5,yH] rfl O
 have k:D4 prog w A.in1.in1 s (.ref c) (.ref d):=zH M λ E Q a=>u7 t I z K B u1 P C S1 a;have n:D4 prog w A.in1.in1 s (.ref g) (.ref d):=zH N λ E Q a=>u7 t J z L B u1 S C S2 a;show bV (aW prog w) A (richCompare .Eq (.ref l) (.ref m)) Q E s;refine wpAny_richCompare_same_room (op:=.Eq) ⟨_,i,rfl⟩ ⟨_,y,rfl⟩ F.slot_list_eq ?_ (li 0x143314110110311111 [A.5,yH] rfl u1);refine yT (codeAny_call_builtin F.slot_list_eq.plain F.entry_list_eq (F.slot_list_eq.check _ _ _ _ _ _ _ _ ⟨_,i,rfl⟩ (F.args_list_eq_2 _ _) ?_));refine iE (x8 (R:=λ r o=>r=.ok (.ret (.bool ah))/\o=s) (A:=A) i y rfl (λ j p T=>by induction j with|zero=>exact λ E Q a=>PySem.wpAny_of_in1 (k E Q a)|succ j=>induction j with|zero=>exact λ E Q a=>PySem.wpAny_of_in1 (n E Q a)|succ j=>exact absurd (b8 (b8 p)) (cQ _)) ⟨rfl,rfl⟩) (λ q o b=>?_) λ e o b=>by cases b.1
 induction q with|done f=>obtain⟨b,rfl⟩:=b;cases b;exact⟨(λ x=>(by injection x)),D⟩|again X=>refine⟨b.1,dj b.2 λ r U V=>?_⟩;obtain⟨rfl,rfl⟩:=V;exact⟨(λ x=>(by injection x)),D⟩
noncomputable def B2(x:El):dR:=dO (ie x.h tK (f7 x)++x.more) x.h.e
structure ej(b:Bs)(k0 k1:ae)(x:El):Prop where
 fn:bN b x.e (fO (gJ (.ref k0) [] .none) (ab x.dk))
 dk:bN b x.dk (B2 x)
 bT:bN b x.bT (lO (refsOf x.kids) x.ei)
 it:bN b x.it (fO (r_ (.ref k1) (mw x.cs x.ca) (.ref x.ct)) az)
 cs:bN b x.cs (iF (ab (.ref x.sg)))
 ca:bN b x.ca (iF (ab (.ref x.ad)))
 sg:bN b x.sg (lO x.mq x.es)
 ad:bN b x.ad (ft x.j2 x.l7)
theorem ej.tL{b:Bs}{a k1:ae}(h:ej b a k1 x)(c:x.most=m):bN b x.dk (dO (ie x.h tK [.str x.tag x.tt,.ref x.ad,.bool m,.ref x.bT,.ref x.bm,.ref 103,.ref x.it,.str x.tail x.tl]++x.more) x.h.e):=c▸h.dk
structure mz(w:cP)(x:El):Prop where
 num:uV w x.j2 x.l7 ou 0 x.n
 has:cy (ents x.j2) ou≠az
 n0:0<=x.n/\x.n<68719476736
 sg:bl x.mq ((oct x.n (lR x.tag)).map eQ)
 tl:x.tail=nH x.n (lR x.tag)
 most:x.most=decide (lR x.tag=1)
 tg:x.tag.length<=20
 kd:x.kids.length<=10
 Xd:¬x.ad=1
 Ma:∀a,x.above=ab a->∃h t,x.more=[⟨h,.str jg t,.ref a⟩]
noncomputable def hU(vs:List aa):dR:=nV "code" vs
noncomputable def u9:aR:=aG "abcdefghij"
noncomputable def eo(tag:aR)(i:Int):aR:=tG tag (r4 u9 i)
inductive gB(b:Bs)(k0 k1:ae):Nat->Tr->Prop|mk{h:Nat}{x:El}{kids:List Tr}:ej b k0 k1 x->mz b.w x->(∀t∈kids,gB b k0 k1 h t)->x.kids=kids.map Tr.e->(∀(i:Nat)t,kids[i]?=ab t->t.x.tag=eo x.tag i/\t.x.above=ab x.e)->gB b k0 k1 (h+1) (.mk x kids)
theorem bN.ext(E:Ext b b')(h:bN b a o):bN b' a o:=E.h a o h
theorem ej.ext(E:Ext b b'){a k1:ae}{x:El}(h:ej b a k1 x):ej b' a k1 x:=⟨h.fn.ext E,h.dk.ext E,h.bT.ext E,h.it.ext E,h.cs.ext E,h.ca.ext E,h.sg.ext E,h.ad.ext E⟩
theorem jQ{x:El}{ts:List Tr}(h:x.kids=ts.map Tr.e):refsOf x.kids=ef ts:=by unfold refsOf ef;rw [h,fG];rfl
structure dC(xs:List aa)(i:Int)(ys:List aa):Prop where
 ge:0<=i
 eq:xs.drop i.toNat=ys
theorem dC.at(h:dC xs i (v::ys)):0<=i/\bE xs i.toNat=ab v:=⟨h.ge,by rw [dH,<-yU i.toNat,<-ky,h.eq];rfl⟩
theorem dC.next(h:dC xs i (v::ys)):dC xs (i+1) ys:=⟨bk h.ge (cp (td i)),by rw [show(i+1).toNat=i.toNat+1 from Hr h.ge 1,il,<-f3,f3,il,<-f3,h.eq];rfl⟩
theorem dC.end(h:dC xs i []):0<=i/\bE xs i.toNat=az:=⟨h.ge,by rw [dH];exact cY (List.drop_eq_nil_iff.mp h.eq)⟩
theorem dC.start(xs:List aa):dC xs 0 xs:=⟨aN _,rfl⟩
noncomputable def Bd(d u H:Nat):Prop:=d+H+20<900/\u+3*H+100<9900
theorem Bd.i4(h:Bd d u (H+1)):Bd (d+1) (u+3) H:=⟨by have:=h.1;exact li 0x1384301420411031113138430142011041311111 [d,H] rfl this,by have:=h.2;exact li 0x126ac406420431231031113126ac40642011041312311111 [u,H] rfl this⟩
theorem Bd.d{d u H:Nat}(h:Bd d u H):d+20<900:=by have:=h.1;exact li 0x138430142031313843014204311111 [d,H] rfl this
theorem Bd.u{d u H:Nat}(h:Bd d u H):u+3<9900:=by have:=h.2;exact li 0x126ac40310313126ac4064204312311111 [u,H] rfl this
noncomputable def D7:aR:=⟨#[112,97,114,101,110,116]⟩
noncomputable def IC:aR:=⟨#[101,120,116,114,97]⟩
noncomputable def nsS:List aR:=[D7,nG,kT,IC]
noncomputable def qS:aR:=⟨#[83,117,98,69,108,101,109,101,110,116,46,60,108,111,99,97,108,115,62,46]⟩
noncomputable def ID(L:ae):fJ:=nu 11 qS 81 80 L []
noncomputable def codeS(L:ae):aT:=.func (aP 11) (ID L)
noncomputable def pV(p:Cp):aT:=codeS p.L
noncomputable def Oi(b:Bs)(rest:Cells)(a:ae)(o:dR):Prop:=(a,o)∈rest\/iN b a o
theorem Oi.in(E:Ext b b')(c:∀p∈rest,iN b' p.1 p.2)(h:Oi b rest a o):iN b' a o:=h.elim (c _) (iN.ext E)
noncomputable def IE:aR:=⟨#[111,102]⟩
noncomputable def u_:aR:=⟨#[103,97,109,101]⟩
noncomputable def hZ(a:Bool)(n:Int)(t tg:aX):List (aR×aa):=match a with|ah=>[(ou,.int n t),(IE,.str u_ tg)]|af=>[(ou,.int n t)]
noncomputable def nZ(w:cP)(a:Bool)(n:Int)(o:dR):Prop:=∃t u,dr w o (hZ a n t u)
noncomputable def Xe(I:ae->dR->Prop)(a bT:ae):Prop:=∃c x,x.e=a/\x.bT=bT/\I x.e (fO (gJ (.ref c) [] .none) (ab x.dk))/\I x.dk (B2 x)/\I x.bm (nV "builtin_function_or_method" (x3 x.bT))
noncomputable def Mb(w:cP)(I:ae->dR->Prop)(a:Bool)(c:Int)(f:ae)(g:dR):Prop:=∃e kA d t u,I f e/\dr w e kA/\dr w g d/\kA.length+d.length<=1000/\sY kA d=hZ a c t u
theorem D8:x2 (hZ odd n t u) ou j=ab n:=by induction odd<;>simp [x2,hZ,cy]
noncomputable def Rm:List Kd:=[.fr nsS,.dd,.tb,.ls]
noncomputable def SY:List Kd:=[.tb,.ls,.dd,.fn,.dc tK,.ls,.fl "builtin_function_or_method",.fn,.cl,.cl,.ls]
noncomputable def cS(b:Bs)(I:Cells->ae->dR->Prop)(c:Bool)(a:Int)(L g:ae)(tag:aR)(o:aX)(h i:ae)(j:Array aj)(e:Nat)(k l:aa)(f:ae)(m n:aa)(k1 bT:ae)(ys:List aa):Ct:=⟨[L,i,100,bT],λ d u rest=>[d+200<900,k=.int 97 0,l=.int 10 0,m=.int 105 0,n=.int 19 0,tag.length<=900,ys.length<=1000,0<=a/\a<68719476736,Xe (I rest) g bT,Mb b.w (I rest) c a h (ft j e)],λ K=>∀x:El,g0 a tag x->nZ b.w c a (ft x.j2 x.l7)->K 0 (.ok (.ret (.ref x.e))) [(100,.fr (eE f k1)),(bT,.ls (snoc ys (.ref x.e))),(x.ad,.dd x.j2 x.l7),(x.e,.fn (gJ (.ref f) [] .none) (ab x.dk)),(x.dk,.fr (f7 x)),(x.bT,.ls []),(x.bm,.fr (x3 x.bT)),(x.it,.fn (r_ (.ref k1) (mw x.cs x.ca) (.ref x.ct)) az),(x.cs,.cl (ab (.ref x.sg))),(x.ca,.cl (ab (.ref x.ad))),(x.sg,.ls x.mq)] []⟩
noncomputable def spS(b:Bs)(I:Cells->ae->dR->Prop)(a:Bool)(c:Int):Sp:=gb (.of fo pV) [.fr [.re,.st,.re,.re],.dd,.fr [.an,.an,.re,.an,.an,.re],.at .ls] Rm (Lean.k1 SY) λ p=>cS b I a c p.L
noncomputable def S0:bO:=sE (bE (aP 11) 0) 0
noncomputable def S3:bO:=sE (bE (aP 11) 0) 1
theorem D9:aP 11=.Assign [.Name kT (aY S3)] (.Dict [az,az] [xE S0 0,xE S0 1] (aY S0)) (kP (bE (aP 11) 0))::aC 1 (aP 11):=by kernel_rfl
section
variable(G:Good b)
include G
noncomputable def x9(L d:ae)(tag:aR)(e:aX)(f c:ae)(g:Array aj)(a:Nat)(h k1 bT:ae)(ys:List aa):List eK:=[(L,.fr [.ref d,.str tag e,.ref f,.ref c]),(c,.dd g a),(100,.fr (eE h k1)),(bT,.ls ys)]
theorem IF{e:Ev}{L d:ae}{tag:aR}{f:aX}{c g:ae}{h:Array aj}{a:Nat}{i k1 bT:ae}{ys:List aa}:DE b e (codeS L) (xE S0 0) (ID L) Rm (x9 L d tag f c g h a i k1 bT ys) (Lean.k1 Rm) (eM (.ref c) (x9 L d tag f c g h a i k1 bT ys)):=DE.run G [] [] (oo 0x4321512 []) λ n=>c2 (E [L] 0x10) (iG (.ref c) (x9 L d tag f c g h a i k1 bT ys))
theorem IG{e:Ev}{L d:ae}{tag:aR}{f:aX}{g c:ae}{h:Array aj}{a:Nat}{i k1 bT:ae}{ys:List aa}:DE b e (codeS L) (xE S0 1) (ID L) Rm (x9 L d tag f g c h a i k1 bT ys) (Lean.k1 Rm) (eM (.ref c) (x9 L d tag f g c h a i k1 bT ys)):=DE.run G [] [] (oo 0x4321512 []) λ n=>c2 (E [L] 0x10) (iG (.ref c) (x9 L d tag f g c h a i k1 bT ys))
theorem II{e:Ev}{K:Kv}{L:ae}{tag:aR}{i:aX}{j k:ae}{l:Array aj}{a:Nat}{c k1 o:ae}{z:El}(p:e.dp+200<900)(q:tag.length<=900)(r:ys.length<=1000)(s:0<=num/\num<68719476736)(t:bN b z.e (fO (gJ (.ref o) [] .none) (ab z.dk)))(u:bN b z.dk (B2 z))(v:bN b z.bm (nV "builtin_function_or_method" (x3 z.bT)))(w:uV b.w es ep ou 0 num)(A:∀y:El,g0 num tag y->y.ad=m->K 0 (.ok (.ret (.ref y.e))) [(100,.fr (eE c k1)),(z.bT,.ls (snoc ys (.ref y.e))),(y.ad,.dd es ep),(y.e,.fn (gJ (.ref c) [] .none) (ab y.dk)),(y.dk,.fr (f7 y)),(y.bT,.ls []),(y.bm,.fr (x3 y.bT)),(y.it,.fn (r_ (.ref k1) (mw y.cs y.ca) (.ref y.ct)) az),(y.cs,.cl (ab (.ref y.sg))),(y.ca,.cl (ab (.ref y.ad))),(y.sg,.ls y.mq)] []):DB b e (codeS L) (.Name kT (aY S3)) (.ref m) (aC 1 (aP 11)) (ID L) (.dd::Rm) ((m,.dd es ep)::x9 L z.e tag i j k l a c k1 z.bT ys) (Lean.k1 SY) (l3 K):=by have d:tag.length<=1000:=ai q (by decide);have f:ys.length<=1048576:=ai r (by decide);exact DB.run G [⟨_,_,t⟩,⟨_,_,u⟩,⟨_,_,v⟩] [⟨_,SM G num⟩,dP] (oo 0xba987654312c118fd2141af1af1af71716f5333131333316fb16f1431314453331313333424 []) λ n=>e7 (E [100,m,L,z.2,z.1] 0x12224444444432210) (fj p:e.dp+1+100<900) (@rfl aa (ak 97 0)) (@rfl aa (ak 10 0)) (@rfl aa (ak 105 0)) (@rfl aa (ak 19 0)) d w s (λ(x:El)(h:g0 num tag x)(g:x.ad=m)(C:Nw)=>c3 (E [z.3,z.4,L,z.2,z.1] 0x12224444444432110000) f (λ(B:Nat)(D:Nw)=>c2 (E [L] 0x10) (A x h g)))
omit G in theorem zI(h:dr w (ft es ep) (hZ odd num t u)):uV w es ep ou 0 num:=by have e:=h.ents;exact⟨e.symm▸h,e.symm▸D8⟩
omit G in theorem g0.at(h:g0 num g x)(es:Array aj)(ep:Nat):g0 num g {x with j2:=es,l7:=ep}:=⟨h.tag,h.n,h.sg,h.tl,h.most,h.kids,h.above,h.more⟩
theorem Mc(I:Cells->ae->dR->Prop)(d:∀{r a o},I r a o->Oi b r a o)(g:Bool)(h:Int):bj b (spS b I g h):=x5 G λ p Y tag Z da q ee w v1 v2 k0 v3 v4 k1 bT ys b' e rest K c X f z A B C D F H J L M N=>by subst A B C D;obtain⟨kp,x,rfl,rfl,i,j,k⟩:=L;obtain⟨O,kA,kE,t,u,dA,P,Q,l,s⟩:=M;obtain⟨dA,S⟩:=(d dA).in X f;have i:=((d i).in X f).1;have j:=((d j).in X f).1;have k:=((d k).in X f).1;have n:=X.w;refine dg.own c rfl λ T=>dg.fn (DS.text D9 (DS.asg rfl (DE.SP c (IF c) (IG c) (λ R=>⟨O,R.jq _ _ dA.1 dA.2,n▸P⟩) (λ R=>⟨_,R.own (q,_) (.tail _ (.head _)),n▸Q⟩) S (T 1 (q,_) rfl) l λ m es ep U v=>⟨_,rfl,rfl,?_⟩)));exact II c z F H J i j k (zI (s▸v)) λ y V ha=>N _ (V.at es ep) ⟨t,u,n▸s▸v⟩
theorem va(a:Bool)(c:Int):bj b (spS b (λ d=>iN b) a c):=Mc G _ (λ h=>.inr h) a c
noncomputable def inP(b:Bs)(sel:List Nat)(rest:Cells):ae->dR->Prop:=Oi b (pick rest sel)
theorem Oj(sel:List Nat)(a:Bool)(c:Int):bj b (spS b (inP b sel) a c):=Mc G _ (λ h=>h.elim (λ h=>.inl (dw h)) .inr) a c
end
noncomputable def oV:aR:=⟨#[99,101,108,108,115]⟩
noncomputable def kH:aR:=⟨#[103,111,111,100]⟩
noncomputable def zJ:aR:=⟨#[116,97,98,108,101]⟩
noncomputable def oW:aR:=⟨#[114,111,119]⟩
noncomputable def si:aR:=⟨#[116,117,114,110]⟩
noncomputable def IJ:aR:=⟨#[119,111,114,116,104]⟩
noncomputable def S4:aR:=⟨#[100,117,101]⟩
noncomputable def Ol:aR:=⟨#[111,110,101]⟩
noncomputable def x_:List aR:=[oV,kH,zJ,oW]
noncomputable def Md:List aR:=[oV,kH,zJ,oW,si,kR,IJ,jg,nG,Ol,S4]
noncomputable def D_:List aR:=[nG,kT,Dh,oP,jk,Di,sa,Dj,jg]
noncomputable def qG:aR:=⟨#[95,108,97,119,95,103,97,109,101,46,60,108,111,99,97,108,115,62,46]⟩
noncomputable def i0(L:ae):fJ:=nu 17 qG 110 109 L []
noncomputable def IK:bO:=sE (bE (aP 17) 2) 0
noncomputable def B3:List ea:=sB (bE (aP 17) 2) 0
noncomputable def ko(L a:ae):aT:=.forLoop IK (.ref a) B3 [] (i0 L)
noncomputable def cU(num k1 e7:Int):Int:=Z.modQ (num.fdiv k1) 6*(Z.modQ e7 650+1)+Z.modQ (Z.divQ e7 650) 800
theorem sj(x:Int)(h:0<n):0<=Z.modQ x n/\Z.modQ x n<n:=by rw [<-Z.modQ_eq];exact⟨eb _ h,gv _ h⟩
theorem mC(num k1 e7:Int):0<=cU num k1 e7/\cU num k1 e7<68719476736:=by unfold cU;have e:=sj (num.fdiv k1) (n:=6) (by decide);have d:=sj e7 (n:=650) (by decide);have f:=sj (Z.divQ e7 650) (n:=800) (by decide);generalize Z.modQ (num.fdiv k1) 6=a at*;generalize Z.modQ e7 650=b at*;generalize Z.modQ (Z.divQ e7 650) 800=c at*;have g:=vB e.1 (lj 0x110610040600112 [] [b] rfl d.1);have h:=Q5 (cp e.2) (lj 0x28b30110614128a306112 [] [b] rfl d.2) (lj 0x110610040600112 [] [b] rfl d.1) (by decide);exact⟨lj 0x67100407001120600112 [] [c,a*(b+1)] rfl f.1 g,lj 0x11000000000a06714028b3061271121320306112 [] [c,a*(b+1)] rfl f.2 h⟩
theorem ya:dr w (dO [cO (ZFast.hashWZ w k) (.str k t) v] ep) [(k,v)]:=by refine⟨⟨rfl,rfl,rfl⟩,_,ep,rfl,?_,.cons (r8 _ _ k t) rfl .nil,by simp⟩;intro e a;simp only [lU,ay]at a;subst a;exact⟨k,r8 _ _ k t,by rw [<-ZFast.hashWZ_eq];rfl⟩
theorem Ea(c:k≠k'):dr w (dO [cO (ZFast.hashWZ w k) (.str k t) v,cO (ZFast.hashWZ w k') (.str k' t') v'] ep) [(k,v),(k',v')]:=by
 refine⟨⟨rfl,rfl,rfl⟩,_,ep,rfl,?_,.cons (r8 _ _ k t) rfl (.cons (r8 _ _ k' t') rfl .nil),by simp [c]⟩;intro e a;simp only [lU,aF,ax,or_false]at a;rcases a with rfl|rfl;.exact⟨k,r8 _ _ k t,by rw [<-ZFast.hashWZ_eq];rfl⟩
 .exact⟨k',r8 _ _ k' t',by rw [<-ZFast.hashWZ_eq];rfl⟩
theorem sk:dr w (dO [] ep) []:=⟨⟨rfl,rfl,rfl⟩,_,ep,rfl,λ e a=>by simp at a,.nil,by simp⟩
theorem Xf(P:mY):(Lean.kt P).get 73=ab (dO [] 0):=by unfold kt;kernel_rfl
section
variable{b:Bs}(G:Good b){w0 n:Int}{t u:aX}{ep:Nat}
include G
theorem zK:Mb b.w (iN b) af n 73 (dO [cO (ZFast.hashWZ b.w ou) (.str ou u) (.int n t)] ep):=⟨dO [] 0,[],[(ou,.int n t)],t,u,⟨G.kt 73 _ (Xf _),by decide⟩,sk,ya,(by decide:0+1<=1000),by simp [sY,jX,hZ]⟩
theorem Eb{a:ae}{oT:dR}(c:iN b a oT)(d:nZ b.w ah 0 oT):Mb b.w (iN b) ah n a (dO [cO (ZFast.hashWZ b.w ou) (.str ou u) (.int n t)] ep):=d.elim λ f h=>h.elim λ e h=>⟨oT,_,[(ou,.int n t)],t,e,c,h,ya,(by decide:2+1<=1000),by simp [sY,jX,hZ];exact λ h=>absurd h (by decide)⟩
end
noncomputable def Om(w:cP)(n:Int)(u t:aX):Array aj:=#[⟨ZFast.hashWZ w ou,.str ou u,.int n t⟩]
noncomputable def yb(w:cP)(n:Int)(u t a t':aX):Array aj:=#[⟨ZFast.hashWZ w ou,.str ou u,.int n t⟩,⟨ZFast.hashWZ w IE,.str IE a,.str u_ t'⟩]
theorem wI:nZ w af n (ft (Om w n u t) ep):=⟨t,0,ya⟩
theorem rD:nZ w ah n (ft (yb w n u t u' t') ep):=⟨t,t',Ea (by decide)⟩
noncomputable def Xg:Bool->List Kd|ah=>[.fr x_,.ls,.tb,.ls]|af=>[.fr Md,.ls,.tb,.ls]
noncomputable def IL:List Kd:=[.fr Md,.ls,.tb,.ls,.dd,.dd,.fn,.dc tK,.ls,.fl "builtin_function_or_method",.fn,.cl,.cl,.ls]
noncomputable def Rn(a:List aa):Bool->List aa->Prop|ah,c=>c=a|af,c=>∃d e f g h i j,c=a++[d,e,f,g,h,i,j]
noncomputable def Oo(L rw cl c d g k1:ae)(z y:El)(k num W:Int)(tk h i tg:aX)(tag:aR)(e:Array aj)(f:Nat)(rs a:List aa):List eK:=[(L,.fr [.ref cl,.bool ah,.ref c,.ref rw,.int k tk,.int num h,.int W i,.ref z.e,.str tag tg,.ref y.e,.ref d]),(rw,.ls rs),(100,.fr (eE g k1)),(z.bT,.ls (snoc (refsOf z.kids) (.ref y.e))),(d,.dd e f),(y.ad,.dd y.j2 y.l7),(y.e,.fn (gJ (.ref g) [] .none) (ab y.dk)),(y.dk,.fr a),(y.bT,.ls []),(y.bm,.fr (x3 y.bT)),(y.it,.fn (r_ (.ref k1) (mw y.cs y.ca) (.ref y.ct)) az),(y.cs,.cl (ab (.ref y.sg))),(y.ca,.cl (ab (.ref y.ad))),(y.sg,.ls y.mq)]
structure TurnOk(z:El)(rs xs:List aa)(k num e7:Int)(tM:aX):Prop where
 k0:0<=k/\k<=9
 pa:bE rs (num.fmod (k+1)).toNat=ab (.ref z.e)
 rl:rs.length<=11
 xl:xs.length<=100
 e7:bE xs 10=ab (.int e7 tM)
 kd:z.kids.length<=9
 tg:z.tag.length<=30
section
variable{z:El}{rs xs:List aa}{k num e7:Int}{tM:aX}(T:TurnOk z rs xs k num e7 tM)
include T
theorem TurnOk.mod:0<k+1/\k+1<=1000:=by have:=T.k0;exact⟨lj 0x1110610040600112 [] [k] rfl this.1,lj 0x3e83011061409106112 [] [k] rfl this.2⟩
theorem TurnOk.dv:0<k+1/\k+1<2^60:=by have:=T.k0;lia
theorem TurnOk.row:0<=num.fmod (k+1)/\rs.length<=1048576:=⟨eb _ T.mod.1,ai T.rl (by decide)⟩
theorem TurnOk.c:(0:Int)<=10/\xs.length<=1048576/\bE xs 10=ab (.int e7 tM):=⟨by decide,ai T.xl (by decide),T.e7⟩
theorem TurnOk.mul:0<=Z.modQ (num.fdiv (k+1)) 6/\Z.modQ (num.fdiv (k+1)) 6<=1000000/\0<=Z.modQ e7 650+1/\Z.modQ e7 650+1<=1000000:=by have a:=sj (num.fdiv (k+1)) (n:=6) (by decide);have c:=sj e7 (n:=650) (by decide);exact⟨a.1,⟨lj 0xf4240506416106112 [] [Z.modQ (num.fdiv (k+1)) 6] rfl a.2,⟨lj 0x110610040600112 [] [Z.modQ e7 650] rfl c.1,lj 0xf424050110614128a306112 [] [Z.modQ e7 650] rfl c.2⟩⟩⟩
theorem TurnOk.kl:(refsOf z.kids).length<=9:=by unfold refsOf;rw [aM];exact T.kd
theorem TurnOk.k1:(refsOf z.kids).length<=1048576:=ai T.kl (by decide)
theorem TurnOk.k2:(refsOf z.kids).length<=1000:=ai T.kl (by decide)
theorem TurnOk.tl:z.tag.length+1<=100000:=ai (bW T.tg) (by decide)
theorem TurnOk.sg:(0:Int)<=((refsOf z.kids).length:Int)/\((refsOf z.kids).length:Int)<10/\((refsOf z.kids).length:Int)<1000000:=by have:=T.kl;exact⟨li 0x35004 [(refsOf z.kids).length] rfl,⟨li 0x1a1035409103111 [(refsOf z.kids).length] rfl this,li 0x1f42405035409103111 [(refsOf z.kids).length] rfl this⟩⟩
omit T in theorem zL(g s:aR)(i:Int):(tG g (r4 s i)).length=g.length+1:=by unfold tG;rw [mj];rfl
theorem TurnOk.cl(s:aR)(i:Int):(tG z.tag (r4 s i)).length<=900:=by rw [zL];exact ai (bW T.tg) (by decide)
end
section
variable{b:Bs}(G:Good b)
include G
theorem Oq(f p:Bool){e:Ev}{K:Kv}{L en rw q cl g kp k0 k1:ae}{dv rs xs:List aa}{ec eg:Nat}{z:El}{k num e7:Int}{tk tn tM:aX}{oT:dR}(hf:Rn [.ref cl,.bool ah,.ref q,.ref rw] f dv)(T:TurnOk z rs xs k num e7 tM)(r:e.dp+300<900)(M:bN b g (tO [.int k tk,.int num tn] eg))(j:bN b cl (lO xs ec))(C:iN b q oT)(hT:nZ b.w ah 0 oT)(D:iN b z.e (fO (gJ (.ref kp) [] .none) (ab z.dk)))(F:iN b z.dk (B2 z))(H:iN b z.bm (nV "builtin_function_or_method" (x3 z.bT)))(l:HY p (Z.modQ num 2=1))(N:∀(y:El)(tW tg:aX)(d:ae)(I:Array aj)(J:Nat),g0 (cU num (k+1) e7) (eo z.tag (refsOf z.kids).length) y->nZ b.w p (cU num (k+1) e7) (ft y.j2 y.l7)->nZ b.w p (cU num (k+1) e7) (ft I J)->K 0 (.ok .next) (Oo L rw cl q d k0 k1 z y k num (cU num (k+1) e7) tk tn tW tg (eo z.tag (refsOf z.kids).length) I J rs (f7 y)) []):DB b e (ko L en) IK (.ref g) (cj 4 B3) (i0 L) (Xg f) [(L,.fr dv),(rw,.ls rs),(100,.fr (eE k0 k1)),(z.bT,.ls (refsOf z.kids))] (Lean.k1 IL) K:=by
 have O:Xe (iN b) z.e z.bT:=⟨kp,z,rfl,rfl,D,F,H⟩
 induction f with
  |true=>
   cases hf;induction p;.have l:¬Z.modQ num 2=1:=l;exact DB.run G [⟨_,_,M⟩,⟨_,_,j⟩,⟨_,_,D.1⟩,⟨_,_,F.1⟩,⟨_,_,H.1⟩] [oMod,nD (.ref z.e),oDiv,e8 j (.int e7 tM),H0,tH,zb,za,xU af,⟨_,va G af (cU num (k+1) e7)⟩] (oo 0xcba98765413211f15f0ff115f2af2122112af11b11128f14f28f3d2151c12121212121112114f14f14f111b11114fa14f11a11191b21819777171712f119777171712f912f912f2124221212124221212124221212212122211111111651555a1171111111651555a11115111aa5214a1aaa113111888484821232212121232212121232212122131333 []) λ n=>c3 (E [L,n.1 2,n.1 0,g] 0x13333222223222222322222232210000000) T.mod (λ(t:aX)(P:Nw)=>c4 (E [rw] 0x100000) T.row T.pa (λ(Q:Nw)=>c3 (E [L] 0x100) T.dv (λ(s:aX)(R:Nw)=>c4 (E [cl,L] 0x110000) (@rfl ae cl) T.c (λ(S:Nw)=>c2 T.mul (λ(v:aX)(U:Nw)=>c4 (E [cl,L] 0x110000) (@rfl ae cl) T.c (λ(i:Nw)=>c3 (E [z.3,z.2,z.1,L,i.1 3,i.1 1,i.1 0] 0x16666555556555555655555565543333322222132222210) T.k1 (λ(w:aX)(V:Nw)=>c2 T.sg (λ(A:aX)(X:Nw)=>c2 T.tl (λ(m:aX)(Y:Nw)=>c3 (E [L] 0x1000) l (λ(a:Nw)=>SO (jf r:e.dp+0<1000) (E [a.1 1,a.1 0,100,z.3,L] 0x144411000000003210) (@rfl aT (pV (Cp.mk (a.1 1) (a.1 1) 0 0 0 0 0))) (fj r:e.dp+0+200<900) (@rfl aa (ak 97 0)) (@rfl aa (ak 10 0)) (@rfl aa (ak 105 0)) (@rfl aa (ak 19 0)) (T.cl (aG "abcdefghij") ((refsOf z.kids).length:Int)) T.k2 (mC num (k+1) e7) O (zK G:Mb b.w (iN b) af (cU num (k+1) e7) 73 (dO [cO (ZFast.hashWZ b.w (fb (bY [110]))) (cW (fb (bY [110])) (a.tk 0)) (ak (Z.modQ (num.fdiv (k+1)) 6*(Z.modQ e7 650+1)+Z.modQ (Z.divQ e7 650) 800) (i.tk 4))] 1)) (λ(x:El)(h:g0 (cU num (k+1) e7) (tG z.tag (r4 (aG "abcdefghij") (↑(refsOf z.kids).length:Int))) x)(o:nZ b.w af (cU num (k+1) e7) (ft x.j2 x.l7))(B:Nw)=>c3 (E [L] 0x1000) l (λ(c:Nw)=>c2 (E [L,c.1 0] 0x10111100) (N x (i.tk 4) m (c.ad 0) (Om b.w (cU num (k+1) e7) (c.tk 0) (i.tk 4)) 1 h o wI)))))))))))))
   .have l:=l;exact DB.run G [⟨_,_,M⟩,⟨_,_,j⟩,⟨_,_,D.1⟩,⟨_,_,F.1⟩,⟨_,_,H.1⟩] [oMod,nD (.ref z.e),oDiv,e8 j (.int e7 tM),H0,tH,zb,za,xU ah,⟨_,va G ah (cU num (k+1) e7)⟩] (oo 0xcba98765413211f15f0ff115f2af2122112122112af11b11128f14f28f3d2151c12121212121112114f14f14f14f111b11114fa14f11a11191b21819777171712f119777171712f912f912f2124221212124221212124221212212122211111111651555a1171111111651555a11115111aa5214a1aaa113111888484821232212121232212121232212122131333 []) λ n=>c3 (E [L,n.1 2,n.1 0,g] 0x13333222223222222322222232210000000) T.mod (λ(t:aX)(P:Nw)=>c4 (E [rw] 0x100000) T.row T.pa (λ(Q:Nw)=>c3 (E [L] 0x100) T.dv (λ(s:aX)(R:Nw)=>c4 (E [cl,L] 0x110000) (@rfl ae cl) T.c (λ(S:Nw)=>c2 T.mul (λ(v:aX)(U:Nw)=>c4 (E [cl,L] 0x110000) (@rfl ae cl) T.c (λ(i:Nw)=>c3 (E [z.3,z.2,z.1,L,i.1 3,i.1 1,i.1 0] 0x16666555556555555655555565543333322222132222210) T.k1 (λ(w:aX)(V:Nw)=>c2 T.sg (λ(A:aX)(X:Nw)=>c2 T.tl (λ(m:aX)(Y:Nw)=>c3 (E [L] 0x1000) l (λ(a:Nw)=>SO (jf r:e.dp+0<1000) (E [a.1 1,a.1 0,100,z.3,L] 0x1444411000000003210) (@rfl aT (pV (Cp.mk (a.1 1) (a.1 1) 0 0 0 0 0))) (fj r:e.dp+0+200<900) (@rfl aa (ak 97 0)) (@rfl aa (ak 10 0)) (@rfl aa (ak 105 0)) (@rfl aa (ak 19 0)) (T.cl (aG "abcdefghij") ((refsOf z.kids).length:Int)) T.k2 (mC num (k+1) e7) O (Eb G C hT:Mb b.w (iN b) ah (cU num (k+1) e7) q (dO [cO (ZFast.hashWZ b.w (fb (bY [110]))) (cW (fb (bY [110])) (a.tk 0)) (ak (Z.modQ (num.fdiv (k+1)) 6*(Z.modQ e7 650+1)+Z.modQ (Z.divQ e7 650) 800) (i.tk 4))] 1)) (λ(x:El)(h:g0 (cU num (k+1) e7) (tG z.tag (r4 (aG "abcdefghij") (↑(refsOf z.kids).length:Int))) x)(o:nZ b.w ah (cU num (k+1) e7) (ft x.j2 x.l7))(B:Nw)=>c3 (E [L] 0x1000) l (λ(c:Nw)=>c2 (E [L,c.1 0] 0x101111111100) (N x (i.tk 4) m (c.ad 0) (yb b.w (cU num (k+1) e7) (c.tk 0) (i.tk 4) (c.tk 1) (c.tk 2)) 2 h o rD)))))))))))))
  |false=>
   obtain⟨g1,g2,g3,g4,g5,g6,g7,rfl⟩:=hf;induction p;.have l:=l;exact DB.run G [⟨_,_,M⟩,⟨_,_,j⟩,⟨_,_,D.1⟩,⟨_,_,F.1⟩,⟨_,_,H.1⟩] [oMod,nD (.ref z.e),oDiv,e8 j (.int e7 tM),H0,tH,zb,za,xU af,⟨_,va G af (cU num (k+1) e7)⟩] (oo 0xcba98765413211f15f0ff115f2af2122112af11b11128f14f28f3d2151c12121212121112114f14f14f111b11114fa14f11a11191b21819777171712f119777171712f912f912f2124221212124221212124221212212122211111111651555a1171111111651555a11115111aa5214a1aaa113111888484821232212121232212121232212122131333 []) λ n=>c3 (E [L,n.1 2,n.1 0,g] 0x13333222223222222322222232210000000) T.mod (λ(t:aX)(P:Nw)=>c4 (E [rw] 0x100000) T.row T.pa (λ(Q:Nw)=>c3 (E [L] 0x100) T.dv (λ(s:aX)(R:Nw)=>c4 (E [cl,L] 0x110000) (@rfl ae cl) T.c (λ(S:Nw)=>c2 T.mul (λ(v:aX)(U:Nw)=>c4 (E [cl,L] 0x110000) (@rfl ae cl) T.c (λ(i:Nw)=>c3 (E [z.3,z.2,z.1,L,i.1 3,i.1 1,i.1 0] 0x16666555556555555655555565543333322222132222210) T.k1 (λ(w:aX)(V:Nw)=>c2 T.sg (λ(A:aX)(X:Nw)=>c2 T.tl (λ(m:aX)(Y:Nw)=>c3 (E [L] 0x1000) l (λ(a:Nw)=>SO (jf r:e.dp+0<1000) (E [a.1 1,a.1 0,100,z.3,L] 0x144411000000003210) (@rfl aT (pV (Cp.mk (a.1 1) (a.1 1) 0 0 0 0 0))) (fj r:e.dp+0+200<900) (@rfl aa (ak 97 0)) (@rfl aa (ak 10 0)) (@rfl aa (ak 105 0)) (@rfl aa (ak 19 0)) (T.cl (aG "abcdefghij") ((refsOf z.kids).length:Int)) T.k2 (mC num (k+1) e7) O (zK G:Mb b.w (iN b) af (cU num (k+1) e7) 73 (dO [cO (ZFast.hashWZ b.w (fb (bY [110]))) (cW (fb (bY [110])) (a.tk 0)) (ak (Z.modQ (num.fdiv (k+1)) 6*(Z.modQ e7 650+1)+Z.modQ (Z.divQ e7 650) 800) (i.tk 4))] 1)) (λ(x:El)(h:g0 (cU num (k+1) e7) (tG z.tag (r4 (aG "abcdefghij") (↑(refsOf z.kids).length:Int))) x)(o:nZ b.w af (cU num (k+1) e7) (ft x.j2 x.l7))(B:Nw)=>c3 (E [L] 0x1000) l (λ(c:Nw)=>c2 (E [L,c.1 0] 0x10111100) (N x (i.tk 4) m (c.ad 0) (Om b.w (cU num (k+1) e7) (c.tk 0) (i.tk 4)) 1 h o wI)))))))))))))
   .have l:=l;exact DB.run G [⟨_,_,M⟩,⟨_,_,j⟩,⟨_,_,D.1⟩,⟨_,_,F.1⟩,⟨_,_,H.1⟩] [oMod,nD (.ref z.e),oDiv,e8 j (.int e7 tM),H0,tH,zb,za,xU ah,⟨_,va G ah (cU num (k+1) e7)⟩] (oo 0xcba98765413211f15f0ff115f2af2122112122112af11b11128f14f28f3d2151c12121212121112114f14f14f14f111b11114fa14f11a11191b21819777171712f119777171712f912f912f2124221212124221212124221212212122211111111651555a1171111111651555a11115111aa5214a1aaa113111888484821232212121232212121232212122131333 []) λ n=>c3 (E [L,n.1 2,n.1 0,g] 0x13333222223222222322222232210000000) T.mod (λ(t:aX)(P:Nw)=>c4 (E [rw] 0x100000) T.row T.pa (λ(Q:Nw)=>c3 (E [L] 0x100) T.dv (λ(s:aX)(R:Nw)=>c4 (E [cl,L] 0x110000) (@rfl ae cl) T.c (λ(S:Nw)=>c2 T.mul (λ(v:aX)(U:Nw)=>c4 (E [cl,L] 0x110000) (@rfl ae cl) T.c (λ(i:Nw)=>c3 (E [z.3,z.2,z.1,L,i.1 3,i.1 1,i.1 0] 0x16666555556555555655555565543333322222132222210) T.k1 (λ(w:aX)(V:Nw)=>c2 T.sg (λ(A:aX)(X:Nw)=>c2 T.tl (λ(m:aX)(Y:Nw)=>c3 (E [L] 0x1000) l (λ(a:Nw)=>SO (jf r:e.dp+0<1000) (E [a.1 1,a.1 0,100,z.3,L] 0x1444411000000003210) (@rfl aT (pV (Cp.mk (a.1 1) (a.1 1) 0 0 0 0 0))) (fj r:e.dp+0+200<900) (@rfl aa (ak 97 0)) (@rfl aa (ak 10 0)) (@rfl aa (ak 105 0)) (@rfl aa (ak 19 0)) (T.cl (aG "abcdefghij") ((refsOf z.kids).length:Int)) T.k2 (mC num (k+1) e7) O (Eb G C hT:Mb b.w (iN b) ah (cU num (k+1) e7) q (dO [cO (ZFast.hashWZ b.w (fb (bY [110]))) (cW (fb (bY [110])) (a.tk 0)) (ak (Z.modQ (num.fdiv (k+1)) 6*(Z.modQ e7 650+1)+Z.modQ (Z.divQ e7 650) 800) (i.tk 4))] 1)) (λ(x:El)(h:g0 (cU num (k+1) e7) (tG z.tag (r4 (aG "abcdefghij") (↑(refsOf z.kids).length:Int))) x)(o:nZ b.w ah (cU num (k+1) e7) (ft x.j2 x.l7))(B:Nw)=>c3 (E [L] 0x1000) l (λ(c:Nw)=>c2 (E [L,c.1 0] 0x101111111100) (N x (i.tk 4) m (c.ad 0) (yb b.w (cU num (k+1) e7) (c.tk 0) (i.tk 4) (c.tk 1) (c.tk 2)) 2 h o rD)))))))))))))
end
noncomputable def Xh:bO:=sE (bE B3 4) 0
noncomputable def qZ(i:Nat):bO:=xE Xh i
theorem Ec:aC 4 B3=.Assign [.Name kH (aY (sE (bE B3 4) 1))] (.BoolOp .And [qZ 0,.Compare (xE (qZ 1) 0) [.Is] [xE (qZ 1) 1] (aY (qZ 1)),qZ 2,.Compare (xE (qZ 3) 0) [.Eq] [xE (qZ 3) 1] (aY (qZ 3)),qZ 4] (aY Xh)) (kP (bE B3 4))::aC 5 B3:=by kernel_rfl
section
variable{b:Bs}(G:Good b){e:Ev}{L en:ae}{v0 v1 v2 v3 v4 v5 v6:aa}{z y:El}{tag:aR}{tg:aX}{d kp k0:ae}{h hy:Ht}(hF:bN b L (Hc Md [v0,v1,v2,v3,v4,v5,v6,.ref z.e,.str tag tg,.ref y.e,.ref d] h))
include G hF
theorem Ot(a:v1=.bool ah):DE b e (ko L en) (qZ 0) (i0 L) [] [] (k1 []) (eM (.bool ah) []):=by subst a;exact DE.run G [⟨_,_,hF⟩] [] (oo 0x113 []) λ n=>c2 (E [L] 0x10) (iG (.bool ah) [])
theorem Ou:DE b e (ko L en) (xE (qZ 1) 1) (i0 L) [] [] (k1 []) (eM (.ref y.e) []):=DE.run G [⟨_,_,hF⟩] [] (oo 0x113 []) λ n=>c2 (E [L] 0x10) (iG (.ref y.e) [])
theorem Ov{ys:List aa}{ep:Nat}(a:bN b z.e (fO (gJ (.ref kp) [] .none) (ab z.dk)))(c:bN b z.dk (B2 z))(hi:bN b z.bT (lO (ys++[.ref y.e]) ep)):DE b e (ko L en) (xE (qZ 1) 0) (i0 L) [] [] (k1 []) (eM (.ref y.e) []):=DE.run G [⟨_,_,hF⟩,⟨_,_,a⟩,⟨_,_,c⟩,⟨_,_,hi⟩] [AU hi] (oo 0x1111139199911755515153 []) λ n=>c4 (E [z.3,z.2,z.1,L] 0x132222210000) (@rfl ae z.bT) (@rfl Int (-1)) (λ(f:Nw)=>iG (.ref y.e) [])
theorem IM:DE b e (ko L en) (xE (qZ 3) 1) (i0 L) [] [] (k1 []) (eM (.ref d) []):=DE.run G [⟨_,_,hF⟩] [] (oo 0x113 []) λ n=>c2 (E [L] 0x10) (iG (.ref d) [])
variable(q1:bN b y.e (fO (gJ (.ref k0) [] .none) (ab y.dk)))(q2:bN b y.dk (dN tK (f7 y) hy))
include q1 q2
theorem IP:DE b e (ko L en) (xE (qZ 3) 0) (i0 L) [] [] (k1 []) (eM (.ref y.ad) []):=DE.run G [⟨_,_,hF⟩,⟨_,_,q1⟩,⟨_,_,q2⟩] [] (oo 0x11755515153 []) λ n=>c2 (E [y.2,y.1,L] 0x12111110) (iG (.ref y.ad) [])
theorem Ow(a:y.tag=tag):DE b e (ko L en) (qZ 2) (i0 L) [] [] (k1 []) (eM (.bool ah) []):=DE.run G [⟨_,_,hF⟩,⟨_,_,q1⟩,⟨_,_,q2⟩] [WI ah] (oo 0x1111313755515153 []) λ n=>c3 (E [L,y.2,y.1] 0x102222210) (a) (λ(c:Nw)=>iG (.bool ah) [])
theorem Ox(a:e.dp+300<900):DE b e (ko L en) (qZ 4) (i0 L) [] [] (k1 []) (eM (.bool ah) []):=DE.run G [⟨_,_,hF⟩,⟨_,_,q1⟩,⟨_,_,q2⟩] [] (oo 0x11755515155511211112112131 []) λ n=>c3 (jf a:e.dp+0<1000) (E [y.2,y.1,n.1 0,L] 0x1322211111110) (iG (.bool ah) [])
end
theorem mE:uZ (hZ odd W t u) (hZ odd W t' u'):=by
 induction odd;.refine⟨rfl,λ c a=>?_⟩;simp only [hZ,ay]at a;subst a;exact⟨.int W t',by simp [hZ,cy],.inl ⟨W,t,t',rfl,rfl⟩⟩
 .refine⟨rfl,λ c a=>?_⟩;simp only [hZ,aF,ax,or_false]at a;rcases a with rfl|rfl;.exact⟨.int W t',by simp [hZ,cy],.inl ⟨W,t,t',rfl,rfl⟩⟩
  .refine⟨.str u_ u',?_,.inr ⟨u_,u,u',rfl,rfl⟩⟩;have:¬ou=IE:=by decide
   simp [hZ,cy,this]
noncomputable def Oy:List Kd:=[.fr Md,.ls,.tb,.ls,.dd,.dd,.fn,.dc D_,.ls,.fl "builtin_function_or_method",.fn,.cl,.cl,.ls]
section
variable{b:Bs}(G:Good b){e:Ev}{L en rw cl j5 d kp k0 k1:ae}{z y:El}{k num W:Int}{tk tn tW tg:aX}{tag:aR}{IQ:Array aj}{dep:Nat}{rs:List aa}
include G
theorem Oz{f:Bool}(n:e.dp+300<900)(o:e.un+100<9900)(p:bN b z.e (fO (gJ (.ref kp) [] .none) (ab z.dk)))(q:bN b z.dk (B2 z))(r:y.tag=tag)(g:nZ b.w f W (ft y.j2 y.l7))(i:nZ b.w f W (ft IQ dep)):DE b e (ko L en) (.BoolOp .And [qZ 0,.Compare (xE (qZ 1) 0) [.Is] [xE (qZ 1) 1] (aY (qZ 1)),qZ 2,.Compare (xE (qZ 3) 0) [.Eq] [xE (qZ 3) 1] (aY (qZ 3)),qZ 4] (aY Xh)) (i0 L) IL (Oo L rw cl j5 d k0 k1 z y k num W tk tn tW tg tag IQ dep rs (f7 y)) (Lean.k1 IL) (eM (.bool ah) (Oo L rw cl j5 d k0 k1 z y k num W tk tn tW tg tag IQ dep rs (f7 y))):=DE.look G λ s a X H c=>by have hF:=(c _ (b7 0 rfl)).1;have hi:=(c _ (b7 3 rfl)).1;have j:=c _ (b7 5 rfl);have l:=c _ (b7 4 rfl);have q1:=(c _ (b7 6 rfl)).1;have q2:=(c _ (b7 7 rfl)).1;obtain⟨t,u1,g⟩:=g;obtain⟨u,u2,i⟩:=i;rw [<-X.w]at g i;exact DE.and ⟨Ot a hF rfl,DE.cmp (by kernel_rfl) (Ov a hF (p.ext X) (q.ext X) hi) (Ou a hF) λ R m=>Iw m,Ow a hF q1 q2 r,DE.cmp (by kernel_rfl) (IP a hF q1 q2) (IM a hF) λ R m=>u7 a.prog (R.jq _ _ j.1.1 j.1.2) (R.jq _ _ l.1.1 l.1.2) j.2 l.2 (cM (cZ (cu (by kernel_rfl)) _) o) g i mE m,Ox a hF q1 q2 n,trivial⟩
theorem OA{K:Kv}(i:e.dp+300<900)(a:rs.length<=11)(c:K 0 (.ok .next) (Oo L rw cl j5 d k0 k1 z y k num W tk tn tW tg tag IQ dep (snoc rs (.ref y.e)) (snoc (f7 y) (.ref z.e))) []):DB b e (ko L en) (.Name kH (aY (sE (bE B3 4) 1))) (.bool ah) (aC 5 B3) (i0 L) IL (Oo L rw cl j5 d k0 k1 z y k num W tk tn tW tg tag IQ dep rs (f7 y)) (Lean.k1 Oy) K:=by have f:rs.length<=1048576:=ai a (by decide);exact DB.run G [] [dP] (oo 0xedcba9876543120ff122134124444210f810feee1e1e2212 []) λ n=>c3 (E [rw,L,y.2,y.1] 0x111113333322210000100) f (λ(g:Nat)(j:Nw)=>c)
end
theorem IS{b:Bs}(G:Good b)(f a:Bool){e:Ev}{K:Kv}{L en rw j5 cl g kp k0 k1:ae}{m rs xs:List aa}{q r:Nat}{z:El}{k num e7:Int}{tk tn c:aX}{oT:dR}(s:Rn [.ref cl,.bool ah,.ref j5,.ref rw] f m)(T:TurnOk z rs xs k num e7 c)(i:e.dp+300<900)(t:e.un+100<9900)(u:bN b g (tO [.int k tk,.int num tn] r))(j:bN b cl (lO xs q))(l:iN b j5 oT)(v:nZ b.w ah 0 oT)(n:iN b z.e (fO (gJ (.ref kp) [] .none) (ab z.dk)))(o:iN b z.dk (B2 z))(w:iN b z.bm (nV "builtin_function_or_method" (x3 z.bT)))(x:HY a (Z.modQ num 2=1))(A:∀(y:El)(tW tg:aX)(d:ae)(IQ:Array aj)(dep:Nat),g0 (cU num (k+1) e7) (eo z.tag (refsOf z.kids).length) y->nZ b.w a (cU num (k+1) e7) (ft y.j2 y.l7)->K 0 (.ok .next) (Oo L rw cl j5 d k0 k1 z y k num (cU num (k+1) e7) tk tn tW tg (eo z.tag (refsOf z.kids).length) IQ dep (snoc rs (.ref y.e)) (snoc (f7 y) (.ref z.e))) []):DB b e (ko L en) IK (.ref g) B3 (i0 L) (Xg f) [(L,.fr m),(rw,.ls rs),(100,.fr (eE k0 k1)),(z.bT,.ls (refsOf z.kids))] (Lean.k1 Oy) K:=DB.cut 4 (Oq G f a s T i u j l v n o w x λ y tW tg d IQ dep hy p B=>⟨rfl,rfl,DS.text Ec (DS.asg rfl ((Oz G i t n.1 o.1 hy.tag p B).iG (OA G i T.rl (A y tW tg d IQ dep hy p))))⟩)
noncomputable def Ed:aR:=⟨#[101]⟩
structure nJ(w:cP)(k:Nat)(dG:List El):Prop where
 len:dG.length=k+1
 ok:∀x∈dG,mz w x/\x.tag.length<=k+1/\x.kids.length<=k
 root:∃r tl,dG=r::tl/\r.tag=Ed/\r.above=az/\nZ w ah 0 (ft r.j2 r.l7)
 VL:∀y∈dG,y.above=az->y.tag=Ed
 i4:∀x∈dG,∀(i:Nat)a,x.kids[i]?=ab a->∃y∈dG,y.e=a/\y.tag=eo x.tag i/\y.above=ab x.e
 Ma:∀y∈dG,∀a,y.above=ab a->∃x∈dG,x.e=a/\∃i:Nat,x.kids[i]?=ab y.e
 ord:dG.Pairwise λ x y=>x.e∉y.kids
 self:∀x∈dG,x.e∉x.kids
 es:(dG.map (·.e)).Nodup
 tags:(dG.map (·.tag)).Nodup
theorem jG{d j:Type}{f:d->j}{l:List d}:(l.map f).Nodup->∀{x y:d},x∈l->y∈l->f x=f y->x=y:=by
 induction l with
  |nil=>intro _ x y g;exact absurd g ax
  |cons a l k=>
   intro h x y g i e;rw [bu,bM]at h;rcases aF.mp g with c|c
   .rcases aF.mp i with b|b;.rw [c,b]
    .exact absurd (aK (f:=f) b) (by rw [<-e,c];exact h.1)
   .rcases aF.mp i with b|b;.exact absurd (aK (f:=f) c) (by rw [e,b];exact h.1)
    .exact k h.2 c b e
theorem yc{a b c d:aR}(h:a++b=c++d)(g:b.length=d.length):a=c/\b=d:=by have f:(a.cps++b.cps).toList=(c.cps++d.cps).toList:=congrArg (λ s:aR=>s.cps.toList) h;rw [jH,jH]at f;have e:b.cps.toList.length=d.cps.toList.length:=g;have:=lV f e;exact⟨l6 (iM this.1),l6 (iM this.2)⟩
theorem IT{i j:Nat}(hi:i<=9)(a:j<=9)(h:r4 u9 (i:Int)=r4 u9 (j:Int)):i=j:=by
 have b:u9.cps.getD i 0=u9.cps.getD j 0:=by have:=congrArg (λ s:aR=>s.cps.toList) h;simpa [r4]using this
 have key:∀i:Fin 10,∀j:Fin 10,u9.cps.getD i.1 0=u9.cps.getD j.1 0->i.1=j.1:=by decide
 exact key ⟨i,by exact li 0x1a103309103111 [i] rfl hi⟩ ⟨j,by exact li 0x1a103309103111 [j] rfl a⟩ b
theorem A3{a c:aR}{i j:Nat}(hi:i<=9)(b:j<=9)(h:eo a (i:Int)=eo c (j:Int)):a=c/\i=j:=by unfold eo tG at h;obtain⟨d,e⟩:=yc h rfl;exact⟨d,IT hi b e⟩
noncomputable def El.grow(xe ye:ae)(ei:Nat)(z:El):El:=if z.e=xe then{z with kids:=z.kids++[ye],ei:=ei}else z
section
variable{xe ye:ae}{ei:Nat}{z:El}
theorem mF:(z.grow xe ye ei).e=z.e:=by unfold El.grow;split<;>rfl
theorem mG:(z.grow xe ye ei).tag=z.tag:=by unfold El.grow;split<;>rfl
theorem lA:(z.grow xe ye ei).above=z.above:=by unfold El.grow;split<;>rfl
theorem Ee:ft (z.grow xe ye ei).j2 (z.grow xe ye ei).l7=ft z.j2 z.l7:=by unfold El.grow;split<;>rfl
theorem nf:(z.grow xe ye ei).kids=z.kids\/(z.e=xe/\(z.grow xe ye ei).kids=z.kids++[ye]):=by
 unfold El.grow;split;.rename_i h;exact .inr ⟨h,rfl⟩
 .exact .inl rfl
theorem IU(h:mz w z/\z.tag.length<=k+1/\z.kids.length<=k)(d:k<=9):mz w (z.grow xe ye ei)/\(z.grow xe ye ei).tag.length<=k+1+1/\(z.grow xe ye ei).kids.length<=k+1:=by
 obtain⟨a,b,c⟩:=h;unfold El.grow;split
 .have e:(z.kids++[ye]).length<=k+1:=by rw [bh];exact bW c
  exact⟨⟨a.num,a.has,a.n0,a.sg,a.tl,a.most,a.tg,ai e (bW d),a.Xd,a.Ma⟩,fL b,e⟩
 .exact⟨a,fL b,fL c⟩
end
theorem kU(tag:aR)(i:Int):(eo tag i).length=tag.length+1:=zL _ _ _
theorem nJ.add{w:cP}{k:Nat}{c:List El}{x y:El}{ei:Nat}(R:nJ w k c)(T:k<=9)(C:x∈c)(hy:mz w y)(U:y.e∉c.map (·.e))(Q:y.tag=eo x.tag x.kids.length)(V:y.above=ab x.e)(S:y.kids=[]):nJ w (k+1) (c.map (El.grow x.e y.e ei)++[y]):=by
 have I:=(R.ok x C).2
 have d:∀m,m∈c.map (El.grow x.e y.e ei)++[y]↔(∃z∈c,m=z.grow x.e y.e ei)\/m=y:=λ m=>by
  rw [aO,ba,ay];constructor
  .rintro(⟨z,e,rfl⟩|h);.exact .inl ⟨z,e,rfl⟩
   .exact .inr h
  .rintro(⟨z,e,rfl⟩|h);.exact .inl ⟨z,e,rfl⟩
   .exact .inr h
 have aad:∀z∈c,∀a∈z.kids,a∈c.map (·.e):=λ z e a l=>by obtain⟨i,hi⟩:=aZ l;obtain⟨v,j,rfl,_⟩:=R.i4 z e i a hi;exact aK j
 have gk:∀z∈c,∀a,a∈(z.grow x.e y.e ei).kids->a∈z.kids\/a=y.e:=λ z e a l=>by
  rcases nf with h|⟨_,h⟩;.rw [h]at l;exact .inl l
  .rw [h]at l;simpa using l
 refine⟨by simp [R.len],?_,?_,?_,?_,?_,?_,?_,?_,?_⟩
 .intro m f;rcases(d m).mp f with⟨z,e,rfl⟩|rfl;.exact IU (R.ok z e) T
  .refine⟨hy,?_,by rw [S];exact bJ _⟩;rw [Q,kU];exact li 0x1101104111103130110413111 [x.tag.length,k] rfl I.1
 .obtain⟨r,tl,rfl,t,o,D⟩:=R.root;refine⟨r.grow x.e y.e ei,tl.map (El.grow x.e y.e ei)++[y],rfl,by rw [mG,t],by rw [lA,o],by rw [Ee];exact D⟩
 .intro m f A;rcases(d m).mp f with⟨z,e,rfl⟩|rfl;.rw [lA]at A;rw [mG];exact R.VL z e A
  .rw [V]at A;cases A
 .intro m f i a hi;rcases(d m).mp f with⟨z,e,rfl⟩|rfl
  .rw [mF,mG];have J:∀(i:Nat)a,z.kids[i]?=ab a->∃F∈c.map (El.grow x.e y.e ei)++[y],F.e=a/\F.tag=eo z.tag i/\F.above=ab z.e:=λ i a hi=>by obtain⟨v,j,t,o,D⟩:=R.i4 z e i a hi;exact⟨v.grow x.e y.e ei,(d _).mpr (.inl ⟨v,j,rfl⟩),by rw [mF,t],by rw [mG,o],by rw [lA,D]⟩
   rcases nf with h|⟨X,h⟩;.rw [h]at hi;exact J i a hi
   .rw [h]at hi;have Y:z=x:=jG R.es e C X;subst Y;rcases m2 i z.kids.length with Z|K;.rw [ip Z]at hi;exact J i a hi
    .rw [de K]at hi;have L:i-z.kids.length=0:=by induction hd:i-z.kids.length with|zero=>rfl|succ n=>rw [hd]at hi;simp at hi
     rw [L]at hi;have hia:y.e=a:=by simpa using hi
     have hie:i=z.kids.length:=by exact a7 (li 0x543053141112003111 [i-z.kids.length,i,z.kids.length] rfl L (cI i z.kids.length)) K
     exact⟨y,(d _).mpr (.inr rfl),hia,by rw [Q,hie],V⟩
  .rw [S]at hi;simp at hi
 .intro F hy' a g;rcases(d F).mp hy' with⟨z,e,rfl⟩|rfl
  .rw [lA]at g;obtain⟨v,j,t,i,o⟩:=R.Ma z e a g;refine⟨v.grow x.e y.e ei,(d _).mpr (.inl ⟨v,j,rfl⟩),by rw [mF,t],i,?_⟩;rw [mF];rcases nf with h|⟨_,h⟩;.rw [h];exact o
   .rw [h];rw [ip (bz.mp o).1];exact o
  .rw [V]at g;cases g;refine⟨x.grow x.e F.e ei,(d _).mpr (.inl ⟨x,C,rfl⟩),mF,x.kids.length,?_⟩;rcases nf (xe:=x.e) (ye:=F.e) (ei:=ei)with h|⟨_,h⟩;.exfalso;unfold El.grow at h;rw [if_pos rfl]at h;have:=congrArg nN h;simp at this
   .rw [h];simp
 .rw [dt];refine⟨?_,f5 _ _,?_⟩
  .rw [gQ];refine Vo (λ{u v}hu j h B=>?_) R.ord;rw [mF]at B;rcases gk v j _ B with G|G;.exact h G
   .exact U (G▸aK hu)
  .intro u _ v j;rw [ay]at j;subst j;rw [S];exact ax
 .intro m f;rcases(d m).mp f with⟨z,e,rfl⟩|rfl
  .rw [mF];intro B;rcases gk z e _ B with G|G;.exact R.self z e G
   .exact U (G▸aK e)
  .rw [S];exact ax
 .rw [aU,fG];have:(λ z:El=>z.e)∘El.grow x.e y.e ei=λ z=>z.e:=by funext z;exact mF
  rw [this,bH];refine⟨R.es,by simp,λ a H b M=>?_⟩;simp at M;subst M;rintro rfl;exact U H
 .rw [aU,fG];have:(λ z:El=>z.tag)∘El.grow x.e y.e ei=λ z=>z.tag:=by funext z;exact mG
  rw [this,bH];refine⟨R.tags,by simp,λ a H b M=>?_⟩;simp at M;subst M;rintro rfl;obtain⟨v,j,s⟩:=ba.mp H;have s:v.tag=y.tag:=s
  induction g:v.above with
   |none=>
    have:=R.VL v j g;rw [s,Q]at this;have:=congrArg Str.length this;rw [kU]at this;have hx1:0<x.tag.length:=by induction N:x.above with|none=>rw [R.VL x C N];decide|some a=>obtain⟨p,O,t,i,o⟩:=R.Ma x C a N;obtain⟨q,hq,D,h4,_⟩:=R.i4 p O i _ o;rw [<-jG R.es hq C D,h4,kU];exact li 0x111031003 [p.tag.length] rfl
    have t:Ed.length=1:=rfl;exact li 0x2110411113001112411031111 [x.tag.length,Ed.length] rfl this hx1 t
   |some a=>obtain⟨p,O,t,i,o⟩:=R.Ma v j a g;obtain⟨q,hq,D,h4,_⟩:=R.i4 p O i _ o;have:=jG R.es hq j D;subst this;rw [h4,Q]at s;have P:=(bz.mp o).1;have hpl:=(R.ok p O).2.2;obtain⟨h5,h6⟩:=A3 (li 0x9104303511115411109103111 [k,i,p.kids.length] rfl T P hpl) (ai I.2 T) s;have:=jG R.tags O C h5;subst this;exact li 0x234111143111 [i,p.kids.length] rfl P h6.symm
noncomputable def vb(x:El):ae×dR:=(x.bT,lO (refsOf x.kids) x.ei)
noncomputable def zM(k0 k1:ae)(x:El):Cells:=[(x.ad,ft x.j2 x.l7),(x.e,fO (gJ (.ref k0) [] .none) (ab x.dk)),(x.dk,B2 x),(x.bm,nV "builtin_function_or_method" (x3 x.bT)),(x.it,fO (r_ (.ref k1) (mw x.cs x.ca) (.ref x.ct)) az),(x.cs,iF (ab (.ref x.sg))),(x.ca,iF (ab (.ref x.ad))),(x.sg,lO x.mq x.es)]
noncomputable def nsF:Bool->List aR|ah=>x_|af=>Md
noncomputable def Hf(L rw k0 k1:ae)(f:Bool)(c:List aa)(h:Ht)(i:Nat)(a:List El)(D:Cells):Cells:=(L,Hc (nsF f) c h)::(rw,lO (refsOf (a.map (·.e))) i)::(100,j_ (eE k0 k1))::(a.map vb++(a.flatMap (zM k0 k1)++D))
section
variable{α:Type}{g S I d Y1 yi Y2 E P Q X D:List α}
theorem IV:((g++E)++(S++((P++(I++Q))++(X++D)))).Perm ((S++I)++((P++Q)++((X++D)++(g++E)))):=by classical exact jZ.mpr λ p=>by simp only [k5];ac_rfl
theorem Ef:((S++(I++(d++(Y1++(yi++Y2)))))++((P++Q)++((X++D)++(g++E)))).Perm (E++(S++((P++(I++(Q++yi)))++((X++(Y1++Y2))++(d++(g++D)))))):=by classical exact jZ.mpr λ p=>by simp only [k5];ac_rfl
end
theorem sq{xe ye:ae}{ei:Nat}{z:El}(h:z.e≠xe):z.grow xe ye ei=z:=by unfold El.grow;rw [if_neg h]
theorem A4{x:El}{ye:ae}:x.grow x.e ye ei={x with kids:=x.kids++[ye],ei:=ei}:=by unfold El.grow;rw [if_pos rfl]
theorem Eg{x:El}:∀{c a:List El},((c++x::a).map (·.e)).Nodup->(c++x::a).map (El.grow x.e ye ei)=c++{x with kids:=x.kids++[ye],ei:=ei}::a:=by
 intro c
 induction c with
  |nil=>
   intro a h;rw [m3,bu,bM]at h;rw [m3,m3,bu,A4];congr 1;conv=>rhs;rw [<-Vq a]
   refine eZ λ z f=>sq λ e=>h.1 (e▸aK f)
  |cons p c i=>intro a h;rw [fZ,bu,bM]at h;rw [fZ,fZ,bu,i h.2,sq];intro e;exact h.1 (by rw [e];exact aK (aq _ (.head _)))
theorem Eh(k0 k1:ae):∀a:List El,e6 (a.map (·.e)) ((a.flatMap (zM k0 k1)).map (·.1)):=by intro a;induction a with|nil=>exact ni _|cons x a c=>rw [List.flatMap_cons,aU,bu];exact We _ (Wf _ ((c).trans (dQ _ _)))
theorem yd:cy (hZ odd W t u) ou≠az:=by induction odd<;>simp [hZ,cy]
theorem nZ.num(h:nZ w odd W (ft es ep)):uV w es ep ou 0 W/\cy (ents es) ou≠az:=h.elim λ t h=>h.elim λ u h=>⟨zI h,h.ents.symm▸yd⟩
noncomputable def El.Ei(y z:El)(h:Ht)(es ei:Nat):El:={y with above:=ab z.e,more:=[⟨h.h 8,.str jg (h.t 8),.ref z.e⟩],h:=h,es:=es,ei:=ei}
theorem IW(c:g0 W (eo z.tag z.kids.length) y)(i:0<=W/\W<68719476736)(f:nZ w odd W (ft y.j2 y.l7))(j:z.tag.length<=19)(k:¬y.ad=1):mz w (y.Ei z h es ei)where
 num:=c.n▸f.num.1
 has:=f.num.2
 n0:=c.n▸i
 sg:=by show bl y.mq ((oct y.n (lR y.tag)).map eQ);rw [c.n,c.tag];exact c.sg
 tl:=by show y.tail=nH y.n (lR y.tag);rw [c.n,c.tag];exact c.tl
 most:=by show y.most=decide (lR y.tag=1);rw [c.tag];exact c.most
 tg:=by show y.tag.length<=20;rw [c.tag,kU];exact bW j
 kd:=by show y.kids.length<=10;rw [c.kids];exact bJ _
 Xd:=k
 Ma:=λ a h=>by cases h;exact⟨_,_,rfl⟩
theorem IX:∃a x pos,IK=.Tuple a x pos:=⟨[xE IK 0,xE IK 1],0,aY IK,by kernel_rfl⟩
theorem kW(l:List ae):(refsOf l).length=l.length:=aM ..
theorem wJ(l m:List ae):refsOf (l++m)=refsOf l++refsOf m:=aU ..
noncomputable def mkH(h:Ht)(a ei:Nat):Hs|0=>h|1=>{h with e:=a}|_=>{h with e:=ei}
theorem IY{L rw k0 k1 g d en it:ae}{j:List aa}{h:Ht}{k:Nat}{c a:List El}{z y:El}{D:Cells}{m n o p:dR}{i:Ht}{es ei f:Nat}(q:y.kids=[])(r:((c++z::a).map (·.e)).Nodup):(([(L,Hc Md j h),(rw,lO (snoc (refsOf ((c++z::a).map (·.e))) (.ref y.e)) k),(100,j_ (eE k0 k1)),(z.bT,lO (snoc (refsOf z.kids) (.ref y.e)) f),(d,n),(y.ad,ft y.j2 y.l7),(y.e,fO (gJ (.ref k0) [] .none) (ab y.dk)),(y.dk,dN D_ (snoc (f7 y) (.ref z.e)) i),(y.bT,lO [] ei),(y.bm,nV "builtin_function_or_method" (x3 y.bT)),(y.it,fO (r_ (.ref k1) (mw y.cs y.ca) (.ref y.ct)) az),(y.cs,iF (ab (.ref y.sg))),(y.ca,iF (ab (.ref y.ad))),(y.sg,lO y.mq es)]:Cells)++((c.map vb++a.map vb)++(((c++z::a).flatMap (zM k0 k1)++D)++[(g,m),(en,o),(it,p)]))).Perm ([(en,o),(it,p)]++Hf L rw k0 k1 af j h k ((c++z::a).map (El.grow z.e y.e f)++[y.Ei z i es ei]) ((d,n)::(g,m)::D)):=by
 have s:((c++{z with kids:=z.kids++[y.e],ei:=f}::a)++[y.Ei z i es ei]).map vb=c.map vb++([(z.bT,lO (snoc (refsOf z.kids) (.ref y.e)) f)]++(a.map vb++[(y.bT,lO [] ei)])):=by rw [aU,aU,bb];show _++((z.bT,lO (refsOf (z.kids++[y.e])) f)::_++[(y.bT,lO (refsOf y.kids) ei)])=_;rw [wJ,q];rfl
 have t:((c++{z with kids:=z.kids++[y.e],ei:=f}::a)++[y.Ei z i es ei]).flatMap (zM k0 k1)=(c++z::a).flatMap (zM k0 k1)++([(y.ad,ft y.j2 y.l7),(y.e,fO (gJ (.ref k0) [] .none) (ab y.dk)),(y.dk,dN D_ (snoc (f7 y) (.ref z.e)) i)]++[(y.bm,nV "builtin_function_or_method" (x3 y.bT)),(y.it,fO (r_ (.ref k1) (mw y.cs y.ca) (.ref y.ct)) az),(y.cs,iF (ab (.ref y.sg))),(y.ca,iF (ab (.ref y.ad))),(y.sg,lO y.mq es)]):=by rw [oy,oy,oy];rfl
 have u:refsOf (((c++{z with kids:=z.kids++[y.e],ei:=f}::a)++[y.Ei z i es ei]).map (·.e))=snoc (refsOf ((c++z::a).map (·.e))) (.ref y.e):=by rw [aU,wJ,aU,aU];rfl
 rw [Eg r];unfold Hf;rw [s,t,u];exact Ef (S:=[_,_,_]) (I:=[_]) (d:=[_]) (Y1:=[_,_,_]) (yi:=[_]) (Y2:=[_,_,_,_,_]) (g:=[_])
structure mH(b:Bs)(D:Cells)(L en it l rw cl j5:ae)(nums xs:List aa)(e7:Int)(tM:aX)(oT:dR)(kp:ae×dR):Prop where
 l:∃ep,(l,lO nums ep)∈D
 cl:∃ep,(cl,lO xs ep)∈D
 tb:(j5,oT)∈D
 kc:kp∈D
 xl:xs.length<=100
 e7:bE xs 10=ab (.int e7 tM)
 gt:nZ b.w ah 0 oT
 nl:nums.length=10
 num:∀i,i<10->∃n t,bE nums i=ab (.int n t)
theorem mH.more{b:Bs}{D:Cells}{L en it l rw cl j5:ae}{nums xs:List aa}{e7:Int}{tM:aX}{oT:dR}{kp:ae×dR}(h:mH b D L en it l rw cl j5 nums xs e7 tM oT kp)(p q:ae×dR):mH b (p::q::D) L en it l rw cl j5 nums xs e7 tM oT kp:={h with l:=h.l.elim λ e h=>⟨e,.tail _ (.tail _ h)⟩,cl:=h.cl.elim λ e h=>⟨e,.tail _ (.tail _ h)⟩,tb:=.tail _ (.tail _ h.tb),kc:=.tail _ (.tail _ h.kc)}
section
variable{b:Bs}(G:Good b){e:Ev}{s0:aD}{C0:Cells}{R:dq->aD->Prop}{L en it l rw cl j5 k0 k1:ae}{nums xs:List aa}{e7:Int}{tM:aX}{oT:dR}{kp:ae×dR}(hd:e.dp+300<900)(hu:e.un+100<9900)
include G hd hu
theorem A5{k:Nat}(N:k<=9){s:aD}(f:Bool){dv:List aa}{h:Ht}{er:Nat}{o:List El}{D:Cells}{g:ae}{c:Int}{tk F:aX}{Y:Nat}{H:Hs}{w:aa}{i:Int}(O:mH b D L en it l rw cl j5 nums xs e7 tM oT kp)(hf:Rn [.ref cl,.bool ah,.ref j5,.ref rw] f dv)(hr:nJ b.w k o)(a:At b s0 C0 s (((g,tO [.int k tk,.int c F] Y)::d' H nY [(en,.fr [.none,.bool af,.ref it,.int i 0,.none,w]),(it,.it l i)])++Hf L rw k0 k1 f dv h er o D)){Q:BR->aD->Prop}(hq:∀s' Xi h' er' C D',Rn [.ref cl,.bool ah,.ref j5,.ref rw] af Xi->nJ b.w (k+1) C->mH b D' L en it l rw cl j5 nums xs e7 tM oT kp->At b s0 C0 s' (d' H nY [(en,.fr [.none,.bool af,.ref it,.int i 0,.none,w]),(it,.it l i)]++Hf L rw k0 k1 af Xi h' er' C D')->Q .next s'):a_ (aW b.prog b.w) e.ar (ko L en) (cG (iC IK (i0 L) (.ref g)) λ zz=>dU B3 (i0 L)) Q lz s:=by
 have hm0:0<=c.fmod ((k:Int)+1):=eb _ (li 0x1110351004 [k] rfl);have hm1:(c.fmod ((k:Int)+1)).toNat<o.length:=by have:=gv c (b:=(k:Int)+1) (li 0x1110351004 [k] rfl);rw [hr.len];lia
 obtain⟨z,hz⟩:∃z,o[(c.fmod ((k:Int)+1)).toNat]?=ab z:=⟨_,aJ hm1⟩;have A:=aB hz;have hpa:bE (refsOf (o.map (·.e))) (c.fmod ((k:Int)+1)).toNat=ab (.ref z.e):=by rw [dH];unfold refsOf;rw [fG,d9,hz];rfl
 obtain⟨hzo,ZE,hzk⟩:=hr.ok z A;have T:TurnOk z (refsOf (o.map (·.e))) xs k c e7 tM:=⟨by exact⟨li 0x35004 [k] rfl,li 0x91035409103111 [k] rfl N⟩,hpa,by rw [kW,aM,hr.len];exact li 0xb1011031309103111 [k] rfl N,O.xl,O.e7,by exact ai hzk N,by exact li 0x1e2043011031411109103111 [k,z.tag.length] rfl N ZE⟩;obtain⟨n,m,rfl⟩:=Cd A
 obtain⟨B,ho⟩:∃B:Bool,HY B (Z.modQ c 2=1):=by
  by_cases ho:Z.modQ c 2=1;.exact⟨ah,ho⟩
  .exact⟨af,ho⟩
 obtain⟨ecl,Xj⟩:=O.cl;have a:=a.perm (C':=d' (mkH h er z.ei) (Xg f) [(L,.fr dv),(rw,.ls (refsOf ((n++z::m).map (·.e)))),(100,.fr (eE k0 k1)),(z.bT,.ls (refsOf z.kids))]++((n.map vb++m.map vb)++(((n++z::m).flatMap (zM k0 k1)++D)++[(g,tO [.int k tk,.int c F] Y),(en,DC it i w),(it,nU l i)]))) (by have hI:(n++z::m).map vb=n.map vb++([vb z]++m.map vb):=aU ..;unfold Hf;rw [hI];induction f<;>exact IV (g:=[_]) (E:=[_,_]) (S:=[_,_,_]) (I:=[_]));have hX:∀p∈zM k0 k1 z,p∈(n.map vb++m.map vb)++(((n++z::m).flatMap (zM k0 k1)++D)++[(g,tO [.int k tk,.int c F] Y),(en,DC it i w),(it,nU l i)]):=λ p hp=>aq _ (aI _ (aI _ (lW.mpr ⟨z,A,hp⟩)));have ZF:∀p∈D,p∈(n.map vb++m.map vb)++(((n++z::m).flatMap (zM k0 k1)++D)++[(g,tO [.int k tk,.int c F] Y),(en,DC it i w),(it,nU l i)]):=λ p hp=>aq _ (aI _ (aq _ hp));refine Do.take (f:=id) (ks':=Lean.k1 Oy) (K:=λ zz r J tl=>∃(y:El)(U tg:aX)(d:ae)(q:Array aj)(t:Nat),g0 (cU c (k+1) e7) (eo z.tag (refsOf z.kids).length) y/\nZ b.w B (cU c (k+1) e7) (ft y.j2 y.l7)/\r=.ok .next/\tl=[]/\J=Oo L rw cl j5 d k0 k1 z y k c (cU c (k+1) e7) tk F U tg (eo z.tag (refsOf z.kids).length) q t (snoc (refsOf ((n++z::m).map (·.e))) (.ref y.e)) (snoc (f7 y) (.ref z.e))) G a (λ b' G' X v=>?_) (λ j u J tl M s' hK a'=>?_) λ j x J tl M s' hK a'=>?_;.exact IS G' f B hf T hd hu (v _ (aq _ (aq _ (.head _)))).1 (v _ (ZF _ Xj)).1 (v _ (ZF _ O.tb)) (X.w.symm▸O.gt) (v _ (hX _ (b7 1 rfl))) (v _ (hX _ (b7 2 rfl))) (v _ (hX _ (b7 3 rfl))) ho λ y U tg d q t h1 h2=>⟨y,U,tg,d,q,t,h1,X.w▸h2,rfl,rfl,rfl⟩
 .obtain⟨y,U,tg,d,q,t,V,hg,e1,rfl,rfl⟩:=hK;have e1:u=.next:=cA e1;subst e1;rw [kW]at V;rw [aA]at a';have hn:y.e∉(n++z::m).map (·.e):=λ W7=>by have nd:=a'.R.nd;rw [aU,bH]at nd;obtain⟨p,hp,e⟩:=ba.mp ((Eh k0 k1 _).subset W7);exact nd.2.2 y.e (ba.mpr ⟨(y.e,fO (gJ (.ref k0) [] .none) (ab y.dk)),b7 6 rfl,rfl⟩) y.e (ba.mpr ⟨p,aq _ (aI _ (aI _ hp)),e⟩) rfl
  refine hq s' _ (M 0) (M 1).e _ _ ⟨.int k tk,.int c F,.int (cU c (k+1) e7) U,.ref z.e,.str (eo z.tag (refsOf z.kids).length) tg,.ref y.e,.ref d,rfl⟩ (hr.add (ei:=(M 3).e) N A (IW (h:=M 7) (es:=(M 13).e) (ei:=(M 8).e) V (mC _ _ _) hg (li 0x132043011031411109103111 [k,z.tag.length] rfl N ZE) (G.oH a'.R (p:=(y.ad,ft y.j2 y.l7)) (aI _ (b7 5 rfl)))) hn V.tag rfl V.kids) (O.more (d,ft q t) (g,tO [.int k tk,.int c F] Y)) ?_;exact a'.perm (IY V.kids hr.es)
 .obtain⟨y,U,tg,d,q,t,V,hg,e1,_⟩:=hK;exact(by injection e1)
theorem A6:∀(m k:Nat),k+m=10->∀{s:aD}(f:Bool){u:List aa}{h:Ht}{w:Nat}{i:List El}{D:Cells}{H:Hs}{n:aa},(mH b D L en it l rw cl j5 nums xs e7 tM oT kp)->(0<k->f=af)->Rn [.ref cl,.bool ah,.ref j5,.ref rw] f u->nJ b.w k i->At b s0 C0 s (d' H nY [(en,.fr [.none,.bool af,.ref it,.int k 0,.none,n]),(it,.it l k)]++Hf L rw k0 k1 f u h w i D)->(∀v o J q c x,Rn [.ref cl,.bool ah,.ref j5,.ref rw] af o->nJ b.w 10 c->mH b x L en it l rw cl j5 nums xs e7 tM oT kp->At b s0 C0 v (Hf L rw k0 k1 af o J q c x)->R (.ok .next) v)->bx (aW b.prog b.w) e.ar (ko L en) R s:=by intro m;induction m with|zero=>intro k j s f u h w i D H n O r y z a A;have j:k=10:=j;subst j;cases r (by decide);obtain⟨ep,B⟩:=O.l;exact A1 G a ⟨ep,.tail _ (.tail _ (.tail _ (aq _ (aq _ B))))⟩ ⟨by decide,by rw [dH];exact cY (cR O.nl)⟩ λ v K=>A v _ _ _ _ _ y z O K|succ m M=>intro k j s f u h w i D H n O r y z a A;obtain⟨ep,B⟩:=O.l;obtain⟨N,Z,T⟩:=O.num k (li 0x1a10332a101104131111 [k,m] rfl j);refine DJ G IX a ⟨ep,.tail _ (.tail _ (.tail _ (aq _ (aq _ B))))⟩ ⟨aS _,by rw [bq];exact T⟩ λ g t s1 p U=>?_;exact A5 G hd hu (li 0x910332a101104131111 [k,m] rfl j) f O y z U λ s2 o J q c x C F V Y=>M (k+1) (a7 (li 0xa10411031132a101104131111 [k,m] rfl j) (li 0x4110311a10321104131a10111 [k,m] rfl j.symm)) af V (λ zz=>rfl) C F Y A
end
noncomputable def eN(p:Cp):aT:=.func (aP 17) (i0 p.L)
noncomputable def OB:List Kd:=[.fr [oV],.ls,.tb]
noncomputable def OC:List Kd:=[.fr x_,.ls,.tb,.ls,.dd,.ls,.dd,.fn,.dc tK,.fl "builtin_function_or_method",.fn,.cl,.cl,.ls,.fl "code"]
noncomputable def Me(k0:ae)(x:El)(h:Ht)(j5:ae)(oT:dR):Cells:=[(x.e,fO (gJ (.ref k0) [] .none) (ab x.dk)),(x.dk,dN tK (f7 x) h),(x.bm,nV "builtin_function_or_method" (x3 x.bT)),(j5,oT)]
theorem IZ(k0:ae)(x:El)(h:Ht)(j5:ae)(oT:dR):Xe (Oi b (Me k0 x h j5 oT)) x.e x.bT:=⟨k0,{x with more:=[],h:=h},rfl,rfl,.inl (.head _),.inl (.tail _ (.head _)),.inl (.tail _ (.tail _ (.head _)))⟩
theorem I0(k0:ae)(x:El)(h:Ht)(j5:ae)(u t a t':aX)(p c:Nat):Mb b.w (Oi b (Me k0 x h j5 (ft (yb b.w 0 u t a t') c))) ah 0 j5 (dO [] p):=⟨_,_,[],t,t',.inl (.tail _ (.tail _ (.tail _ (.head _)))),Ea (by decide),sk,(by decide:2+0<=1000),rfl⟩
theorem S5{w:cP}{p:Nat}:uV w #[] p ou 0 0:=⟨sk,rfl⟩
theorem OD:(0:Int)<=0/\(0:Int)<68719476736:=⟨by decide,by decide⟩
section
variable{b:Bs}(G:Good b)
include G
theorem OE{e:Ev}{K:Kv}{m:Nat->List Kd}(i:e.dp+300<900)(o:∀k0 k1 rw j5 d(x:El)f g,g0 0 Ed x->nZ b.w ah 0 (ft x.j2 x.l7)->bZ d->nZ b.w ah 0 (ft f g)->K 0 (.ok .next) [(L,.fr [.ref cl,.bool ah,.ref j5,.ref rw]),(cl,.ls xs),(100,.fr (eE k0 k1)),(rw,.ls [.ref x.e]),(j5,.dd f g),(x.bT,.ls []),(x.ad,.dd x.j2 x.l7),(x.e,.fn (gJ (.ref k0) [] .none) (ab x.dk)),(x.dk,.fr (f7 x)),(x.bm,.fr (x3 x.bT)),(x.it,.fn (r_ (.ref k1) (mw x.cs x.ca) (.ref x.ct)) az),(x.cs,.cl (ab (.ref x.sg))),(x.ca,.cl (ab (.ref x.ad))),(x.sg,.ls x.mq),(k1,.fr d)] []):DS b e (eN ⟨L,0,0,0,0,0,0⟩) (cj 2 (aP 17)) (i0 L) OB [(L,.fr [.ref cl]),(cl,.ls xs),(100,.fr [])] (kM OC m) K:=DS.run G [] [⟨_,N9 G 0⟩,⟨_,Oj G [1,2,3,13] ah 0⟩] (oo 0x15fcba9865471af121cf1bf10f11bf36f7321514121212121112122f193131116c6c21242212121242212121242212122121222212211212211 []) λ n=>c6 (E [100,n.1 5,L,n.1 4,n.1 2,n.1 1,n.1 0] 0x166666666555544444544444454444445443222210) (fj i:e.dp+1+100<900) (by decide:4<=1000) (@S5 b.w 0) (OD) (λ(k0:ae)(k1:ae)(d:List aa)(x:El)(h:g0 0 (fb (bY [98,111,111,107])) x)(p:x.ad=n.ad 5)(j:bZ d)(c:Nw)=>SO (jf i:e.dp+1<1000) (E [c.1 1,c.1 0,100,x.3,L] 0x14000000003210) (@rfl aT (pV (Cp.mk (c.1 1) (c.1 1) 0 0 0 0 0))) (fj i:e.dp+1+200<900) (@rfl aa (ak 97 0)) (@rfl aa (ak 10 0)) (@rfl aa (ak 105 0)) (@rfl aa (ak 19 0)) (by decide:1<=900) (by decide:0<=1000) (OD) (IZ (b:=b) k0 x (c.hs 3) (n.ad 0) (ft (yb b.w 0 (n.tk 0) (n.tk 1) (n.tk 2) (n.tk 3)) 2)) (I0 (b:=b) k0 x (c.hs 3) (n.ad 0) (n.tk 0) (n.tk 1) (n.tk 2) (n.tk 3) 0 2) (λ(a:El)(k:g0 0 (fb (bY [101])) a)(l:nZ b.w ah 0 (ft a.j2 a.l7))(q:Nw)=>c2 (E [L] 0x100) (o k0 k1 (q.ad 0) (n.ad 0) d a (yb b.w 0 (n.tk 0) (n.tk 1) (n.tk 2) (n.tk 3)) 2 k l j rD)))
omit G in theorem I1(h:n<=1048576):¬(az:Option Int)=ab 0/\n<=1048576:=⟨(λ h=>(by injection h)),h⟩
noncomputable def ZG:bO:=sE (bE (aP 17) 2) 1
theorem I2{e:Ev}{K:Kv}{L cl:ae}(d:xs.length<=1048576)(f:∀c it l,K 0 (.ok (.ret (.ref c))) [(c,.fr [.none,.bool af,.ref it,.int 0 0,.none,.none]),(it,.it l 0),(l,.ls (fe xs az (ab 10) az)),(L,.fr [.ref cl,v1,v2,v3]),(cl,.ls xs)] []):DE b e (eN ⟨L,0,0,0,0,0,0⟩) ZG (i0 L) [.fr x_,.ls] [(L,.fr [.ref cl,v1,v2,v3]),(cl,.ls xs)] (Lean.k1 [.fl "enumerate",.it,.ls,.fr x_,.ls]) K:=DE.run G [] [pO,DD] (oo 0x2416561a1a1aa42141111331361666211 []) λ n=>c3 (E [cl,n.1 0,L] 0x12000010) (I1 d) (λ(a:ae)(g:Nw)=>c3 (E [a] 0x10) (@rfl String ("enumerate")) (λ(it:ae)(c:ae)(i:Nw)=>c2 (E [c] 0x10000) (f c it a)))
end
noncomputable def S6:bO:=sE (bE (aP 17) 3) 0
noncomputable def vN(i:Nat):bO:=xE (xE S6 1) i
section
variable{b:Bs}(G:Good b){e:Ev}{L rw cl j5 k0:ae}{g1 g2 g3 g4 g5 g6 g7:aa}{h:Ht}(hF:bN b L (Hc Md [.ref cl,.bool ah,.ref j5,.ref rw,g1,g2,g3,g4,g5,g6,g7] h))
include G hF
theorem OF:DE b e (eN ⟨L,0,0,0,0,0,0⟩) (xE S6 0) (i0 L) [] [] (k1 []) (eM (.ref rw) []):=DE.run G [⟨_,_,hF⟩] [] (oo 0x113 []) λ n=>c2 (E [L] 0x10) (iG (.ref rw) [])
theorem OG:DE b e (eN ⟨L,0,0,0,0,0,0⟩) (vN 0) (i0 L) [] [] (k1 []) (eM (.bool ah) []):=DE.run G [⟨_,_,hF⟩] [] (oo 0x113 []) λ n=>c2 (E [L] 0x10) (iG (.bool ah) [])
theorem I3:DE b e (eN ⟨L,0,0,0,0,0,0⟩) (xE (vN 2) 1) (i0 L) [] [] (k1 []) (eM (.ref j5) []):=DE.run G [⟨_,_,hF⟩] [] (oo 0x113 []) λ n=>c2 (E [L] 0x10) (iG (.ref j5) [])
theorem I4{K:Kv}(g:∀d f a c,nZ b.w ah 0 (ft a c)->K 0 (.ok (.ret (.ref f))) [(d,.dd a c),(f,.ls [.ref d,.ref d])] []):DE b e (eN ⟨L,0,0,0,0,0,0⟩) (xE (vN 1) 1) (i0 L) [] [] (k1 [.dd,.ls]) K:=DE.run G [⟨_,_,hF⟩] [] (oo 0x1331212122112212211212211 []) λ n=>c2 (E [n.1 1,n.1 0] 0x11111111100000) (g (n.ad 0) (n.ad 2) (yb b.w 0 (n.tk 0) (n.tk 1) (n.tk 2) (n.tk 3)) 2 rD)
variable{r:El}{rs:List aa}{er:Nat}{oT:dR}(hR:bN b rw (lO rs er))(hr:(0:Int)<=0/\rs.length<=1048576/\bE rs 0=ab (.ref r.e))(p1:bN b r.e (fO (gJ (.ref k0) [] .none) (ab r.dk)))(p2:bN b r.dk (B2 r))
include hR hr p1 p2
theorem I5{K:Kv}(c:∀a,K 0 (.ok (.ret (.ref a))) [(a,.ls [.ref r.ad,.ref j5])] []):DE b e (eN ⟨L,0,0,0,0,0,0⟩) (xE (vN 1) 0) (i0 L) [] [] (k1 [.ls]) K:=DE.run G [⟨_,_,hF⟩,⟨_,_,hR⟩,⟨_,_,p1⟩,⟨_,_,p2⟩] [e8 hR (.ref r.e)] (oo 0x1213197771717113515553 []) λ n=>c4 (E [rw,L] 0x110000) (@rfl ae rw) (hr) (λ(d:Nw)=>c2 (E [L,r.2,r.1] 0x12222210) (c (d.ad 0)))
theorem I6:DE b e (eN ⟨L,0,0,0,0,0,0⟩) (xE (vN 2) 0) (i0 L) [] [] (k1 []) (eM (.ref r.ad) []):=DE.run G [⟨_,_,hF⟩,⟨_,_,hR⟩,⟨_,_,p1⟩,⟨_,_,p2⟩] [e8 hR (.ref r.e)] (oo 0x11197771717113515553 []) λ n=>c4 (E [rw,L] 0x110000) (@rfl ae rw) (hr) (λ(a:Nw)=>c2 (E [r.2,r.1] 0x1111110) (iG (.ref r.ad) []))
theorem OH(a:e.dp+300<900):DE b e (eN ⟨L,0,0,0,0,0,0⟩) (vN 3) (i0 L) [] [] (k1 []) (eM (.bool ah) []):=DE.run G [⟨_,_,hF⟩,⟨_,_,hR⟩,⟨_,_,p1⟩,⟨_,_,p2⟩] [e8 hR (.ref r.e)] (oo 0x1197771717771121111211211135155531 []) λ n=>c4 (E [rw,L] 0x110000) (@rfl ae rw) (hr) (λ(c:Nw)=>c3 (jf a:e.dp+1<1000) (E [r.2,r.1,c.1 0] 0x122211111110) (iG (.bool ah) []))
omit p1 p2 in theorem OI(a:e.dp+300<900):DE b e (eN ⟨L,0,0,0,0,0,0⟩) (vN 4) (i0 L) [] [] (k1 []) (eM (.bool ah) []):=DE.run G [⟨_,_,hF⟩,⟨_,_,hR⟩] [] (oo 0x112212222555515155511211112112131 []) λ n=>c3 (jf a:e.dp+1<1000) (E [n.1 2,rw,n.1 0,L] 0x13222111111110000000) (iG (.bool ah) [])
omit hR hr p1 p2 in theorem OJ(a:bN b j5 (ft te Xk))(c:e.dp+300<900):DE b e (eN ⟨L,0,0,0,0,0,0⟩) (vN 5) (i0 L) [] [] (k1 []) (eM (.bool ah) []):=DE.run G [⟨_,_,hF⟩,⟨_,_,a⟩] [] (oo 0x112212222555515155511211112112131 []) λ n=>c3 (jf c:e.dp+1<1000) (E [n.1 2,j5,n.1 0,L] 0x13222111111110000000) (iG (.bool ah) [])
end
theorem DS.I7{b:Bs}{e:Ev}{c:aT}{x y:bO}{m:Nat}{p p2:Aw}{env:fJ}{u v:aa}{K:Kv}(f:PySem.backTo p (starEach [x,y] env)=[(af,dh x env),(af,dh y env)])(j:DE b e c x env [] [] (k1 []) (eM u []))(k:DE b e c y env [] [] (k1 []) (eM v []))(l:∀a,K 0 (.ok (.ret (.ref a))) [(a,.ls [u,v])] []):DS b e c [.Return (ab (.Tuple [x,y] m p)) p2] env [] [] (k1 [.tp]) K:=λ H s0 C0 s a=>by rw [gP,exec_Return_some];show a_ _ _ _ ((eR _>>=λ d=>dh (.Tuple _ _ _) _>>=λ v=>pure (nO v))>>=_) _ _ _;refine au (au (bU (bI (au ?_))));show a_ _ _ _ (eR _>>=λ d=>qR (PySem.backTo _ (starEach _ _))>>=Li) _ _ _;refine au (bU (bI ?_));rw [f];refine Dy (j.then a λ o q n=>k.then n λ t g i=>bG (bG ?_));exact⟨0,[(g.heap.objs.size,.ls [u,v])],[],λ d=>⟨λ d=>0,λ d=>0,0⟩,l _,i.to (Trans.eA i.R (Trans.new rfl g.toks))⟩
theorem Ej:aC 3 (aP 17)=[.Return (ab (.Tuple [xE S6 0,.BoolOp .And [vN 0,.Compare (xE (vN 1) 0) [.Eq] [xE (vN 1) 1] (aY (vN 1)),.Compare (xE (vN 2) 0) [.IsNot] [xE (vN 2) 1] (aY (vN 2)),vN 3,vN 4,vN 5] (aY (xE S6 1))] 0 (aY S6))) (kP (bE (aP 17) 3))]:=by kernel_rfl
section
variable{b:Bs}(G:Good b){e:Ev}{L rw cl j5 k0:ae}{g1 g2 g3 g4 g5 g6 g7:aa}{h:Ht}{r:El}{rs:List aa}{er:Nat}{te:Array aj}{Xk:Nat}
include G
theorem I8{K:Kv}(hF:iN b L (Hc Md [.ref cl,.bool ah,.ref j5,.ref rw,g1,g2,g3,g4,g5,g6,g7] h))(hR:iN b rw (lO rs er))(hr:(0:Int)<=0/\rs.length<=1048576/\bE rs 0=ab (.ref r.e))(p1:iN b r.e (fO (gJ (.ref k0) [] .none) (ab r.dk)))(p2:iN b r.dk (B2 r))(k:iN b r.ad (ft r.j2 r.l7))(g:iN b j5 (ft te Xk))(J:nZ b.w ah 0 (ft r.j2 r.l7))(M:nZ b.w ah 0 (ft te Xk))(p:¬r.ad=j5)(w:e.dp+300<900)(N:e.un+100<9900)(O:∀a,K 0 (.ok (.ret (.ref a))) [(a,.ls [.ref rw,.bool ah])] []):DS b e (eN ⟨L,0,0,0,0,0,0⟩) (aC 3 (aP 17)) (i0 L) [] [] (Lean.k1 [.tp]) K:=by
 refine DS.text Ej (DS.I7 (by kernel_rfl) (OF G hF.1) (DE.and ⟨OG G hF.1,λ H s0 C0 s a=>?_,DE.cmp (by kernel_rfl) (I6 G hF.1 hR.1 hr p1.1 p2.1) (I3 G hF.1) λ R P=>Dx p (R.jq _ _ k.1.1 k.1.2) (R.jq _ _ g.1.1 g.1.2) rfl (by decide) P,OH G hF.1 hR.1 hr p1.1 p2.1 w,OI G hF.1 hR.1 hr w,OJ G hF.1 g.1 w,trivial⟩) O);refine uX (by kernel_rfl) ((I5 (K:=iS λ Q v vs=>∃l,v=.ref l/\vs=[(l,.ls [.ref r.ad,.ref j5])]) G hF.1 hR.1 hr p1.1 p2.1 λ l=>⟨_,rfl,rfl,l,rfl,rfl⟩).val a λ j v y S Z z A=>?_);obtain⟨l,rfl,rfl⟩:=z;have T:=At.start (A.R.sub (cH _));refine DE.val (H:=S) (I4 (K:=iS λ Q v vs=>∃d i c f,nZ b.w ah 0 (ft c f)/\v=.ref i/\vs=[(d,.dd c f),(i,.ls [.ref d,.ref d])]) G hF.1 λ d i c f B=>⟨_,rfl,rfl,d,i,c,f,B,rfl,rfl⟩) T λ j v y D s2 z F=>?_;obtain⟨d,i,c,f,B,rfl,rfl⟩:=z;have m:=A.to (Trans.eA (C:=[]) A.R F.T);obtain⟨t1,u1,U⟩:=J;obtain⟨t2,u2,V⟩:=M;obtain⟨t,u,X⟩:=B;have R:=m.R
 have n:∀{x:ae}{o:dR},iN b x o->x≠d:=λ I q=>by
  have Y:(d,ft c f)∈d' D [.dd,.ls] [(d,.dd c f),(i,.ls [.ref d,.ref d])]:=.head _;rcases F.R.off _ Y with h|h;.exact I.1.2 (q▸h)
  .have:=I.1.1;rw [q,h]at this;cases this
 exact D6 G.prog (m.R.own (l,_) (b7 2 rfl)) (m.R.own (i,_) (b7 1 rfl)) (R.jq _ _ k.1.1 k.1.2) (R.jq _ _ g.1.1 g.1.2) (m.R.own (d,_) (b7 0 rfl)) k.2 g.2 (G.oH m.R (b7 0 rfl)) (n k) (n g) (by have:=(cu (by kernel_rfl):(eN ⟨L,0,0,0,0,0,0⟩).cUnits<=20);show e.un+(eN ⟨L,0,0,0,0,0,0⟩).cUnits+10<9900;exact li 0x126ac40a1043113014204111126ac40642031111 [e.2,(eN {L:=L,F:=0,it:=0,acc:=0,c0:=0,c1:=0,c2:=0}).cUnits] rfl N this) U V X mE mE ⟨0,[],[],D,.mk,m.sub (cH _)⟩
end
noncomputable def Ev.in(e:Ev)(c:aT):Ev:=⟨e.dp+c.weight,e.un+c.cUnits,Y5 c.envs e.rT,pushGuards c.guards e.gd⟩
theorem Ev.S7(e:Ev)(c:aT):(e.in c).ar=e.ar.under c:=rfl
noncomputable def El.root(x:El)(h:Ht)(es ei:Nat):El:={x with above:=az,more:=[],kids:=[],h:=h,es:=es,ei:=ei}
theorem I9(d:g0 0 Ed x)(g:nZ w ah 0 (ft x.j2 x.l7))(k:¬x.ad=1):nJ w 0 [x.root h es ei]:=by have c:∀{P:El->Prop},P (x.root h es ei)->∀z∈[x.root h es ei],P z:=λ h z l=>ay.mp l▸h;have f:x.tag=Ed:=d.tag;have j:x.tag.length=1:=f▸rfl;have ok:mz w (x.root h es ei):=⟨d.n▸g.num.1,g.num.2,d.n▸OD,by show bl x.mq ((oct x.n (lR x.tag)).map eQ);rw [d.n,f];exact d.sg,by show x.tail=nH x.n (lR x.tag);rw [d.n,f];exact d.tl,by show x.most=decide (lR x.tag=1);rw [f];exact d.most,by show x.tag.length<=20;rw [j];decide,bJ _,k,λ m h=>(by injection h)⟩;exact⟨rfl,c ⟨ok,cR j,bt _⟩,⟨_,[],rfl,f,rfl,g⟩,c λ m=>f,c λ i a hi=>(by injection hi),c λ a h=>(by injection h),f5 _ _,c ax,by simp,by simp⟩
theorem Ready.ne(R:Ready b s C)(h:e6 [p,q] C):¬p.1=q.1:=λ e=>by have a:=(R.sub h).nd;rw [bu,bM,bu,e]at a;exact a.1 (.head _)
theorem Ek{f:Type}{t r h I X a c d:List f}:(t++(r++(h++(I++(X++(a++(c++d))))))).Perm ((t++(c++h))++(r++(I++(X++(a++d))))):=by classical exact jZ.mpr λ p=>by simp only [k5];ac_rfl
theorem yf{a:Type}{E l L cl h rw tb X kc:List a}:((E++(l++(L++cl)))++(h++(rw++(tb++(X++kc))))).Perm (E++(L++(rw++(h++(X++(l++(cl++(tb++kc)))))))):=by classical exact jZ.mpr λ p=>by simp only [k5];ac_rfl
noncomputable def mJ(xs:List aa):Prop:=xs.length=11/\∀i,i<11->∃n t,bE xs i=ab (.int n t)
noncomputable def oX(w:cP)(rw f k1:ae)(D:Cells):Prop:=∃a g c,nJ w 10 a/\(∃d,bZ d/\(k1,hU d)∈c)/\D=(rw,lO (refsOf (a.map (·.e))) g)::(a.map vb++(a.flatMap (zM f k1)++c))
noncomputable def cGm(b:Bs)(p:Cp)(cl:ae)(xs:List aa):Ct:=⟨[p.L,cl,100],λ d u c=>[d+310<900,u+120<9900,mJ xs],λ K=>∀t rw a k1 D,oX b.w rw a k1 D->K 0 (.ok (.ret (.ref t))) [(t,.ls [.ref rw,.bool ah]),(cl,.ls xs),(100,.fr (eE a k1))] D⟩
noncomputable def Xl(b:Bs):Sp:=gb (.of fo eN) [.fr [.re],.ls,.fr []] OB (k1 [.tp,.ls,.tb]) (cGm b)
theorem Em:aC 2 (aP 17)=.For IK ZG B3 [] (kP (bE (aP 17) 2))::aC 3 (aP 17):=by kernel_rfl
theorem I_(h:mJ xs):(fe xs az (ab 10) az).length=10/\∀i,i<10->∃n t,bE (fe xs az (ab 10) az) i=ab (.int n t):=by rw [show fe xs az (ab 10) az=xs.take 10 from oM xs 10];refine⟨by rw [eG,h.1];rfl,λ i hi=>?_⟩;obtain⟨n,t,e⟩:=h.2 i (li 0x1b10331a103111 [i] rfl hi);exact⟨n,t,by rw [dH]at e⊢;rw [List.getElem?_take_of_lt hi,e]⟩
section
variable{b:Bs}(G:Good b){e:Ev}(hd:e.dp+310<900)(hu:e.un+120<9900)
include G hd hu
theorem I'{K:Kv}{L cl rw d g c:ae}{xs y:List aa}{x:El}{i:Array aj}{k:Nat}(F:mJ xs)(hx:g0 0 Ed x)(h1:nZ b.w ah 0 (ft x.j2 x.l7))(hc:bZ y)(h2:nZ b.w ah 0 (ft i k))(hK:∀t rw g k1 D,oX b.w rw g k1 D->K 0 (.ok (.ret (.ref t))) [(t,.ls [.ref rw,.bool ah]),(cl,.ls xs),(100,.fr (eE g k1))] D):DS b e (eN ⟨L,0,0,0,0,0,0⟩) (aC 2 (aP 17)) (i0 L) OC [(L,.fr [.ref cl,.bool ah,.ref d,.ref rw]),(cl,.ls xs),(100,.fr (eE g c)),(rw,.ls [.ref x.e]),(d,.dd i k),(x.bT,.ls []),(x.ad,.dd x.j2 x.l7),(x.e,.fn (gJ (.ref g) [] .none) (ab x.dk)),(x.dk,.fr (f7 x)),(x.bm,.fr (x3 x.bT)),(x.it,.fn (r_ (.ref c) (mw x.cs x.ca) (.ref x.ct)) az),(x.cs,.cl (ab (.ref x.sg))),(x.ca,.cl (ab (.ref x.ad))),(x.sg,.ls x.mq),(c,.fr y)] (k1 [.tp,.ls,.tb]) (l3 K):=DS.text Em λ H s0 C0 s a=>by
 refine ki (DI (λ A=>by kernel_rfl) ?_);have hl:xs.length<=1048576:=by rw [F.1];decide
 obtain⟨nl,C⟩:=I_ F;obtain⟨e7,P,Q⟩:=F.2 10 (by decide);have a:At b s0 C0 s (d' H [.fr x_,.ls] [(L,.fr [.ref cl,.bool ah,.ref d,.ref rw]),(cl,.ls xs)]++([(100,j_ (eE g c))]++([(rw,lO [.ref x.e] (H 3).e)]++([(d,ft i k)]++(vb (x.root (H 8) (H 13).e (H 5).e)::zM g c (x.root (H 8) (H 13).e (H 5).e)++[(c,hU y)]))))):=a;refine Do.take (f:=.ret) (ks':=k1 [.fl "enumerate",.it,.ls,.fr x_,.ls]) (K:=λ A r n tl=>∃v it l,r=.ok (.ret (.ref v))/\tl=[]/\n=[(v,.fr [.none,.bool af,.ref it,.int 0 0,.none,.none]),(it,.it l 0),(l,.ls (fe xs az (ab 10) az)),(L,.fr [.ref cl,.bool ah,.ref d,.ref rw]),(cl,.ls xs)]) G a (λ b' R X I=>I2 R hl λ v it l=>⟨v,it,l,rfl,rfl,rfl⟩) (λ j u n tl z J o M=>?_) λ j u n tl z J o M=>o.elim λ A h=>h.elim λ A h=>h.elim λ A h=>(by injection h.1);obtain⟨v,it,l,e1,rfl,rfl⟩:=o;cases eU (cA e1);rw [aA]at M;have S:At b s0 C0 J (d' z nY [(v,.fr [.none,.bool af,.ref it,.int (0:Nat) 0,.none,.none]),(it,.it l (0:Nat))]++Hf L rw g c ah [.ref cl,.bool ah,.ref d,.ref rw] (z 3) (H 3).e [x.root (H 8) (H 13).e (H 5).e] [(l,lO (fe xs az (ab 10) az) (z 2).e),(cl,lO xs (z 4).e),(d,ft i k),(c,hU y)]):=M.perm (yf (E:=[_,_]) (l:=[_]) (L:=[_]) (cl:=[_]) (h:=[_]) (rw:=[_]) (tb:=[_]) (kc:=[_]));refine wpAny_pyIter_enum (S.R.own (v,DC it 0 .none) (.head _)) ?_;have hw:(eN ⟨L,0,0,0,0,0,0⟩).weight<=5:=cu (by kernel_rfl);have hv:(eN ⟨L,0,0,0,0,0,0⟩).cUnits<=15:=cu (by kernel_rfl);have O:mH b [(l,lO (fe xs az (ab 10) az) (z 2).e),(cl,lO xs (z 4).e),(d,ft i k),(c,hU y)] L v it l rw cl d (fe xs az (ab 10) az) xs e7 P (ft i k) (c,hU y):=⟨⟨_,.head _⟩,⟨_,.tail _ (.head _)⟩,.tail _ (.tail _ (.head _)),.tail _ (.tail _ (.tail _ (.head _))),by rw [F.1];decide,Q,h2,nl,C⟩;show bx (aW b.prog b.w) (e.in (eN ⟨L,0,0,0,0,0,0⟩)).ar (ko L v) _ J;refine A6 G (e:=e.in (eN ⟨L,0,0,0,0,0,0⟩)) (by show e.dp+_+300<900;exact li 0x13843012c3043113051041111384301363031111 [e.1,(eN {L:=L,F:=0,it:=0,acc:=0,c0:=0,c1:=0,c2:=0}).weight] rfl hd hw) (by show e.un+_+100<9900;exact li 0x126ac406420431130f104111126ac40782031111 [e.2,(eN {L:=L,F:=0,it:=0,acc:=0,c0:=0,c1:=0,c2:=0}).cUnits] rfl hu hv) 10 0 rfl ah O (λ h=>absurd h (by decide)) rfl (I9 hx h1 (G.oH S.R (p:=(x.ad,ft x.j2 x.l7)) (.tail _ (.tail _ (.tail _ (.tail _ (.tail _ (.tail _ (.head _))))))))) S λ s' Xi h' w aae T hf I N a3=>⟨rfl,?_⟩;obtain⟨v1,v2,v3,v4,v5,v6,v7,rfl⟩:=hf;obtain⟨r,tl,rfl,hrt,hra,U⟩:=I.root;have m:∀p∈zM g c r,p∈Hf L rw g c af ([.ref cl,.bool ah,.ref d,.ref rw]++[v1,v2,v3,v4,v5,v6,v7]) h' w (r::tl) T:=λ p V=>.tail _ (.tail _ (.tail _ (aq _ (aI _ (lW.mpr ⟨r,.head _,V⟩)))));have mD:∀p∈T,p∈Hf L rw g c af ([.ref cl,.bool ah,.ref d,.ref rw]++[v1,v2,v3,v4,v5,v6,v7]) h' w (r::tl) T:=λ p V=>.tail _ (.tail _ (.tail _ (aq _ (aq _ V))));have Y:¬r.ad=d:=a3.R.ne (p:=(r.ad,ft r.j2 r.l7)) (q:=(d,ft i k)) (.cons _ (.cons _ (.cons _ ((t6 (i7.mpr (lW.mpr ⟨r,.head _,.head _⟩)) (i7.mpr N.tb)).trans (dQ _ _)))));have Z:(0:Int)<=0/\(refsOf ((r::tl).map (·.e))).length<=1048576/\bE (refsOf ((r::tl).map (·.e))) 0=ab (.ref r.e):=⟨by decide,by rw [kW,aM,I.len];decide,rfl⟩;refine Do.take (f:=id) (ks:=[]) (vs:=[]) (H:=H) (ks':=k1 [.tp]) (K:=λ A q n tl=>∃t,q=.ok (.ret (.ref t))/\tl=[]/\n=[(t,.ls [.ref rw,.bool ah])]) G (a3:At b s0 C0 s' (d' H [] []++_)) (λ b' R X B=>I8 R (B _ (.head _)) (B _ (.tail _ (.head _))) Z (B _ (m _ (b7 1 rfl))) (B _ (m _ (b7 2 rfl))) (B _ (m _ (b7 0 rfl))) (B _ (mD _ N.tb)) (X.w▸U) (X.w▸h2) Y (li 0x13843012c303131384301363031111 [e.1] rfl hd) (li 0x126ac406420313126ac40782031111 [e.2] rfl hu) λ t=>⟨t,rfl,rfl,rfl⟩) (λ j u n tl' H2 s2 hK2 a4=>?_) λ j u n tl z J o M=>o.elim λ A h=>(by injection h.1);obtain⟨t,e2,rfl,rfl⟩:=hK2;have e2:u=.ret (.ref t):=cA e2;subst e2;rw [aA]at a4;obtain⟨ec,Xj⟩:=N.cl;obtain⟨D1,D2,rfl⟩:=Cd Xj
 have hk:(c,hU y)∈D1++D2:=by
  rcases aO.mp N.kc with h|h;.exact aI _ h
  .rcases aF.mp h with h|h;.have h:=congrArg Obj.cls (qT h).2;exact absurd (aaa h) (by decide)
   .exact aq _ h
 have a5:=(a4.sub (C':=[(t,tO [.ref rw,.bool ah] (H2 0).e)]++([(rw,lO (refsOf ((r::tl).map (·.e))) w)]++([(100,j_ (eE g c))]++((r::tl).map vb++((r::tl).flatMap (zM g c)++(D1++([(cl,lO xs ec)]++D2))))))) (.cons_cons _ (.cons _ (.refl _)))).perm Ek;exact⟨0,[(t,.ls [.ref rw,.bool ah]),(cl,.ls xs),(100,.fr (eE g c))],_,λ|0=>H2 0|_=>{H2 0 with e:=ec},hK t rw g c _ ⟨r::tl,w,D1++D2,I,⟨y,hc,hk⟩,rfl⟩,a5⟩
theorem Ja{K:Kv}{L cl:ae}{xs:List aa}(c:mJ xs)(d:∀t rw a k1 D,oX b.w rw a k1 D->K 0 (.ok (.ret (.ref t))) [(t,.ls [.ref rw,.bool ah]),(cl,.ls xs),(100,.fr (eE a k1))] D):dg b e (eN ⟨L,0,0,0,0,0,0⟩) OB [(L,.fr [.ref cl]),(cl,.ls xs),(100,.fr [])] (k1 [.tp,.ls,.tb]) K:=dg.fn (DS.cut 2 OC λ D f=>OE G (li 0x13843012c303131384301363031111 [e.1] rfl hd) λ a k1 rw g n x h i j k l m=>f _ (I' G hd hu c j k l m d))
end
theorem S8{b:Bs}(G:Good b):bj b (Xl b):=ct λ p cl xs e rest K hd hu a c=>Ja G hd hu a c
theorem bindC{b c:Type}{m:nh b}{f g:b->nh c}(h:∀a,f a=g a):(m>>=f)=(m>>=g):=congrArg (m>>=·) (funext h)
section
variable{prog:d7}{w:cP}{A:dx}{R:dq->aD->Prop}{s:aD}{env:fJ}
theorem A7{b:bO}{a:List j3}{f:B_}{p:Aw}{d:Nat}{g:j3}{it c:aa}(m:a[d]?=ab g)(u:(g.is_async !=0)=af)(h:a_ (aW prog w) A (.compLoop (.ListComp b a f p) d it c env) (qt it) (λ v j=>match v with|az=>R (.ok .next) j|ab v=>a_ (aW prog w) A (.compLoop (.ListComp b a f p) d it c env) (gZ g.target it v) (λ i n=>a_ (aW prog w) A (.compLoop (.ListComp b a f p) d it c env) (jL (.ListComp b a f p) d c env v) (λ i o=>bx (aW prog w) A (.compLoop (.ListComp b a f p) d it c env) R o) lz n) lz j) lz s):bx (aW prog w) A (.compLoop (.ListComp b a f p) d it c env) R s:=by
 refine fD ?_;have q:¬((g.is_async !=0)=ah):=by rw [u];decide
 have k:kD (.ListComp b a f p) d=g:=by unfold kD gensE;rw [m];rfl
 have e:j9 (.ListComp b a f p) d it c env=(do eR g.iter.pos;match<-qt it with|az=>pure (.done .next)|ab v=>gZ g.target it v;jL (.ListComp b a f p) d c env v;again (.compLoop (.ListComp b a f p) d it c env)):=by
  unfold j9 jL;rw [k];dsimp only [gensE,wb,VB];rw [m];dsimp only;rw [if_neg q,if_neg q];refine bindC λ i=>bindC λ r=>?_
  induction r with
   |none=>rfl
   |some v=>
    dsimp only;refine bindC λ i=>?_;refine Eq.trans ?_ (bind_assoc _ _ _).symm;refine bindC λ i=>?_;refine Eq.trans ?_ (bind_assoc _ _ _).symm;refine bindC λ ok=>?_
    induction ok with
     |false=>rfl
     |true=>
      induction a[d+1]? with
       |none=>simp only [if_true,bind_assoc]
       |some y=>
        by_cases ZH:(y.is_async !=0)=ah;.simp only [if_true,ZH,bind_assoc];rfl
        .simp only [if_true,ZH,pG,if_false,bind_assoc];rfl
 have key:a_ (aW prog w) A (.compLoop (.ListComp b a f p) d it c env) (j9 (.ListComp b a f p) d it c env) (λ l z=>postC prog w A R l z) lz s:=by rw [e];refine au (bU (bI ?_));refine au (aQ h (λ v j t=>?_) λ i i x=>x);induction v with|none=>exact bG t|some v=>refine au (aQ t (λ i n B=>?_) λ i i x=>x);refine au (aQ B (λ i o C=>?_) λ i i x=>x);exact bG ⟨rfl,C⟩
 show a_ _ A _ (if(pC (.ListComp b a f p) d it c env).isFrame=ah then(j9 (.ListComp b a f p) d it c env).onRaise (j4 env)else(j9 (.ListComp b a f p) d it c env).onRaise (λ x=>do B' x env;Wg x)) _ _ s;induction D:(pC (.ListComp b a f p) d it c env).isFrame;.exact dY key
 .exact dY key
structure tN(x:bO)(d:Nat):Prop where
 h:x=.ListComp (wb x) (gensE x) (VB x) (aY x)
 g:(gensE x)[d]?=ab (kD x d)
 a:((kD x d).is_async !=0)=af
 t:∃elts y pos,(kD x d).target=.Tuple elts y pos
theorem wK{x:bO}(I:tN x d)(h:a_ (aW prog w) A (.compLoop x d it acc env) (qt it) (λ v a=>match v with|az=>R (.ok .next) a|ab v=>a_ (aW prog w) A (.compLoop x d it acc env) (gZ (kD x d).target it v) (λ b c=>a_ (aW prog w) A (.compLoop x d it acc env) (jL x d acc env v) (λ b e=>bx (aW prog w) A (.compLoop x d it acc env) R e) lz c) lz a) lz s):bx (aW prog w) A (.compLoop x d it acc env) R s:=by have key:=@A7 prog w A R s env (wb x) (gensE x) (VB x) (aY x) d (kD x d) it acc I.g I.a;rw [<-I.h]at key;exact key h
end
noncomputable def ZI(b:Bs)(D:Cells)(l:ae)(xs:List aa):Prop:=∃ep,∀a,Ext b a->(∀p∈D,iN a p.1 p.2)->bN a l (lO xs ep)
theorem uh(G:Good b){e:Ev}{s0 s:aD}(I:tN x d){env:fJ}{R:dq->aD->Prop}(a:At b s0 C0 s (d' H nY [(en,.fr [.none,.bool af,.ref it,.int i 0,.none,old]),(it,.it l i)]++D))(n:ZI b D l xs)(h:0<=i/\bE xs i.toNat=ab v)(J:∀g t z p,At b s0 C0 z (((g,tO [.int i t,v] p)::d' H nY [(en,.fr [.none,.bool af,.ref it,.int (i+1) 0,.none,v]),(it,.it l (i+1))])++D)->a_ (aW b.prog b.w) e.ar (.compLoop x d (.ref en) acc env) (jL x d acc env (.ref g)) (λ o L=>bx (aW b.prog b.w) e.ar (.compLoop x d (.ref en) acc env) R L) lz z):bx (aW b.prog b.w) e.ar (.compLoop x d (.ref en) acc env) R s:=by obtain⟨ep,n⟩:=n;obtain⟨B,y,pos,M⟩:=I.t;refine wK I (Do.take (ks':=k1 (.tp::nY)) (K:=λ o r c tl=>∃g t,r=.ok (.ret (.ref g))/\tl=[]/\c=[(g,.ls [.int i t,v]),(en,.fr [.int (g:Int) 0,.bool af,.ref it,.int (i+1) 0,.none,v]),(it,.it l (i+1))]) G a (λ N O X P=>DF O (n N X P) h λ g t=>⟨g,t,rfl,rfl,rfl⟩) (λ j u c tl k m q f=>?_) λ j x c tl k m q f=>q.elim λ o h=>h.elim λ o h=>(by injection h.1));obtain⟨g,t,C,rfl,rfl⟩:=q;induction u with|none=>exact(by injection C with h;injection h)|some u=>cases eU (cA C);dsimp only;rw [M];refine bU (yR (it:=it) (f.R.own (en,_) (.tail _ (.head _))) λ F Q S=>?_);have f:At b s0 C0 m ((g,tO [.int i t,v] (k 0).e)::(en,nV "enumerate" [.int (g:Int) 0,.bool af,.ref it,.int (i+1) 0,.none,v])::(it,nU l (i+1))::D):=f;have T:=f.perm (.swap _ _ _);have U:At b s0 C0 {m with heap:=F} ((en,DC it (i+1) v)::(g,tO [.int i t,v] (k 0).e)::(it,nU l (i+1))::D):=T.upd (Trans.one Q S);exact J g t _ _ (U.perm (.swap _ _ _):At b s0 C0 {m with heap:=F} ((g,tO [.int i t,v] (k 0).e)::(en,DC it (i+1) v)::(it,nU l (i+1))::D))
theorem sr(G:Good b){e:Ev}{s0 s:aD}(I:tN x d){env:fJ}{R:dq->aD->Prop}(a:At b s0 C0 s (d' H nY [(en,.fr [.none,.bool af,.ref it,.int i 0,.none,old]),(it,.it l i)]++D))(f:ZI b D l xs)(h:0<=i/\bE xs i.toNat=az)(o:∀k,At b s0 C0 k D->R (.ok .next) k):bx (aW b.prog b.w) e.ar (.compLoop x d (.ref en) acc env) R s:=by obtain⟨ep,f⟩:=f;refine wK I (Do.take (ks':=k1 []) (K:=λ z r c tl=>r=.ok .next/\tl=[]/\c=[]) G a (λ p q X t=>zA q (f p X t) h ⟨rfl,rfl,rfl⟩) (λ j u c tl v m g n=>?_) λ j x c tl v m g n=>(by injection g.1));obtain⟨y,rfl,rfl⟩:=g;induction u with|none=>exact o m n|some u=>exact(by injection y with h;injection h)
theorem zN(G:Good b){e:Ev}{x:bO}{d:Nat}{o:aa}{env:fJ}{C it l:ae}(I:tN x d)(B:Bool->List Kd){S:Bool->Nat->List eK->Prop}{kk:Nat->List Kd}{K:Kv}(turn:∀i,Good i->Ext b i->∀f k v g t p vs,bE xs k=ab v->S f k vs->bN i g (tO [.int k t,v] p)->DQ i e (.compLoop x d (.ref C) o env) x d o (.ref g) env (B f) vs (k1 (B af)) λ V r c tl=>r=.ok .next/\S af (k+1) c)(D:∀f vs,S f xs.length vs->kk 0=.ls::B f/\K 0 (.ok .next) ((l,.ls xs)::vs) []):∀m k,k+m=xs.length->∀f vs q,S f k vs->dg b e (.compLoop x d (.ref C) o env) ([.fl "enumerate",.it,.ls]++B f) ([(C,.fr [.none,.bool af,.ref it,.int k 0,.none,q]),(it,.it l k),(l,.ls xs)]++vs) kk K:=by intro m;induction m with|zero=>intro k n f vs q h;exact λ H s0 C0 s a=>by have n:k=xs.length:=n;obtain⟨O,y⟩:=D f vs (n▸h);refine sr G I a ⟨_,λ i X z=>(z _ (.head _)).1⟩ ⟨aS _,by rw [bq,dH];exact cY (cR n.symm)⟩ λ Y P=>⟨0,(l,.ls xs)::vs,[],λ j=>H (j+2),y,?_⟩;rw [aA,O];exact P|succ m Q=>intro k n f vs q h;exact λ H s0 C0 s a=>by obtain⟨v,J⟩:∃v,bE xs k=ab v:=⟨_,(dH _ _).trans (aJ (show k<xs.length by exact li 0x1533251104131111 [k,m,xs.length] rfl n))⟩;refine uh G I a ⟨_,λ i X z=>(z _ (.head _)).1⟩ ⟨aS _,J⟩ λ g t Z p F=>?_;have F:=F.perm (bD (l₁:=[_,_,_,_]));refine Do.take G F (λ i T X z=>turn i T X f k v g t p vs J h (z _ (.head _)).1) (λ j u c tl L M y N=>?_) λ j u c tl L M y N=>(by injection y.1);have U:=N.sub ((a9 _ _).append (.cons _ (.refl _)));exact Q (k+1) (a7 (li 0x541103113251104131111 [k,m,xs.length] rfl n) (li 0x511041133211051413111 [xs.length,k,m] rfl n.symm)) af c v y.2 (λ|0=>H 0|1=>H 1|2=>H 2|j+3=>L j) s0 C0 M (U.perm (bD))
theorem En(G:Good b){e:Ev}{x:bO}{d:Nat}{o:aa}{env:fJ}{B it l:ae}(I:tN x d)(J:bN b l (lO xs ep))(z:Bool->List Kd){S:Bool->Nat->List eK->Prop}{kk:Nat->List Kd}{K:Kv}(turn:∀i,Good i->Ext b i->∀f k v g t p vs,bE xs k=ab v->S f k vs->bN i g (tO [.int k t,v] p)->DQ i e (.compLoop x d (.ref B) o env) x d o (.ref g) env (z f) vs (k1 (z af)) λ Y r c tl=>r=.ok .next/\S af (k+1) c)(C:∀f vs,S f xs.length vs->kk 0=z f/\K 0 (.ok .next) vs []):∀m k,k+m=xs.length->∀f vs q,S f k vs->dg b e (.compLoop x d (.ref B) o env) ([.fl "enumerate",.it]++z f) ([(B,.fr [.none,.bool af,.ref it,.int k 0,.none,q]),(it,.it l k)]++vs) kk K:=by intro m;induction m with|zero=>intro k n f vs q h;exact λ H s0 C0 s a=>by have n:k=xs.length:=n;obtain⟨P,y⟩:=C f vs (n▸h);refine sr G I a ⟨_,λ i X D=>J.ext X⟩ ⟨aS _,by rw [bq,dH];exact cY (cR n.symm)⟩ λ Z Q=>⟨0,vs,[],λ j=>H (j+2),y,?_⟩;rw [aA,P];exact Q|succ m T=>intro k n f vs q h;exact λ H s0 C0 s a=>by obtain⟨v,L⟩:∃v,bE xs k=ab v:=⟨_,(dH _ _).trans (aJ (show k<xs.length by exact li 0x1533251104131111 [k,m,xs.length] rfl n))⟩;refine uh G I a ⟨_,λ i X D=>J.ext X⟩ ⟨aS _,L⟩ λ g t s1 p F=>?_;have F:=F.perm (bD);refine Do.take G F (λ i U X D=>turn i U X f k v g t p vs L h (D _ (.head _)).1) (λ j u c tl M N y O=>?_) λ j u c tl M N y O=>(by injection y.1);have V:=O.sub ((a9 _ _).append (.cons _ (.refl _)));exact T (k+1) (a7 (li 0x541103113251104131111 [k,m,xs.length] rfl n) (li 0x511041133211051413111 [xs.length,k,m] rfl n.symm)) af c v y.2 (λ|0=>H 0|1=>H 1|j+2=>M j) s0 C0 N (V.perm (bD))
structure Ib where
 it:ae
 bs:ae
noncomputable def S_:aT->Ib|.builtin _ ⟨[a,_,b],_⟩=>⟨xZ a,xZ b⟩|_=>⟨0,0⟩
noncomputable def vc(q:Ib):aT:=.builtin "max.loop" ⟨[.ref q.it,.none,.ref q.bs],[]⟩
noncomputable def vd(q:Ib):aT:=.builtin "min.loop" ⟨[.ref q.it,.none,.ref q.bs],[]⟩
noncomputable def S':List Kd:=[.it,.ls,.ls]
noncomputable def ZJ(F:Int->Int->Int)(ns:List Int)(q:Ib)(l:ae)(i:Int)(m:Int)(c:aX)(a:Int)(e:aX)(xs:List aa):Ct:=⟨[q.it,q.bs,l],λ d u f=>[a=m,tJ xs i ns],λ K=>∀t,K 0 (.ok (.ret (.int (ns.foldl F m) t))) [(l,.ls xs)] []⟩
noncomputable def Ta(ns:List Int):Sp:=gb (.of S_ vc) [.it,.lx [.it,.it],.ls] S' (k1 [.ls]) (ZJ max ns)
noncomputable def Tb(ns:List Int):Sp:=gb (.of S_ vd) [.it,.lx [.it,.it],.ls] S' (k1 [.ls]) (ZJ min ns)
section
variable(G:Good b)
include G
theorem Tc:∀ns,bj b (Ta ns):=by intro ns;induction ns with|nil=>exact ct λ q l i m j p r xs e rest K d f c=>by cases d;exact dg.run G [] [kF] (oo 0x22163683131321241 []) λ n=>c3 (E [q.1,l,q.2] 0x120010) f (λ(g:ae)(D:Array aa)(s:Nw)=>c2 (E [q.2,g] 0x11000) (c j))|cons o ns u=>exact ct λ q l i m j p r xs e rest K d f c=>by cases d;obtain⟨v,⟨t,w⟩,k⟩:=f;have x:o>m->∀t,K 0 (.ok (.ret (.int (ns.foldl max o) t))) [(l,.ls xs)] []:=λ h=>(show max m o=o by exact bg (b0 (Lm (cp h))) (jx m o))▸c;have y:¬o>m->∀t,K 0 (.ok (.ret (.int (ns.foldl max m) t))) [(l,.ls xs)] []:=λ h=>(show max m o=m by exact bg (b0 (t7 (b_.mp h))) (j0 m o))▸c;exact dg.run G [] [jN (.int o t),Zp,⟨_,u⟩] (oo 0x12123141563612413131321241 [(oo 0x121231415 [])]) λ n=>c3 (E [q.1,l,q.2] 0x120010) (c2 v w) (λ(s:Nw)=>c2 (λ(h:o>m)(z:Nw)=>c5 (E [q.1,q.2,l] 0x1111210) (@rfl aT (vc q)) (@rfl Int o) k (λ(a:aX)(A:Nw)=>x h a)) (λ(h:¬o>m)(z:Nw)=>c5 (E [q.1,q.2,l] 0x1210) (@rfl aT (vc q)) (@rfl Int m) k (λ(a:aX)(A:Nw)=>y h a)))
theorem Td:∀ns,bj b (Tb ns):=by intro ns;induction ns with|nil=>exact ct λ q l i m j p r xs e rest K d f c=>by cases d;exact dg.run G [] [kF] (oo 0x22163683131321241 []) λ n=>c3 (E [q.1,l,q.2] 0x120010) f (λ(g:ae)(D:Array aa)(s:Nw)=>c2 (E [q.2,g] 0x11000) (c j))|cons o ns u=>exact ct λ q l i m j p r xs e rest K d f c=>by cases d;obtain⟨v,⟨t,w⟩,k⟩:=f;have x:o<m->∀t,K 0 (.ok (.ret (.int (ns.foldl min o) t))) [(l,.ls xs)] []:=λ h=>(show min m o=o by exact bg (iq m o) (b0 (sZ (cp h)).symm))▸c;have y:¬o<m->∀t,K 0 (.ok (.ret (.int (ns.foldl min m) t))) [(l,.ls xs)] []:=λ h=>(show min m o=m by exact bg (iP m o) (b0 (t8 (b_.mp h)).symm))▸c;exact dg.run G [] [jN (.int o t),oLt,⟨_,u⟩] (oo 0x12123141563612413131321241 [(oo 0x121231415 [])]) λ n=>c3 (E [q.1,l,q.2] 0x120010) (c2 v w) (λ(s:Nw)=>c2 (λ(h:o<m)(z:Nw)=>c5 (E [q.1,q.2,l] 0x1111210) (@rfl aT (vd q)) (@rfl Int o) k (λ(a:aX)(A:Nw)=>x h a)) (λ(h:¬o<m)(z:Nw)=>c5 (E [q.1,q.2,l] 0x1210) (@rfl aT (vd q)) (@rfl Int m) k (λ(a:aX)(A:Nw)=>y h a)))
end
noncomputable def zO:aR:=⟨#[119,114,105,116,101]⟩
noncomputable def Eo:aR:=⟨#[101,108,101,109]⟩
noncomputable def OK:aR:=⟨#[112,97,114,116]⟩
noncomputable def qSe:aR:=⟨#[95,115,101,114,105,97,108,105,122,101,95,116,101,120,116,46,60,108,111,99,97,108,115,62,46]⟩
noncomputable def Te(L:ae):fJ:=nu 12 qSe 88 87 L []
noncomputable def mK(p:Cp):aT:=.forLoop (sE (bE (aP 12) 0) 0) (.ref p.it) (sB (bE (aP 12) 0) 0) [] (Te p.L)
noncomputable def Tf:Bool->List aR|ah=>[zO,Eo]|af=>[zO,Eo,OK]
noncomputable def Jb(f:Bool):List Kd:=[.fr (Tf f),.it,.ls,.fl "builtin_function_or_method",.ls]
noncomputable def zP(f:Bool):List Kd:=[.fr (Tf f),.ls,.fl "builtin_function_or_method",.ls]
noncomputable def ZK(a:List (aR×aX))(p:Cp)(c e l:ae)(i:Int)(xs:List aa)(f:String)(told:ae)(ys:List aa):Ct:=⟨[p.L,p.it,l,c,told],λ d u g=>[d+20<900,f="list.append",dC xs i (g_ a),ys.length+a.length<=100],λ K=>∀v,K 0 (.ok .next) [(p.L,.fr [.ref c,.ref e,v]),(l,.ls xs),(c,.fr [.builtin "list.append",.ref told]),(told,.ls (ys++g_ a))] []⟩
noncomputable def Xm(a:List (aR×aX))(p:Cp)(c e:ae)(v:aa):=ZK a p c e
noncomputable def Xn(p:Cp)(a e l:ae)(i:Int)(xs:List aa)(c:String)(told:ae)(ys:List aa):Ct:=⟨[p.L,p.it,l,a,told],λ d u f=>[d+20<900,c="list.append",dC xs i []],λ K=>K 0 (.ok .next) [(p.L,.fr [.ref a,.ref e]),(l,.ls xs),(a,.fr [.builtin c,.ref told]),(told,.ls ys)] []⟩
noncomputable def Tg(a:List (aR×aX)):Sp:=gb (.of fo mK) [.fr [.re,.re],.it,.ls,.fr [.bi,.re],.ls] (Jb ah) (k1 (zP af)) (ZK a)
noncomputable def Mf(a:List (aR×aX)):Sp:=gb (.of fo mK) [.fr [.re,.re,.an],.it,.ls,.fr [.bi,.re],.ls] (Jb af) (k1 (zP af)) (Xm a)
noncomputable def Th:Sp:=gb (.of fo mK) [.fr [.re,.re],.it,.ls,.fr [.bi,.re],.ls] (Jb ah) (k1 (zP ah)) Xn
section
variable{b:Bs}(G:Good b)
include G
theorem Ep{e:Ev}{K:Kv}(k:bj b (Mf zs))(m:e.dp+20<900)(f:Bool){a:List aa}(o:mv f a)(g:dC xs i (.str x t::g_ zs))(h:ys.length+(zs.length+1)<=100)(j:∀v,K 0 (.ok .next) [(p.L,.fr [.ref ap,.ref el,v]),(l,.ls xs),(ap,.fr [.builtin "list.append",.ref told]),(told,.ls (ys++.str x t::g_ zs))] []):dg b e (mK p) (Jb f) [(p.L,.fr (.ref ap::.ref el::a)),(p.it,.it l i),(l,.ls xs),(ap,.fr [.builtin "list.append",.ref told]),(told,.ls ys)] (k1 (zP af)) K:=by have c:ys.length<=1048576:=ai (ai (bX _ _) h) (by decide);rw [<-fu]at j;induction f<;>rcases a with _|⟨v,_|⟨_,_⟩⟩<;>induction o;all_goals exact dg.run G [] [jN (.str x t),dP,⟨_,k⟩] (oo 0x432151153246155214aaa8186636323134141 []) λ n=>c3 (E [p.3,l] 0x10010) g.at (λ(r:Nw)=>c3 (E [told,ap,p.1] 0x12222110000) c (λ(q:Nat)(s:Nw)=>c7 (E [p.1,p.3,l,ap,told] 0x143210) (@rfl aT (mK p)) m (@rfl String ("list.append")) g.next (iz _ h:(snoc ys (cW x t)).length+zs.length<=100) (λ(d:aa)(u:Nw)=>j d)))
theorem Er:∀a,bj b (Mf a)|[]=>ct λ p k m v l i xs o told ys e rest K h c d j f=>by subst c;exact dg.run G [] [kF] (oo 0x5423511c323134141 []) λ n=>c3 (E [p.3,l] 0x10010) d.end (λ(g:ae)(D:Array aa)(q:Nw)=>c2 (E [g] 0x10) (aA ys▸f v))|(x,t)::a=>ct λ p k m v l i xs o told ys e rest K h c d j f=>by subst c;exact Ep G (Er a) h af trivial d j f
theorem Es(x:aR)(t:aX)(a:List (aR×aX)):bj b (Tg ((x,t)::a)):=ct λ p j k l i xs m told ys e rest K c d f g h=>by subst d;exact Ep G (Er G a) c ah trivial f g h
theorem OL:bj b Th:=ct λ p g h l i xs j told ys e rest K k c d f=>by subst c;exact dg.run G [] [kF] (oo 0x5423511c323134141 []) λ n=>c3 (E [p.3,l] 0x10010) d.end (λ(a:ae)(D:Array aa)(m:Nw)=>c2 (E [a] 0x10) f)
end
theorem bl.take(h:bl vs ts):∀n,bl (vs.take n) (ts.take n):=by induction h with|nil=>intro n;rw [pD,pD];exact .nil|cons _ a=>intro n;induction n with|zero=>exact .nil|succ n=>exact .cons (a n)
theorem bl.pairs(h:bl vs ts):∃l:List (aR×aX),vs=g_ l/\l.map (·.1)=ts:=by induction h with|nil=>exact⟨[],rfl,rfl⟩|@cons x t vs ts _ a=>obtain⟨l,rfl,rfl⟩:=a;exact⟨(x,t)::l,rfl,rfl⟩
theorem A8(h:mz w x):∃l:List (aR×aX),fe x.mq az (ab ((x.mq.length:Int)-Z.modQ x.n 2)) az=g_ l/\l.length<=6/\((x.tail=⟨#[]⟩/\l≠[]/\bl (g_ l) ((oct x.n (lR x.tag)).map eQ))\/∃o,x.tail=eQ o/\∀t,bl (g_ l++[.str (eQ o) t]) ((oct x.n (lR x.tag)).map eQ)):=by
 have n:=h.sg;have i:x.mq.length=(oct x.n (lR x.tag)).length:=by rw [n.len,aM]
 obtain⟨o,os,f⟩:=oQ x.n (lR x.tag);have p:=lr x.n (lR x.tag);have r:1<=x.mq.length:=by rw [i,f];exact bW (bJ _)
 have j:=mod2 x.n;have e:(x.mq.length:Int)-Z.modQ x.n 2=((x.mq.length-(Z.modQ x.n 2).toNat:Nat):Int):=by exact bg (lj 0x4563534265511205413111 [x.mq.length,x.mq.length-(Z.modQ x.n 2).toNat,(Z.modQ x.n 2).toNat] [Z.modQ x.n 2] rfl (cI x.mq.length (Z.modQ x.n 2).toNat) (bC j.1)) (lj 0x6553454253411110356112 [(Z.modQ x.n 2).toNat,x.mq.length-(Z.modQ x.n 2).toNat,x.mq.length] [Z.modQ x.n 2] rfl (eS (Z.modQ x.n 2)) (aH (lj 0x34326451121210611203110111 [x.mq.length,(Z.modQ x.n 2).toNat] [Z.modQ x.n 2] rfl r j.2 (bC (j.1)))))
 rw [e,oM,h.tl];have c:=n.take (x.mq.length-(Z.modQ x.n 2).toNat);obtain⟨l,d,k⟩:=c.pairs;have m:l.length<=6:=by have:=congrArg nN k;rw [aM,eG,aM]at this;exact li 0x6104303511125411106103111 [(oct x.n (lR x.tag)).length,l.length,min (x.mq.length-(Z.modQ x.n 2).toNat) (oct x.n (lR x.tag)).length] rfl p this (fh (x.mq.length-(Z.modQ x.n 2).toNat) (oct x.n (lR x.tag)).length)
 refine⟨l,d,m,?_⟩;unfold nH;rw [d]at c;rcases(show(Z.modQ x.n 2).toNat=0\/(Z.modQ x.n 2).toNat=1 by lia)with q|q;.left;rw [q,yK]at c d⊢;rw [i,<-aM,fY]at c;refine⟨by rw [List.drop_length];rfl,λ q=>?_,c⟩;subst q;rw [f]at c;exact nomatch c
 .right;rw [q]at c d⊢;rcases List.eq_nil_or_concat (oct x.n (lR x.tag))with g|⟨L,a,g⟩;.rw [g]at f;cases f
  .rw [List.concat_eq_append]at g;rw [i]at c;rw [g]at c⊢;rw [bh,jl,G7,aU]at c;rw [bh,jl,G7,Nk];refine⟨a,rfl,λ t=>?_⟩;rw [aU];rw [<-aM,Nl]at c;exact c.app (.cons .nil)
theorem ej.Xo{b:Bs}{a k1:ae}(h:ej b a k1 x)(c:x.tail=s):bN b x.dk (dO (ie x.h tK [.str x.tag x.tt,.ref x.ad,.bool x.most,.ref x.bT,.ref x.bm,.ref 103,.ref x.it,.str s x.tl]++x.more) x.h.e):=c▸h.dk
section
noncomputable def Et(c:bN b l0 (lO rz AS)):Ok b:=⟨gD "len" [.re] [] λ l=>⟨[],λ a a a K=>(l=l0/\rz.length<=1048576)/\∀t,K 0 (.ok (.ret (.int (rz.length:Int) t))) [] []⟩,bF λ l=>.mk λ A s rest K R h i Rd k=>by obtain⟨⟨rfl,f⟩,h⟩:=h;have d:rz.toArray.size=rz.length:=b6;refine bL NU NV (iE (M_ (Q:=λ v e=>v=.int rz.toArray.size (s.toks+1)/\e={s with toks:=s.toks+1+1}) ⟨_,Rd.jq _ _ c.1 c.2,rfl,AS,rfl⟩ (d▸y' f) ⟨rfl,rfl⟩) ?_ λ a a x=>x);rintro g e⟨r,rfl,rfl,rfl⟩;exact k 0 _ _ _ _ (d▸h _) (Trans.nil _ _)⟩
noncomputable def yg(G:Good b)(i:Int)(f:bN b d0 (ft es0 AS)):Ok b:=⟨gD "dict.get" [.re,.st,.it] [] λ d k a j a=>⟨[],λ a a a K=>d=d0/\(¬d0=1/\uV b.w es0 AS k j i)/\∀t,K 0 (.ok (.ret (.int i t))) [] []⟩,bF λ d k tk j g=>.mk λ A s rest K R h n Rd q=>by obtain⟨rfl,⟨c,l,hi⟩,m⟩:=h;rw [G.prog];obtain⟨t',e⟩:=wC hi g;exact pQ (Rd.jq _ _ f.1 f.2) l c λ a=>e▸q 0 _ _ _ _ (m t') (Trans.nil _ _)⟩
end
noncomputable def Ti:List Kd:=[.fl "builtin_function_or_method",.ls]
noncomputable def cSr(x:El)(a:ae)(e:String)(told:ae):Ct:=⟨[a,told],λ d u f=>[d+40<900,e="list.append"],λ K=>∀c,bl c ((oct x.n (lR x.tag)).map eQ)->K 0 (.ok (.ret .none)) [(a,.fr [.builtin "list.append",.ref told]),(told,.ls c)] []⟩
noncomputable def Tj(x:El):Sp:=gb (.call 88 [.re,.rq x.e]) [.fr [.bi,.re],.lx []] Ti (k1 Ti) (cSr x)
section
variable(G:Good b)
include G
theorem Tn(c:ej b k0 fQ x)(k:mz b.w x)(z:bN b fQ (hU cv))(J:bZ cv):bj b (Tj x):=ct λ q Q told e rest K g L A=>by
 subst L;obtain⟨c0,R,ct,S,rfl⟩:=J;obtain⟨l,M,N,h⟩:=A8 k;have d:x.mq.length<=1048576:=by rw [k.sg.len,aM];exact ai (lr _ _) (by decide)
 have f:=k.Xd;have B:dC (fe x.mq az (ab ((x.mq.length:Int)-Z.modQ x.n 2)) az) 0 (g_ l):=M▸dC.start _;have C:0+l.length<=100:=by exact li 0x64203001306103111 [l.length] rfl N
 have j:¬(az:Option Int)=ab 0:=λ h=>(by injection h);rcases h with⟨y,D,m⟩|⟨o,y,m⟩
 .obtain⟨p,ps,rfl⟩:∃p ps,l=p::ps:=by induction l with|nil=>exact absurd rfl D|cons p ps=>exact⟨p,ps,rfl⟩
  obtain⟨r,s⟩:=p;exact dg.run G [⟨_,_,c.fn⟩,⟨_,_,c.Xo y⟩,⟨_,_,c.it⟩,⟨_,_,c.cs⟩,⟨_,_,c.ca⟩,⟨_,_,z⟩,⟨_,_,c.sg⟩,⟨_,_,c.ad⟩] [Et c.sg,yg G x.n c.ad,kg c.sg,⟨_,Es G r s ps⟩] (oo 0x43311115333131326571461621c1cc12150ff10ff0ff0ff111111411f111f11f11f11fb113191191d72753331313333211212112 []) λ n=>c5 (jf g:e.dp+0<1000) (jf g:e.dp+1<1000) (E [x.6,x.5,fQ,x.2,x.1,n.1 0] 0x15555544444444312100) (c2 (@rfl ae x.sg) d) (λ(t:aX)(H:Nw)=>c4 (E [x.10,x.7] 0x1100000) (@rfl ae x.ad) (c2 f k.num) (λ(u:aX)(w:Nw)=>c3 (E [w.1 0,x.8] 0x111110) (c3 (@rfl ae x.sg) j d) (λ(a:ae)(i:Nw)=>c7 (E [n.1 0,i.1 0,a,q,told] 0x1222143210) (@rfl aT (mK (Cp.mk (n.1 0) (n.1 0) (i.1 0) 0 0 0 0))) (fj g:e.dp+1+20<900) (@rfl String ("list.append")) B C (λ(v:aa)(I:Nw)=>c2 (E [x.2,x.1,n.1 0] 0x12111110) (A _ m)))))
 .have m:=m x.tl;rcases l with _|⟨⟨r,s⟩,ps⟩;.exact dg.run G [⟨_,_,c.fn⟩,⟨_,_,c.Xo y⟩,⟨_,_,c.it⟩,⟨_,_,c.cs⟩,⟨_,_,c.ca⟩,⟨_,_,z⟩,⟨_,_,c.sg⟩,⟨_,_,c.ad⟩] [Et c.sg,yg G x.n c.ad,kg c.sg,⟨_,OL G⟩,dP] (oo 0x1431421788861653331313221115333131326571461621c1cc12150ff10ff0ff0ff111111411f111f11f11f11fb113191191d72753331313333211212112 []) λ n=>c5 (jf g:e.dp+0<1000) (jf g:e.dp+1<1000) (E [x.6,x.5,fQ,x.2,x.1,n.1 0] 0x15555544444444312100) (c2 (@rfl ae x.sg) d) (λ(t:aX)(H:Nw)=>c4 (E [x.10,x.7] 0x1100000) (@rfl ae x.ad) (c2 f k.num) (λ(u:aX)(w:Nw)=>c3 (E [w.1 0,x.8] 0x111110) (c3 (@rfl ae x.sg) j d) (λ(a:ae)(i:Nw)=>c6 (E [n.1 0,i.1 0,a,q,told] 0x1222143210) (@rfl aT (mK (Cp.mk (n.1 0) (n.1 0) (i.1 0) 0 0 0 0))) (fj g:e.dp+1+20<900) (@rfl String ("list.append")) B (λ(I:Nw)=>c3 (E [told,q,x.2,x.1,n.1 0] 0x1433333244333332110000) (by decide:0<=1048576) (λ(F:Nat)(O:Nw)=>A _ m)))))
  .have P:(g_ ((r,s)::ps)).length<=1048576:=by show(cF _ _).length<=_;rw [aM];exact li 0x1000006033064203001111 [((r,s)::ps).length] rfl C
   exact dg.run G [⟨_,_,c.fn⟩,⟨_,_,c.Xo y⟩,⟨_,_,c.it⟩,⟨_,_,c.cs⟩,⟨_,_,c.ca⟩,⟨_,_,z⟩,⟨_,_,c.sg⟩,⟨_,_,c.ad⟩] [Et c.sg,yg G x.n c.ad,kg c.sg,⟨_,Es G r s ps⟩,dP] (oo 0x1431421788861653331313221115333131326571461621c1cc12150ff10ff0ff0ff111111411f111f11f11f11fb113191191d72753331313333211212112 []) λ n=>c5 (jf g:e.dp+0<1000) (jf g:e.dp+1<1000) (E [x.6,x.5,fQ,x.2,x.1,n.1 0] 0x15555544444444312100) (c2 (@rfl ae x.sg) d) (λ(t:aX)(H:Nw)=>c4 (E [x.10,x.7] 0x1100000) (@rfl ae x.ad) (c2 f k.num) (λ(u:aX)(w:Nw)=>c3 (E [w.1 0,x.8] 0x111110) (c3 (@rfl ae x.sg) j d) (λ(a:ae)(i:Nw)=>c7 (E [n.1 0,i.1 0,a,q,told] 0x1222143210) (@rfl aT (mK (Cp.mk (n.1 0) (n.1 0) (i.1 0) 0 0 0 0))) (fj g:e.dp+1+20<900) (@rfl String ("list.append")) B C (λ(v:aa)(I:Nw)=>c3 (E [told,q,x.2,x.1,n.1 0] 0x1433333244333332110000) P (λ(F:Nat)(O:Nw)=>A _ m)))))
end
noncomputable def Eu(x:aR)(t:aX)(i:Int):dR:=nV "str_iterator" [.str x t,.int i 0]
noncomputable def Xp(i:Int):dR:=nV "str_iterator" [.none,.int i 0]
structure pW(x:aR)(i:Int)(os:List Int):Prop where
 ge:0<=i
 eq:x.cps.toList.drop i.toNat=os.map iZ
theorem pW.at{x:aR}{i o:Int}{os:List Int}(h:pW x i (o::os)):0<=i/\x.cps[i.toNat]?=ab o.toNat:=⟨h.ge,by rw [<-m4,<-yU i.toNat,<-ky,h.eq];rfl⟩
theorem pW.next{x:aR}{i o:Int}{os:List Int}(h:pW x i (o::os)):pW x (i+1) os:=⟨bk h.ge (cp (td i)),by rw [show(i+1).toNat=i.toNat+1 from Hr h.ge 1,<-f3,h.eq];rfl⟩
theorem pW.end(h:pW x i []):0<=i/\x.cps[i.toNat]?=az:=⟨h.ge,by rw [<-m4,<-yU i.toNat,<-ky,h.eq];rfl⟩
theorem su(h:A.handled=az)(hi:s.heap.get? it=ab (Eu x t i))(j:0<=i)(f:∀c a t',x.cps[i.toNat]?=ab c->Trans s a [(it,Eu x t i)] [(it,Eu x t (i+1))]->R (.ok (.ret (.str ⟨#[c]⟩ t'))) a)(g:∀e D a,x.cps[i.toNat]?=az->Trans s a [(it,Eu x t i)] [(it,Xp i),(e,HI D)]->R (.error (.ref e)) a):bx (aW prog w) A (.builtin "str_iterator.__next__" ⟨[.ref it],[]⟩) R s:=by obtain⟨n,rfl⟩:=dI j;rw [bq]at f g;refine bL (b:=cK.«str_iterator.__next__») (by decide+kernel) (aL (by kernel_rfl)) ?_;show bV _ _ (qw (.ref it) 0>>=_) _ _ s;refine aw (dW hi rfl (x:=.str x t) rfl ?_);show bV _ _ (qw (.ref it) 1>>=_) _ _ s;refine aw (dW hi rfl (x:=.int (n:Int) 0) rfl ?_);induction d:x.cps[n]? with|some c=>simp only [bq,d];exact aw (gu hi rfl (by simp [nV]) (aw (Ln (bc (f c _ _ d (Trans.upd hi (show d8 (·.setIfInBounds 1 (kK ((n:Int)+1))) (Eu x t n)=Eu x t (n+1)from rfl) rfl _))) (by show 1<=lN;decide))))|none=>simp only [bq,d];exact aw (lM (aw (gu hi rfl (by simp [nV]) (aw (wpAny_letGo (ro h λ t D=>g _ _ _ d (Trans.ended hi (show d8 (·.setIfInBounds 0 .none) (Eu x _ n)=Xp n from rfl) rfl t D)))))))
section
variable{b:Bs}
noncomputable def Ew:Ok b:=⟨gD "str.__iter__" [.st] [] λ x t=>⟨[],λ a a a K=>x.cps.all (·<128)=af/\∀it,K 0 (.ok (.ret (.ref it))) [] [(it,Eu x t 0)]⟩,bF λ x t=>.mk λ A s rest K R h d Rd k=>by refine bL (b:=cK.«str.__iter__») (by decide+kernel) (aL (by kernel_rfl)) ?_;show bV _ _ (do ret (<-newFields (if(ah&&x.cps.all (·<128))=ah then "str_ascii_iterator"else "str_iterator") [.str x t,kK 0])) _ _ s;rw [h.1];exact aw (ia (bc (k 0 _ _ _ _ (h.2 s.heap.objs.size) (Trans.new (s:=s) (o:=Eu x t 0) rfl s.toks))))⟩
noncomputable def Ex(o:Int):Ok b:=⟨gD "str_iterator.__next__" [.re] [.fl "str_iterator" [.st,.it]] λ it x t i d=>⟨[it],λ f f f K=>d=0/\(0<=i/\x.cps[i.toNat]?=ab o.toNat)/\∀t',K 0 (.ok (.ret (.str (eQ o) t'))) [(it,Eu x t (i+1))] []⟩,bF λ it x t i d=>.mk λ A s rest K R h j Rd k=>by obtain⟨rfl,⟨m,g⟩,h⟩:=h;exact su j (Rd.own _ (.head _)) m (λ c n t' a T=>by cases g.symm.trans a;exact k 0 _ _ _ _ (h t') T) λ e D n a T=>nomatch g.symm.trans a⟩
noncomputable def zQ:Ok b:=⟨gD "str_iterator.__next__" [.re] [.fl "str_iterator" [.st,.it]] λ it x t i a=>⟨[it],λ d d d K=>a=0/\(0<=i/\x.cps[i.toNat]?=az)/\∀e D,K 0 (.error (.ref e)) [(it,Xp i)] [(e,HI D)]⟩,bF λ it x t i a=>.mk λ A s rest K R h g Rd k=>by obtain⟨rfl,⟨j,m⟩,h⟩:=h;exact su g (Rd.own _ (.head _)) j (λ c n t' f T=>nomatch m.symm.trans f) λ e D n f T=>k 0 _ _ _ _ (h e D) T⟩
set_option tactic.hygienic true in noncomputable def ON(m:bN b l0 (lO rz AS))(r:aR):Ok b:=⟨gD "str.join" [.st,.re] [] λ a j l=>⟨[],λ j j j K=>(l=l0/\nF a rz r)/\∀t,K 0 (.ok (.ret (.str r t))) [] []⟩,bF λ a t l=>.mk λ A s rest K R h o Rd k=>by
 obtain⟨⟨rfl,ls,rfl,f,rfl,g⟩,h⟩:=h;refine cz (by decide+kernel) (aL (by kernel_rfl)) (Na a t l ls f) ⟨⟨_,Rd.jq _ _ m.1 m.2,rfl,AS,rfl⟩,?_⟩;have d:∀t tk,R (.ok (.ret (.str (d6 a (ls.map (·.1))) t))) {s with toks:=tk}:=λ t tk=>k 0 _ _ _ _ (h t) (Trans.nil _ _);unfold joinMade;split;.rename_i n;have:=d n.2 s.toks;simpa [d6,Y']using this
 .exact⟨g,d s.toks (s.toks+1)⟩⟩
noncomputable def To:aT->Option (String×List aa)|.call (.builtin s) ⟨ps,[]⟩=>ab (s,ps)|_=>az
set_option tactic.hygienic true in theorem Jc(h:To c=ab q):c=.call (.builtin q.1) ⟨q.2,[]⟩:=by
 induction c<;>first|exact ns h|skip
 rename_i v a;induction v<;>first|exact ns h|skip
 rcases a with⟨vs,_|⟨_,_⟩⟩;.exact bw h▸rfl
 .exact ns h
noncomputable def Tp(c:aT):Option Unit:=jz (λ q=>VF q.2 λ t a=>jz (λ n=>y2 ((ZFast.idIsZ q.1 "list.__new__").and (ZFast.idIsZ n "list")) (ab ())) (NM t)) (To c)
theorem Jd(h:Tp c=ab x):∃u,c=.call (.builtin "list.__new__") ⟨[.type "list",u],[]⟩:=by obtain⟨q,e,h⟩:=cJ h;obtain⟨n,u,a,h⟩:=xT h;obtain⟨n,d,h⟩:=cJ h;obtain⟨f,g⟩:=js (i_ h).1;exact⟨u,by rw [Jc e,a,y4 d,m8 f,m8 g]⟩
theorem Ey(x:aa)(h:∀a,Trans s a [] [(s.heap.objs.size,lO [] 0)]->R (.ok (.ret (.ref s.heap.objs.size))) a):bx (aW prog w) A (.call (.builtin "list.__new__") ⟨[.type "list",x],[]⟩) R s:=by refine dj (code_list_new (E:=λ g g=>False) (Q₁:=λ v a=>v=.ref s.heap.objs.size/\a={s with heap:=s.heap.push {cls:=.type "list",data:=.seq #[]}}) x ⟨rfl,rfl⟩) λ r a d=>?_;induction r with|error e=>exact d.elim|ok f=>induction f with|ret v=>obtain⟨rfl,rfl⟩:=d;exact h _ (Trans.new rfl s.toks)|_=>exact d.elim
noncomputable def Ez:Ok b:=⟨λ d u a c cs rest E K=>pF (Tp c) λ a=>Cr (isNil cs) False (Ra E (∀l,K 0 (.ok (.ret (.ref l))) (λ a=>[]) [(l,lO [] 0)])),⟨λ h=>(d_ h).elim λ a h=>(pH (jK HF h.2).2).1,λ A a c cs rest E K s a j R h=>by obtain⟨_,e,h⟩:=d_ h;obtain⟨f,h⟩:=jK HF h;have g:=(pH h).2;clear h;induction cs with|cons _ _=>cases f|nil=>obtain⟨u,rfl⟩:=Jd e;exact Ey _ λ k T=>⟨0,_,_,λ a=>⟨λ a=>0,λ a=>0,0⟩,g s.heap.objs.size,T⟩⟩⟩
theorem qL{prog:d7}{w:cP}{id:String}{bf:cK}{a:Args}(k:fg h8 id=ab bf)(h:a_ (aW prog w) A (.builtin id a) (bf a) (λ g d=>match g with|.done f=>R (.ok f) d|.again j=>j.quiet=ah/\bx (aW prog w) A j R d) (λ e d=>R (.error e) d) s):bx (aW prog w) A (.builtin id a) R s:=by refine fD ?_;show a_ _ _ _ (match fg h8 id with|ab b=>b a|az=>vT ((Y8 id "#data").getD id)) _ _ s;rw [k];exact h
theorem EA{M:qx}{A:dx}{c:aT}{s:aD}{l:ae}{ys:List aa}{ep:Nat}{v:aa}{Q:Unit->aD->Prop}{E:aa->aD->Prop}(f:s.heap.get? l=ab (lO ys ep))(g:ys.length<=1048576)(h:∀j,Trans s j [(l,lO ys ep)] [(l,lO (ys++[v]) (ep+1))]->Q () j):a_ M A c (Vj l λ a=>a.push v) Q E s:=by have d:s.heap.get? l=ab {cls:=.type "list",dict:=az,data:=.seq ys.toArray ep,slots:=#[]}:=f;refine bU (V_ d rfl (h _ ?_));exact Trans.upd f (zd ys v ep) rfl s.toks
noncomputable def Je:List Kd:=[.fl "str_iterator",.ls]
section
variable(G:Good b){e:Ev}{c:aT}{it l:ae}{x:aR}{t:aX}{i:Int}{ys:List aa}{K:Kv}
include G
theorem OO{o:Int}(h:0<=i/\x.cps[i.toNat]?=ab o.toNat)(a:∀t',K 0 (.ok (.ret (.str (eQ o) t'))) [(it,.fr [.str x t,.int (i+1) 0]),(l,.ls ys)] []):DN b e c (.ref it) Je [(it,.fr [.str x t,.int i 0]),(l,.ls ys)] (k1 Je) K:=DN.run G [] [Ex o] (oo 0x21311213212 []) λ n=>c4 (E [it] 0x1000) (@rfl aX 0) (h) (λ(t':aX)(d:Nw)=>a t')
theorem Jf(h:0<=i/\x.cps[i.toNat]?=az)(d:K 0 (.ok .next) [(l,.ls ys)] []):DN b e c (.ref it) Je [(it,.fr [.str x t,.int i 0]),(l,.ls ys)] (k1 [.ls]) K:=DN.run G [] [zQ] (oo 0x22161213212 []) λ n=>c4 (E [it] 0x1000) (@rfl aX 0) (h) (λ(a:ae)(D:Array aa)(f:Nw)=>c2 (E [a] 0x10) d)
end
theorem wM(G:Good b){e:Ev}{R:dq->aD->Prop}{s0:aD}{C0:Cells}{l it:ae}{x:aR}{t:aX}:∀(os:List Int)(i:Int)(s:aD)(ys:List aa)(H:Hs),pW x i os->At b s0 C0 s (d' H Je [(it,.fr [.str x t,.int i 0]),(l,.ls ys)])->ys.length+os.length<=1048576->(∀q y z,bl y (os.map eQ)->At b s0 C0 q (d' z [.ls] [(l,.ls (ys++y))])->R (.ok (.ret .none)) q)->bx (aW b.prog b.w) e.ar (.builtin "list.extend.loop" ⟨[.ref l,.ref it,.none],[]⟩) R s
 |[],i,s,ys,H,u,a,d,A=>by refine qL (bf:=cK.«list.extend.loop») (aL (by kernel_rfl)) ?_;show a_ _ _ _ (qt (.ref it)>>=_) _ _ s;refine au (aQ (Jf (e:=e) (c:=.builtin "list.extend.loop" ⟨[.ref l,.ref it,.none],[]⟩) (K:=λ f r vs tl=>r=.ok .next/\tl=[]/\vs=[(l,.ls ys)]) G u.end ⟨rfl,rfl,rfl⟩ H s0 C0 s a) (λ v m g=>g.out λ j vs tl p k n=>?_) λ x m g=>g.out λ f f f f k f=>(by injection k.1));obtain⟨w,rfl,rfl⟩:=k;induction v with|some v=>exact(by injection w with h;injection h)|none=>exact bG (A m [] p .nil ((aA ys).symm▸(n.sub (a9 _ _))))
 |o::os,i,s,ys,H,u,a,d,A=>by refine qL (bf:=cK.«list.extend.loop») (aL (by kernel_rfl)) ?_;show a_ _ _ _ (qt (.ref it)>>=_) _ _ s;refine au (aQ (OO (e:=e) (c:=.builtin "list.extend.loop" ⟨[.ref l,.ref it,.none],[]⟩) (K:=λ f r vs tl=>∃t',r=.ok (.ret (.str (eQ o) t'))/\tl=[]/\vs=[(it,.fr [.str x t,.int (i+1) 0]),(l,.ls ys)]) G u.at (λ t'=>⟨t',rfl,rfl,rfl⟩) H s0 C0 s a) (λ v m g=>g.out λ j vs tl p k n=>?_) λ x m g=>g.out λ f f f f k f=>k.elim λ f h=>(by injection h.1));obtain⟨t',w,rfl,rfl⟩:=k;induction v with|none=>exact(by injection w with h;injection h)|some v=>cases eU (cA w);have n:At b s0 C0 m [(l,lO ys (p 1).e),(it,Eu x t (i+1))]:=(n.sub (a9 _ _)).perm (.swap _ _ _);show a_ _ _ _ (Vj l (λ a=>a.push _)>>=λ f=>again _) _ _ m;refine au (EA (n.R.own _ (.head _)) (ai (bX _ _) d) λ C T=>bG ⟨rP (by decide+kernel) _,?_⟩);have F:=(At.upd (V:=[_]) (D:=[_]) n T).perm (.swap _ _ _);refine wM G os (i+1) C (ys++[.str (eQ o) t']) (λ f=>{p 1 with e:=(p 1).e+1}) u.next F (by rw [bh,jl];rw [eH]at d;exact li 0x10000060411031130100000601104131111 [ys.length,os.length] rfl d) λ q y z I B=>?_;rw [bb]at B;exact A q _ z (.cons I) B
noncomputable def Xq(G:Good b)(os:List Int):Ok b:=⟨gD "list.extend.loop" [.re,.re,.no] [.fl "str_iterator" [.st,.it],.ls] λ l it x t i m ys ep=>⟨[it,l],λ d d d K=>(m=0/\pW x i os/\ys.length+os.length<=1048576)/\∀g j,bl g (os.map eQ)->K 0 (.ok (.ret .none)) [(l,lO (ys++g) j)] []⟩,bF λ l it x t i m ys ep=>.mk λ A s rest K R h n Rd k=>by obtain⟨⟨rfl,o,f⟩,h⟩:=h;obtain⟨e,p⟩:=Ev.of n;rw [p];exact wM G os i s ys (λ d=>⟨λ d=>0,λ d=>0,ep⟩) o (At.start Rd.left) f λ u g q r a=>k 0 _ _ _ _ (h g (q 0).e r) a.T⟩
theorem EB{a b:List aa}{ts:List aR}(h:bl a ts):bl b ts->a.length=b.length/\∀(j:Nat)(d:j<a.length)(f:j<b.length),qK a[j] b[j]:=by induction h generalizing b with|nil=>intro k;cases k;exact⟨rfl,λ j h=>absurd h (cQ j)⟩|@cons x t vs ts h g=>intro k;cases k with|@cons _ t' _ _ m=>obtain⟨e,k⟩:=g m;refine⟨congrArg (·+1) e,λ j d f=>?_⟩;induction j with|zero=>exact .inr ⟨x,t,t',rfl,rfl⟩|succ j=>exact k j (b8 d) (b8 f)
theorem Jg{prog:d7}{w:cP}{A:dx}{s:aD}{l m:ae}{a b:List aa}{ts:List aR}{d f:Nat}{Q:aa->aD->Prop}{E:aa->aD->Prop}(g:bl a ts)(n:bl b ts)(o:s.heap.get? l=ab (lO a d))(p:s.heap.get? m=ab (lO b f))(q:A.units<yH)(h:Q (.bool ah) s):bV (aW prog w) A (fA .Eq (.ref l) (.ref m)) Q E s:=by obtain⟨e,k⟩:=EB g n;exact Hn ⟨_,o,rfl,_,rfl⟩ ⟨_,p,rfl,_,rfl⟩ (by simpa using e) q (λ j r u=>qK.at (k j (by simpa using r) (by simpa using u))) (by rw [rQ.mpr λ v v=>rfl];exact h)
end
theorem pX(a b:Nat):kL (a:Int) (b:Int)=((a|||b:Nat):Int):=by
 unfold kL br Builtin.bitNot;have c:decide (0<=-(a:Int)-1)=af:=by simp;exact li 0x11103544 [a] rfl
 have d:decide (0<=-(b:Int)-1)=af:=by simp;exact li 0x11103544 [b] rfl
 rw [c,d];dsimp only;have e:(-(-(a:Int)-1)-1).toNat=a:=by lia
 have f:(-(-(b:Int)-1)-1).toNat=b:=by lia
 rw [e,f];exact bg (li 0x351101103543434 [a|||b] rfl) (li 0x110110354343354 [a|||b] rfl)
theorem EC(h:0<=v)(c:0<=d/\d<64):kL (v*2^6) d=v*64+d:=by
 obtain⟨a,rfl⟩:=dI h;obtain⟨b,rfl⟩:=dI c.1;have e:((a:Int)*2^6)=((2^6*a:Nat):Int):=by lia
 rw [e,pX,<-Nat.two_pow_add_eq_or_of_lt (by lia)];lia
theorem bits(h:0<=d/\d<64):br d 63=d/\br (d+64) 63=d/\br (d+128) 63=d/\br (d+64+128) 63=d/\br (d+64) 64=64/\br (d+64+128) 64=64/\br d 64=0/\br (d+128) 64=0:=by
 have key:∀d:Fin 64,br d.1 63=d.1/\br (d.1+64) 63=d.1/\br (d.1+128) 63=d.1/\br (d.1+64+128) 63=d.1/\br (d.1+64) 64=64/\br (d.1+64+128) 64=64/\br d.1 64=0/\br (d.1+128) 64=0:=by decide+kernel
 have:=key ⟨d.toNat,by exact lj 0x14020332635112140206112 [d.toNat] [d] rfl h.2 (bC h.1)⟩;rw [show(((⟨d.toNat,by exact lj 0x14020332635112140206112 [d.toNat] [d] rfl h.2 (bC h.1)⟩:Fin 64).1:Nat):Int)=d from bC h.1]at this;exact this
noncomputable def B4(m k:Nat):Int:=((m/64^k:Nat):Int)
noncomputable def Tq(m:Nat):Nat->List Int|0=>[((m%64:Nat):Int)]|k+1=>(((m/64^(k+1)%64:Nat):Int)+64)::Tq m k
noncomputable def Ts:Nat->List Int|0=>[]|k+1=>((k+1:Nat):Int)::Ts k
theorem zR(m k:Nat):B4 m (k+1)*64+((m/64^k%64:Nat):Int)=B4 m k:=by
 unfold B4;have:m/64^(k+1)=m/64^k/64:=by rw [rg,Nat.div_div_eq_div_mul]
 rw [this];lia
theorem OP(h:m<2^60):∀(k:Nat)(b:Int),br b 64=64->VT (B4 m (k+1)) b (Tq m k) m:=by
 intro k
 induction k with
  |zero=>
   intro b e;have c:0<=((m%64:Nat):Int)/\((m%64:Nat):Int)<64:=by exact⟨li 0x35004 [m%64] rfl,li 0x14020354140203111 [m%64] rfl (vH m (by decide:0<64))⟩
   have d:=zR m 0;have f:B4 m 0=m:=by unfold B4;rw [Vr,Wh]
   rw [Vr,Wh,f]at d;have a:=bits c;refine⟨e,⟨aS _,by unfold B4;have:=Nm m (64^(0+1));lia⟩,a.2.2.2.2.2.2.1,?_⟩;rw [a.1,EC (show 0<=B4 m (0+1)from aS _) c];exact d.symm
  |succ k g=>
   intro b e;have c:0<=((m/64^(k+1)%64:Nat):Int)/\((m/64^(k+1)%64:Nat):Int)<64:=by exact⟨li 0x35004 [m/64^(k+1)%64] rfl,li 0x14020354140203111 [m/64^(k+1)%64] rfl (vH (m/64^(k+1)) (by decide:0<64))⟩
   have d:=zR m (k+1);have a:=bits c;refine⟨e,⟨aS _,by unfold B4;have:=Nm m (64^(k+1+1));lia⟩,?_⟩;rw [a.2.1,EC (show 0<=B4 m (k+1+1)from aS _) c,d];exact g _ a.2.2.2.2.1
theorem yh(k:Nat):pw (k:Int)=((64^k:Nat):Int):=rfl
theorem Jh(m k:Nat):Z.modQ (Q6 (m:Int) (pw (k:Int))) 64=((m/64^k%64:Nat):Int):=by rw [<-Z.modQ_eq,yh,vF _ (aS _),vI _ (by decide)];lia
theorem zS(m:Nat):Z.modQ (m:Int) 64=((m%64:Nat):Int):=by rw [<-Z.modQ_eq,vI _ (by decide)];lia
theorem OQ{m j k:Nat}(h:inD (m:Int) w k)(a:j<=k):inD (m:Int) w j:=h.elim .inl λ h=>.inr (by rw [yh]at h⊢;have:=BU (n:=64) (by decide) a;exact li 0x4555403511104535112 [64^k,m,64^j] rfl h this)
theorem OR{m:Nat}{w:Int}:∀k,inD (m:Int) w (k:Nat)->dl m w (Ts k)++[Z.modQ m 64]=Tq m k:=by intro k;induction k with|zero=>intro _;rw [zS];rfl|succ k a=>intro h;unfold Ts dl;rw [if_pos h,fZ,a (OQ h (om k)),Jh];rfl
theorem Ji{m:Nat}{w:Int}:∀k,m<64^(k+1)->∃K,K<=k/\m<64^(K+1)/\dl m w (Ts k)++[Z.modQ m 64]=Tq m K:=by
 intro k
 induction k with
  |zero=>intro h;exact⟨0,bt _,h,by rw [zS];rfl⟩
  |succ k a=>
   intro h;by_cases hk:inD (m:Int) w ((k+1:Nat):Int);.exact⟨k+1,bt _,h,OR _ hk⟩
   .obtain⟨K,b,c,d⟩:=a (Nat.lt_of_not_le λ e=>hk (.inr (by rw [yh];exact li 0x45354043111 [64^(k+1),m] rfl e)));refine⟨K,fL b,c,?_⟩;unfold Ts dl;rw [if_neg hk,d]
theorem ED{a:Int}(h:0<=a/\a<68719476736)(w:Int):∃o os,oct a w=o::os/\VC o os a/\128<=o:=by
 obtain⟨m,rfl⟩:=dI h.1;obtain⟨K,_,f,e⟩:=Ji (m:=m) (w:=w) 5 (by have:=h.2;lia);have e:dl m w [5,4,3,2,1]++[Z.modQ m 64]=Tq m K:=e;have c:m<2^60:=by have:=h.2;lia
 have g:∀k,m<64^(k+1)->B4 m k=((m/64^k%64:Nat):Int):=λ k i=>by unfold B4;rw [Nat.mod_eq_of_lt (Nat.div_lt_of_lt_mul (by rw [<-rg];exact i))]
 unfold oct;rw [e]
 induction K with
  |zero=>
   have d:0<=((m%64:Nat):Int)/\((m%64:Nat):Int)<64:=by exact⟨li 0x35004 [m%64] rfl,li 0x14020354140203111 [m%64] rfl (vH m (by decide:0<64))⟩
   have b:=bits d;refine⟨_,_,rfl,⟨b.2.2.2.2.2.2.2,?_⟩,by exact li 0x802035180204 [m%64] rfl⟩;rw [b.2.2.1];lia
  |succ k=>
   have d:0<=((m/64^(k+1)%64:Nat):Int)/\((m/64^(k+1)%64:Nat):Int)<64:=by exact⟨li 0x35004 [m/64^(k+1)%64] rfl,li 0x14020354140203111 [m/64^(k+1)%64] rfl (vH (m/64^(k+1)) (by decide:0<64))⟩
   have b:=bits d;refine⟨_,_,rfl,?_,by exact li 0x80204020351180204 [m/64^(k+1)%64] rfl⟩;unfold VC;rw [b.2.2.2.1];have q:=OP c k _ b.2.2.2.2.2.1;rw [g (k+1) f]at q;exact q
set_option backward.match.sparseCases true
noncomputable def EE:aR:=⟨#[108,101,97,102]⟩
noncomputable def i':aR:=⟨#[115,101,101,110]⟩
noncomputable def n5:aR:=⟨#[116,111,108,100]⟩
noncomputable def EF:aR:=⟨#[115,105,103,110]⟩
noncomputable def EG:aR:=⟨#[119,111,114,116,104]⟩
noncomputable def ZL:aR:=⟨#[95,108,97,119,95,108,111,111,107,46,60,108,111,99,97,108,115,62,46]⟩
noncomputable def Tt:List aR:=[EE,i']
noncomputable def Tu:List aR:=[EE,i',n5,EG]
noncomputable def oY(L:ae):fJ:=nu 18 ZL 115 114 L []
noncomputable def lB(p:Cp):aT:=.func (aP 18) (oY p.L)
noncomputable def ZM:bO:=xE (xE (sE (bE (aP 18) 2) 0) 1) 1
noncomputable def sv(p:Cp):aT:=.compLoop ZM 0 (.ref p.it) (.ref p.acc) (x1 ZM ZL 114 p.L p.F)
noncomputable def OS:Bool->List Kd|ah=>[.dc [],.fl "str_iterator",.ls]|af=>[.dc [EF],.fl "str_iterator",.ls]
noncomputable def EH:List Kd:=[.dc [EF],.ls]
noncomputable def ZN(os:List Int)(p:Cp)(x:aR)(tx:aX)(i:Int)(f:aX)(ys:List aa):Ct:=⟨[p.L,p.it,p.acc],λ d u g=>[d+20<900,f=0,pW x i os,(∀o∈os,0<=o),ys.length+os.length<=100],λ K=>∀v a,aV a os->K 0 (.ok .next) [(p.L,.fr [v]),(p.acc,.ls (ys++a))] []⟩
noncomputable def Xr(os:List Int)(p:Cp)(v:aa):=ZN os p
noncomputable def Tv(os:List Int):Sp:=gb (.of fo sv) [.fr [],.fr [.st,.it],.ls] (OS ah) (k1 EH) (ZN os)
noncomputable def Mg(os:List Int):Sp:=gb (.of fo sv) [.fr [.an],.fr [.st,.it],.ls] (OS af) (k1 EH) (Xr os)
theorem Jj(h:0<=o):(((eQ o).cps.getD 0 0:Nat):Int)=o:=bC h
section
variable{b:Bs}(G:Good b)
include G
theorem EI{e:Ev}{K:Kv}{o:Int}{os:List Int}{p:Cp}{x:aR}{tx:aX}{i:Int}{ys:List aa}(u:bj b (Mg os))(hd:e.dp+20<900)(f:Bool){j:List aa}(w:mv f j)(hS:pW x i (o::os))(m:∀q∈o::os,0<=q)(r:ys.length+(o::os).length<=100)(y:∀v a,aV a (o::os)->K 0 (.ok .next) [(p.L,.fr [v]),(p.acc,.ls (ys++a))] []):dg b e (sv p) (OS f) [(p.L,.fr j),(p.it,.fr [.str x tx,.int i 0]),(p.acc,.ls ys)] (k1 EH) K:=by
 have k:ys.length<=1048576:=ai (ai (bX _ _) r) (by decide);have z:∀q∈os,0<=q:=λ q B=>m q (.tail _ B);have g:∀v t a,aV a os->K 0 (.ok .next) [(p.L,.fr [v]),(p.acc,.ls (snoc ys (.int (((eQ o).cps.getD 0 0:Nat):Int) t)++a))] []:=λ v t a C=>by rw [fu];exact y v _ ⟨⟨t,by rw [Jj (m o (.head _))]⟩,C⟩
 induction f<;>rcases j with _|⟨v,_|⟨_,_⟩⟩<;>induction w;all_goals exact dg.run G [] [Ex o,WK,dP,⟨_,u⟩] (oo 0x213112341632156111414112422134141 []) λ n=>c4 (E [p.3] 0x1000) (@rfl aX 0) hS.at (λ(t':aX)(F:Nw)=>c3 (E [p.1] 0x1000) ((⟨o,rfl⟩:∃i,eQ o=eQ i)) (λ(t:aX)(I:Nw)=>c3 (E [p.4] 0x100) k (λ(D:Nat)(J:Nw)=>c8 (E [p.1,p.3,p.4] 0x1210) (@rfl aT (sv p)) hd (@rfl aX 0) hS.next (λ(d:Int)(h:d∈os)=>z d h) (iz _ r:(snoc ys (ak (↑((eQ o).cps.getD 0 0):Int) t)).length+os.length<=100) (λ(l:aa)(a:List aa)(h:aV a os)(L:Nw)=>g l t a h))))
theorem OT:∀os,bj b (Mg os):=by intro os;induction os with|nil=>exact ct λ p v x tx i k ys e rest K hd a hS g j d=>by cases a;exact dg.run G [] [zQ] (oo 0x3231822134141 []) λ n=>c4 (E [p.3] 0x1000) (@rfl aX 0) hS.end (λ(f:ae)(D:Array aa)(m:Nw)=>c2 (E [f] 0x10) (aA ys▸d v [] trivial))|cons o os l=>exact ct λ p v x tx i k ys e rest K hd a hS g j d=>by cases a;exact EI G l hd af trivial hS g j d
theorem OU(o:Int)(os:List Int):bj b (Tv (o::os)):=ct λ p x tx i j ys e rest K hd a hS d f g=>by cases a;exact EI G (OT G os) hd ah trivial hS d f g
end
theorem tJ.ats:∀{os:List Int}{i:Int},tJ xs i os->Rl xs i os:=by intro os;induction os with|nil=>intro _ h;exact h.1|cons _ _ a=>intro _ h;exact⟨h.1,h.2.1,a h.2.2⟩
theorem OV{os:List Int}{xs:List aa}(h:aV xs os):Rl xs 0 os:=(lu (ys:=[]) h).ats
theorem zT{o:Int}{os:List Int}(h:128<=o):(strOf (o::os)).cps.all (·<128)=af:=by show((o::os).map iZ).toArray.all (·<128)=af;rw [List.all_toArray,bu,List.all_cons,show decide (o.toNat<128)=af from decide_eq_false (λ q=>lj 0x356112180203111068020112 [o.toNat] [o] rfl h q (eS o)),Ni]
theorem wN(os:List Int):pW (strOf os) 0 os:=⟨aN _,by show(os.map iZ).toArray.toList.drop 0=_;rw [List.toList_toArray];rfl⟩
noncomputable def Tw:List Kd:=[.fr Tt,.ls]
noncomputable def OW:List Kd:=[.ls,.fr Tu,.ls]
section
variable{b:Bs}(G:Good b){x:El}{o:Int}{os:List Int}(ho:oct x.n (lR x.tag)=o::os)(hS:bj b (Tj x))
include G ho hS
theorem Jk{e:Ev}{K:Kv}{r:Nat->List Kd}{p:Cp}{seen:ae}{ys:List aa}(hd:e.dp+90<900)(u:VC o os x.n)(d:128<=o)(w:∀q∈os,0<=q)(y:(o::os).length<=6)(z:∀told a t,bl a ((o::os).map eQ)->K 0 (.ok .next) [(seen,.ls ys),(p.L,.fr [.ref x.e,.ref seen,.ref told,.int x.n t]),(told,.ls a)] []):DS b e (lB p) (cj 3 (aP 18)) (oY p.L) Tw [(p.L,.fr [.ref x.e,.ref seen]),(seen,.ls ys)] (kM OW r) K:=by
 have B:=zT (os:=os) d;have C:=wN (o::os);have D:∀q∈o::os,0<=q:=dJ.mpr ⟨bk (by decide) d,w⟩;have l:0+(o::os).length<=100:=by exact li 0x64203001306103111 [(o::os).length] rfl y
 have m:∀{a},bl a ((oct x.n (lR x.tag)).map eQ)->bl a ((o::os).map eQ):=λ h=>ho▸h;have F:∀{a},bl a ((oct x.n (lR x.tag)).map eQ)->nF ⟨#[]⟩ a (strOf (o::os)):=λ h=>pS (m h) (li 0x3e83033064203001111 [(o::os).length] rfl l);exact DS.run G [] [⟨_,hS⟩,wy (strOf (o::os)),Ew,⟨_,OU G o os⟩,⟨_,LU G o os x.n⟩] (oo 0x467416c31317121414411122271416e2a1151221416111213131621122212124124 []) λ n=>c4 (E [n.1 1,n.1 0,x.1,p.1] 0x13331111113210) (fj hd:e.dp+1+40<900) (@rfl String ("list.append")) (λ(a:List aa)(h:bl a (cF eQ (oct x.n (lR x.tag))))(J:Nw)=>c3 (E [n.1 0,p.1] 0x110) (F h) (λ(t:aX)(L:Nw)=>c2 B (λ(it:ae)(g:Nw)=>c8 (E [g.1 1,it,g.1 0] 0x111210) (@rfl aT (sv (Cp.mk (g.1 1) p.1 it (g.1 0) 0 0 0))) (fj hd:e.dp+1+20<900) (@rfl aX 0) C (λ(i:Int)(f:i∈o::os)=>D i f) l (λ(v:aa)(j:List aa)(f:aV j (o::os))(I:Nw)=>c5 (E [I.1 0,g.1 0,g.1 1] 0x1222111010) (fj hd:e.dp+1+60<900) u (OV f) (λ(k:aX)(N:Nw)=>c2 (E [p.1] 0x100) (z (n.ad 0) a k (m h)))))))
end
section
variable{M:qx}{A:dx}{c:aT}{env:fJ}{s:aD}{E:aa->aD->Prop}
theorem A9{f:aa}{x:nh aa}{Q:Args->aD->Prop}(h:a_ M A c x (λ v i=>Q ⟨[v],[]⟩ i) E s):a_ M A c (evalArgs f ah [(af,x)] []) Q E s:=by
 have d:a_ M A c (qR [(af,x)]) (λ vs i=>∃v,vs=[v]/\Q ⟨[v],[]⟩ i) E s:=by show a_ M A c (x>>=λ v=>(pure [v]>>=λ a=>gh a (qR [])>>=λ r=>pure (a++r))) _ _ _;refine au (aQ h (λ v i d=>?_) λ g g x=>x);refine au (bG ?_);show a_ M A c (gh [v] (pure [])>>=λ r=>pure ([v]++r)) _ _ _;exact au (dz (bG (bG ⟨v,rfl,d⟩)))
 show a_ M A c (cG (qR [(af,x)]) _) _ _ _;refine au (aQ d (λ vs i d=>?_) λ g g x=>x);obtain⟨v,rfl,d⟩:=d;exact bU (hD (λ g g g=>d))
theorem sx{id:String}{a:List aa}(h:a_ M A c x (λ v f=>a_ M A c (call (.builtin id) (a++[v])) Q E f) E s):a_ M A c (Lo pos (.builtin id) a [(af,x)] []) Q E s:=by unfold Lo;refine au (dz (A9 (aQ h (λ v f g=>?_) λ d d x=>x)));refine au (bU (bI ?_));refine au (bG ?_);exact au (aQ g (λ r j i=>bU (aw (hD (Lj (bc i))))) λ d d x=>x)
theorem EJ{e:bO}{p:Aw}(hi:Lr env=af)(g:Vs e az p.line env=pure af)(h:a_ M A c (dh e env) (λ v f=>v=.none/\a_ M A c (dU rest env) Q E f) E s):a_ M A c (dU (.Expr e p::rest) env) Q E s:=by
 rw [gP];refine au ?_;show a_ M A c (eR p>>=λ a=>if Lr env=ah then printExpr (dh e env)else(Vs e az p.line env>>=λ b=>if b=ah then(do evalThenUse e env λ a=>point;pure .next)else(do Vt e p (<-dh e env)))) _ _ _;rw [hi,g];refine au (bU (bI ?_));show a_ M A c (dh e env>>=λ v=>Vt e p v) _ _ _;refine au (aQ h (λ v f d=>?_) λ a a x=>x);obtain⟨rfl,d⟩:=d;have:Vt e p .none=(pure .next:nh BR):=by cases e<;>rfl
 rw [this];exact bG d
theorem A_{a body d:bO}{pos:Aw}(h:a_ M A c (eP a env (dh a env)) (λ t g=>t=ah/\a_ M A c (dh body env) Q E g) E s):a_ M A c (dh (.IfExp a body d pos) env) Q E s:=by show a_ M A c (eP a env (dh a env)>>=λ t=>if t=ah then dh body env else dh d env) _ _ _;refine au (aQ h (λ t g f=>?_) λ i i x=>x);obtain⟨rfl,f⟩:=f;exact f
theorem A'{x y:bO}{pos:Aw}(h:a_ M A c (eP x env (dh x env)) (λ t f=>t=ah/\a_ M A c (eP y env (dh y env)) (λ t g=>t=ah/\Q ah g) E f) E s):a_ M A c (eP (.BoolOp .And [x,y] pos) env w) Q E s:=by show a_ M A c (eP x env (dh x env)>>=λ t=>match ji,t with|.And,af=>pure af|.Or,ah=>pure ah|_,_=>t9 .And [y] env) _ _ _;refine au (aQ h (λ t f a=>?_) λ d d x=>x);obtain⟨rfl,a⟩:=a;show a_ M A c (eP y env (dh y env)>>=λ t=>match ji,t with|.And,af=>pure af|.Or,ah=>pure ah|_,_=>pure (ji==.And)) _ _ _;refine au (aQ a (λ t f a=>?_) λ d d x=>x);obtain⟨rfl,a⟩:=a;exact λ d d d d=>a
end
section
variable{b:Bs}{e:Ev}{c:aT}{ks:List Kd}{vs:List eK}{ks':Nat->List Kd}{K:Kv}{H:Hs}{s0 s:aD}{C0:Cells}{env:fJ}
theorem DT.then(h:DT b e c x env ks vs (k1 kj) (eM (.bool ah) ot))(a:At b s0 C0 s (d' H ks vs)){Q:Bool->aD->Prop}{E:aa->aD->Prop}(n:∀q d,At b s0 C0 d (d' q kj ot)->Q ah d):a_ (aW b.prog b.w) e.ar c (eP x env (dh x env)) Q E s:=aQ (h H s0 C0 s a) (λ k d g=>g.out λ j i tl l f m=>by generalize u:(fy (Rb k):dq)=r at f;induction f;induction k with|false=>exact nomatch u|true=>exact n l d (m.sub (a9 _ _))) λ x d g=>g.out λ j i tl l f m=>nomatch f
theorem DE.OX{x y body d:bO}(hx:DT b e c x env ks vs (k1 ks) (eM (.bool ah) vs))(f:DT b e c y env ks vs (k1 ks) (eM (.bool ah) vs))(g:DE b e c body env ks vs (k1 ks) (eM v vs)):DE b e c (.IfExp (.BoolOp .And [x,y] p) body d p2) env ks vs (k1 ks) (eM v vs):=λ H s0 C0 s a=>A_ (A' (hx.then a λ l m i=>⟨rfl,f.then i λ n q j=>⟨rfl,rfl,g.then j λ r u k=>k.fin⟩⟩))
theorem DS.append{o x:bO}{d pos k:Aw}(hi:Lr env=af)(i:Vs (.Call (.Attribute o jk d) [x] [] pos) az k.line env=pure af)(u:dh (.Call (.Attribute o jk d) [x] [] pos) env=(dh o env>>=λ m=>eR d.atName>>=λ C=>gh [m] (getMethod m jk pl)>>=λ r=>Lo pos r.1 r.2 [(af,dh x env)] []))(ho:DE b e c o env (.ls::kj) ((l,.ls ys)::zU) (k1 (.ls::kj)) (eM (.ref l) ((l,.ls ys)::zU)))(hx:DE b e c x env (.ls::kj) ((l,.ls ys)::zU) (k1 (.ls::kj)) (eM v ((l,.ls ys)::zU)))(w:ys.length<=1048576)(y:DS b e c rest env (.ls::kj) ((l,.ls (snoc ys v))::zU) ks' K):DS b e c (.Expr (.Call (.Attribute o jk d) [x] [] pos) k::rest) env (.ls::kj) ((l,.ls ys)::zU) ks' K:=λ H s0 C0 s a=>by
 refine EJ hi i ?_;rw [u];refine au (ho.then a λ D F n=>au (bU (bI (au (dz (bU ?_))))));rw [show jk=("append":aR)by decide];refine getMethod_list_append (n.R.own (l,_) (.head _)) rfl rfl (sx (hx.then n λ f I q=>bU ?_));refine append_at (q.R.own (l,_) (.head _)) (λ J z g=>⟨rfl,?_⟩) (by show ys.toArray.size<=lN;rw [di,b6];exact li 0x100000070330100000603111 [ys.length] rfl w);have B:({cls:=.type "list",data:=.seq (ys.toArray.push v) ((f 0).e+1)}:dR)=lO (snoc ys v) ((f 0).e+1):=by rw [List.push_toArray];rfl
 rw [B]at g;exact y (λ|0=>{f 0 with e:=(f 0).e+1}|j+1=>f (j+1)) s0 C0 _ (At.upd q (Trans.one g z))
end
noncomputable def Ro:bO:=sE (bE (aP 18) 3) 0
noncomputable def Tx:bO:=xE Ro 1
noncomputable def VM:bO:=xE Tx 0
noncomputable def Tz:bO:=xE VM 0
theorem EK:aC 3 (aP 18)=.Expr (.Call (.Attribute (xE (xE Ro 0) 0) jk (aY (xE Ro 0))) [.IfExp (.BoolOp .And [.Compare (xE Tz 0) [.Eq] [xE Tz 1] (aY Tz),xE VM 1] (aY VM)) (xE Tx 1) (xE Tx 2) (aY Tx)] [] (aY Ro)) (kP (bE (aP 18) 3))::aC 4 (aP 18):=by kernel_rfl
section
variable{b:Bs}(G:Good b)
include G
noncomputable def lC(f:bN b d0 (ft es ep))(g:dr b.w (ft es ep) (ents es))(i:cy (ents es) k0=ab v):Ok b:=⟨gD "dict.__getitem__" [.re,.st] [] λ d k a=>⟨[],λ a a a K=>(d=d0/\k=k0)/\K 0 (.ok (.ret v)) [] []⟩,bF λ d k tk=>.mk λ A s rest K R h l Rd q=>by obtain⟨⟨rfl,rfl⟩,j⟩:=h;rw [G.prog];exact r9 (Rd.jq _ _ f.1 f.2) g i λ a=>q 0 _ _ _ _ j (Trans.nil _ _)⟩
variable{e:Ev}{p:Cp}{x:El}{seen told k0:ae}{t:aX}{h:Ht}(hF:bN b p.L (Hc Tu [.ref x.e,.ref seen,.ref told,.int x.n t] h))
include hF
theorem OY:DE b e (lB p) (xE (xE Ro 0) 0) (oY p.L) [] [] (k1 []) (eM (.ref seen) []):=DE.run G [⟨_,_,hF⟩] [] (oo 0x113 []) λ n=>c2 (E [p.1] 0x10) (iG (.ref seen) [])
theorem OZ:DE b e (lB p) (xE Tz 0) (oY p.L) [] [] (k1 []) (eM (.ref told) []):=DE.run G [⟨_,_,hF⟩] [] (oo 0x113 []) λ n=>c2 (E [p.1] 0x10) (iG (.ref told) [])
theorem O0{K:Kv}{f:List aa}{ep:Nat}{os:List Int}(i:bN b told (lO f ep))(j:nF ⟨#[]⟩ f (strOf os))(k:(strOf os).cps.all (·<128)=af)(m:pW (strOf os) 0 os)(q:0+os.length<=1048576)(r:∀g ys,bl ys (os.map eQ)->K 0 (.ok (.ret (.ref g))) [(g,.ls ys)] []):DE b e (lB p) (xE Tz 1) (oY p.L) [] [] (k1 [.ls]) K:=DE.run G [⟨_,_,hF⟩] [ON i (strOf os),Ew,Ez,Xq G os] (oo 0x1211231641141212212122115111131311 []) λ n=>c3 (E [p.1] 0x10) (c2 (@rfl ae told) j) (λ(u:aX)(w:Nw)(l:ae)(y:Nw)=>c3 (E [l] 0x10000000) k (λ(it:ae)(z:Nw)=>c3 (E [it,l] 0x1010) (c3 (@rfl aX 0) m q) (λ(a:List aa)(v:Nat)(d:bl a (cF eQ os))(B:Nw)=>r l a d)))
variable(hx:bN b x.e (fO (gJ (.ref k0) [] .none) (ab x.dk)))(hd:bN b x.dk (B2 x))
include hx hd
theorem O1:DE b e (lB p) (xE Tx 1) (oY p.L) [] [] (k1 []) (eM (.str x.tag x.tt) []):=DE.run G [⟨_,_,hF⟩,⟨_,_,hx⟩,⟨_,_,hd⟩] [] (oo 0x11755515153 []) λ n=>c2 (E [x.2,x.1,p.1] 0x12111110) (iG (.str x.tag x.tt) [])
theorem O2(a:bN b x.ad (ft x.j2 x.l7))(d:dr b.w (ft x.j2 x.l7) (ents x.j2))(f:cy (ents x.j2) ou=ab (.int x.n tv)):DT b e (lB p) (xE VM 1) (oY p.L) [] [] (k1 []) (eM (.bool ah) []):=DT.run G [⟨_,_,hF⟩,⟨_,_,hx⟩,⟨_,_,hd⟩,⟨_,_,a⟩] [lC G a d f,xU ah] (oo 0x1111411113919997555151533 []) λ n=>c3 (E [x.10,x.2,x.1,p.1] 0x1332222210000) (c2 (@rfl ae x.ad) (@rfl aR (fb (bY [110])))) (λ(g:Nw)=>c2 ((rfl:x.n=x.n)) (λ(i:Nw)=>iG (.bool ah) []))
end
noncomputable def cLf(x:El)(p:Cp)(seen:ae)(ys:List aa):Ct:=⟨[p.L,seen],λ d u a=>[d+90<900,u+100<9900,ys.length<=1000],λ K=>∀t t',K 0 (.ok (.ret (.int x.n t))) [(seen,.ls (snoc ys (.str x.tag t')))] []⟩
noncomputable def Xs(x:El):Sp:=gb (.of fo lB) [.fr [.rq x.e,.re],.ls] Tw (k1 [.ls]) (cLf x)
noncomputable def cLk(x:El)(seen:ae)(ys:List aa):Ct:=⟨[seen],λ d u a=>[d+100<900,u+110<9900,ys.length<=1000],λ K=>∀t t',K 0 (.ok (.ret (.int x.n t))) [(seen,.ls (snoc ys (.str x.tag t')))] []⟩
noncomputable def EL(x:El):Sp:=gb (.call 115 [.rq x.e,.re]) [.ls] [.ls] (k1 [.ls]) (cLk x)
theorem O3(h:mz w x):∃t,cy (ents x.j2) ou=ab (.int x.n t):=by have a:=h.num.2;have d:=h.has;unfold x2 at a;induction e:cy (ents x.j2) ou with|none=>exact absurd e d|some v=>rw [e]at a;induction v<;>first|exact ns a|(cases a;exact⟨_,rfl⟩)
section
variable{b:Bs}(G:Good b){k0 fQ:ae}{x:El}{cv:List aa}(hx:ej b k0 fQ x)(ho:mz b.w x)
include G hx ho
theorem Jl{e:Ev}{K:Kv}{p:Cp}{seen told:ae}{ys r:List aa}{t:aX}{o:Int}{os:List Int}(z:e.un+100<9900)(B:ys.length<=1048576)(g:128<=o)(u:(o::os).length<=6)(w:bl r ((o::os).map eQ))(C:∀t t',K 0 (.ok (.ret (.int x.n t))) [(seen,.ls (snoc ys (.str x.tag t')))] []):DS b e (lB p) (aC 3 (aP 18)) (oY p.L) OW [(seen,.ls ys),(p.L,.fr [.ref x.e,.ref seen,.ref told,.int x.n t]),(told,.ls r)] (k1 [.ls]) (l3 K):=by
 obtain⟨tv,D⟩:=O3 ho;refine DS.text EK (DS.append (v:=.str x.tag x.tt) (pl:=do return(<-importBound (xE (xE Ro 0) 0) (oY p.L)).getD ah) (by kernel_rfl) (by kernel_rfl) (by kernel_rfl) (DE.look G λ y d X H i=>OY d (i _ (b7 1 rfl)).1) (DE.look G λ y d X H i=>?_) B ?_);.have hF:=(i _ (b7 1 rfl)).1;have k:=(i _ (b7 2 rfl)).1;have l:dr y.w (ft x.j2 x.l7) (ents x.j2):=X.w▸ho.num.1;refine DE.OX (λ H s0 C0 s a=>my (by kernel_rfl) ((OZ d hF).then a λ F O I=>?_)) (O2 d hF (hx.fn.ext X) (hx.dk.ext X) (hx.ad.ext X) l D) (O1 d hF (hx.fn.ext X) (hx.dk.ext X));refine DE.val (H:=F) (O0 (K:=iS λ P v vs=>∃f ys,bl ys ((o::os).map eQ)/\v=.ref f/\vs=[(f,.ls ys)]) d hF k (pS w (li 0x3e8303306103111 [(o::os).length] rfl u)) (zT g) (wN _) (li 0x100000603001306103111 [(o::os).length] rfl u) λ f ys h=>⟨_,rfl,rfl,f,ys,h,rfl,rfl⟩) I λ j v J L Q l m=>?_;obtain⟨f,N,q,rfl,rfl⟩:=l;exact Jg w q (m.R.jq _ _ k.1 k.2) (m.R.own (f,_) (.head _)) (cM (cZ (cu (by kernel_rfl)) _) z) ⟨ah,rfl,0,[],[],L,.mk,m.sub (cH _)⟩
 .exact DS.run G [] [] (oo 0x1214 []) λ n=>c2 (E [p.1] 0x10) (C t x.tt)
theorem TA(i:bN b fQ (hU cv))(hS:bZ cv):bj b (Xs x):=ct λ p seen ys e rest K hd j k l=>by obtain⟨o,os,d,m,f⟩:=ED ho.n0 (lR x.tag);have a:=lr x.n (lR x.tag);have g:=Dn x.n (lR x.tag);rw [d]at a g;exact dg.fn (DS.cut 3 OW λ D n=>Jk G d (Tn G hx ho i hS) hd m f (λ q r=>(g q (.tail _ r)).1) a λ told v t u=>n _ (Jl G hx ho j (ai k (by decide)) f a u l))
theorem EM(d:bN b fQ (hU cv))(hS:bZ cv):bj b (EL x):=ct λ seen ys e rest K hd f g i=>by
 have a:e.un+100<9900:=by exact li 0x126ac406420313126ac406e2031111 [e.2] rfl f
 exact dg.run G [] [⟨_,TA G hx ho d hS⟩] (oo 0x121213131212112 []) λ n=>c7 (jf hd:e.dp+0<1000) (E [n.1 0,seen,x.1] 0x10000210) (@rfl aT (lB (Cp.mk (n.1 0) (n.1 0) 0 0 0 0 0))) (fj hd:e.dp+0+90<900) a g (λ(t:aX)(t':aX)(j:Nw)=>i t t')
end
set_option backward.match.sparseCases false
section
noncomputable def O4:Ok b:=⟨gD "range.__new__" [.ty,.it] [] λ a n t=>⟨[],λ c c c K=>a="range"/\∀r d e,K 0 (.ok (.ret (.ref r))) [] [(r,nV "range" [.int 0 d,.int n t,.int 1 e])]⟩,bF λ a n t=>.mk λ A s rest K R h g Rd k=>by obtain⟨rfl,f⟩:=h;exact cz (by decide+kernel) (aL (by kernel_rfl)) (AutoRange.range___new___type_int_0 n t (by kernel_rfl)) (k 0 _ _ _ _ (f s.heap.objs.size _ _) (Trans.new rfl (s.toks+1+1)))⟩
noncomputable def O5(x left:Int):dR:=nV "range_iterator" [.int x 0,.int left 0,.int 1 0]
noncomputable def Jm:Ok b:=⟨gD "range.__iter__" [.re] [.fl "range" [.it,.it,.it]] λ r a t b u c v=>⟨[r],λ d d d K=>(a=0/\b=32/\c=1)/\∀it,K 0 (.ok (.ret (.ref it))) [] [(it,O5 0 32)]⟩,bF λ r a t b u c v=>.mk λ A s rest K R h f Rd k=>by obtain⟨⟨rfl,rfl,rfl⟩,e⟩:=h;exact cz (by decide+kernel) (aL (by kernel_rfl)) (AutoRange.range___iter___range_1 r 0 32 1 t u v (by decide)) ⟨Rd.own _ (.head _),k 0 _ _ _ _ (e s.heap.objs.size) ((Trans.eA Rd.left (Trans.new rfl s.toks)).NL (a9 [_] _))⟩⟩
theorem Jn(x l y m:Int):(d8 (·.setIfInBounds 1 (kK m)) (d8 (·.setIfInBounds 0 (kK y)) (O5 x l)))=O5 y m:=rfl
noncomputable def zV:Ok b:=⟨gD "range_iterator.__next__" [.re] [.fl "range_iterator" [.it,.it,.it]] λ it x tx l tl c a=>⟨[it],λ d d d K=>(tx=0/\tl=0/\a=0/\c=1/\0<l)/\∀t,K 0 (.ok (.ret (.int x t))) [(it,O5 (x+1) (l-1))] []⟩,bF λ it x tx l tl c a=>.mk λ A s rest K R h j Rd k=>by obtain⟨⟨rfl,rfl,rfl,rfl,g⟩,i⟩:=h;have hi:s.heap.get? it=ab (O5 x l):=Rd.own _ (.head _);refine bL (b:=cK.«range_iterator.__next__») (by decide+kernel) (aL (by kernel_rfl)) ?_;show bV _ _ (qw (.ref it) 0>>=_) _ _ s;refine aw (dW hi rfl (x:=.int x 0) rfl ?_);show bV _ _ (qw (.ref it) 1>>=_) _ _ s;refine aw (dW hi rfl (x:=.int l 0) rfl ?_);show bV _ _ (qw (.ref it) 2>>=_) _ _ s;refine aw (dW hi rfl (x:=.int 1 0) rfl ?_);show bV _ _ (if l<=0 then _ else _) _ _ s;rw [if_neg (eW.mpr g)];have e:(s.heap.update it (d8 (·.setIfInBounds 0 (kK (x+1))))).get? it=ab (d8 (·.setIfInBounds 0 (kK (x+1))) (O5 x l)):=cX _ hi rfl;refine aw (gu hi rfl (by simp) (aw (gu e rfl (by simp) ?_)));have T:=Trans.trans (Trans.upd hi (f:=d8 (·.setIfInBounds 0 (kK (x+1)))) rfl rfl s.toks) (Trans.upd (f:=d8 (·.setIfInBounds 1 (kK (l-1)))) e (Jn _ _ _ _) rfl (s.toks+1));exact aw (wpAny_mkInt (bc (k 0 _ _ _ _ (i _) T)))⟩
noncomputable def O6:Ok b:=⟨gD "range_iterator.__next__" [.re] [.fl "range_iterator" [.it,.it,.it]] λ it x tx l tl c f=>⟨[it],λ a a a K=>(tx=0/\tl=0/\f=0/\c=1/\l<=0)/\∀e D,K 0 (.error (.ref e)) [] [(e,HI D)]⟩,bF λ it x tx l tl c f=>.mk λ A s rest K R h g Rd k=>by obtain⟨⟨rfl,rfl,rfl,rfl,i⟩,j⟩:=h;have hi:s.heap.get? it=ab (O5 x l):=Rd.own _ (.head _);refine bL (b:=cK.«range_iterator.__next__») (by decide+kernel) (aL (by kernel_rfl)) ?_;show bV _ _ (qw (.ref it) 0>>=_) _ _ s;refine aw (dW hi rfl (x:=.int x 0) rfl ?_);show bV _ _ (qw (.ref it) 1>>=_) _ _ s;refine aw (dW hi rfl (x:=.int l 0) rfl ?_);show bV _ _ (qw (.ref it) 2>>=_) _ _ s;refine aw (dW hi rfl rfl ?_);show bV _ _ (if l<=0 then _ else _) _ _ s;rw [if_pos i];refine aw (lM (aw (ro g λ t D=>k 0 _ _ _ _ (j _ D) ?_)));have m:Trans s {s with heap:=s.heap.push t} [] []:=⟨λ b x h a=>bS _ h,(λ p d=>(absurd d ax)),g9,(λ p d=>(absurd d ax)),⟨rfl,rfl⟩⟩;exact(Trans.eA Rd.left (Trans.trans m (Trans.new rfl s.toks))).NL (a9 [_] _)⟩
noncomputable def O7:Ok b:=⟨gD "int.__bool__" [.it] [] λ x a=>⟨[],λ a a a K=>(¬x=0->K 0 (.ok (.ret (.bool ah))) [] [])/\(x=0->K 1 (.ok (.ret (.bool af))) [] [])⟩,bF λ x t=>.mk λ A s rest K R h c Rd k=>i9 (v:=.bool (x !=0)) (b:=cK.«int.__bool__») (by decide+kernel) (aL (by kernel_rfl)) (.of_eq rfl) (by
 by_cases hx:x=0;.subst hx;exact k 1 _ _ _ _ (h.2 rfl) (Trans.nil s _)
 .rw [show(x !=0)=ah from bne_iff_ne.mpr hx];exact k 0 _ _ _ _ (h.1 hx) (Trans.nil s _))⟩
noncomputable def Mh(z:Int):Ok b:=⟨gD "int.__xor__" [.it,.it] [] λ x a y a=>⟨[],λ a a a K=>fU x y=z/\∀t,K 0 (.ok (.ret (.int z t))) [] []⟩,bF λ x t y u=>.mk λ A s rest K R h c Rd k=>cz (by decide+kernel) (aL (by kernel_rfl)) (show rM (cK.«int.__xor__» ⟨[.int x t,.int y u],[]⟩) (.int (fU x y))from .of_eq rfl).meets (by rw [h.1];exact k 0 _ _ _ _ (h.2 _) (Trans.nil s _))⟩
noncomputable def Mi(z:Int):Ok b:=⟨gD "int.__lshift__" [.it,.it] [] λ x a y a=>⟨[],λ a a a K=>(x=1/\0<=y/\y<=60/\z=1*2^y.toNat)/\∀t,K 0 (.ok (.ret (.int z t))) [] []⟩,bF λ x t y u=>.mk λ A s rest K R h e Rd k=>by obtain⟨⟨rfl,c,d,rfl⟩,h⟩:=h;exact cz (by decide+kernel) (aL (by kernel_rfl)) (Sj 1 y t u ⟨by decide,by decide,c,d⟩).meets (k 0 _ _ _ _ (h _) (Trans.nil s _))⟩
noncomputable def mL(x:Int):aR:=aG ""++aG "0x"++aG (jm (ir 16 x.natAbs))
noncomputable def O9:Ok b:=⟨gD "hex" [.it] [] λ x a=>⟨[],λ a a a K=>(0<=x/\(mL x).length<=1000)/\∀t,K 0 (.ok (.ret (.str (mL x) t))) [] []⟩,bF λ x t=>.mk λ A s rest K R h c Rd k=>by refine bL (b:=cK.«hex») (by decide+kernel) (aL (by kernel_rfl)) ?_;show bV _ _ (retStr ((if x<0 then "-"else "")++"0x"++jm (ir 16 x.natAbs))) _ _ s;rw [if_neg (b_.mpr h.1.1)];exact aw (Ln (bc (k 0 _ _ _ _ (h.2 _) (Trans.nil s _))) (ai h.1.2 (by decide)))⟩
end
noncomputable def wO:Array aj:=match wk.data with|.dict es _=>es|_=>#[]
noncomputable def ZO(s:aR):Option aa->aR|ab (.str x _)=>x|_=>s
noncomputable def VN(k:Int)(s:aR):aR:=ZO s (yV kN wO k)
noncomputable def TB(e:aj):Bool:=match e.key,e.val with|.int k _,.str _ _=>e.hash==hashInt k|_,_=>af
theorem O_:∀e∈wO,TB e=ah:=by decide+kernel
theorem Mj(h:e∈wO):∃k t x u,e=⟨hashInt k,.int k t,.str x u⟩:=by
 have:=O_ e h;obtain⟨c,a,b⟩:=e;unfold TB at this;induction a<;>try exact absurd this bP
 induction b<;>try exact absurd this bP
 cases eq_of_beq this;exact⟨_,_,_,_,rfl⟩
theorem Xt(P:mY):(kt P).get 51=ab wk:=by unfold kt;kernel_rfl
noncomputable def TC(G:Good b):Ok b:=⟨gD "dict.get" [.re,.it,.st] [] λ d k a s a=>⟨[],λ a a a K=>d=51/\∀t,K 0 (.ok (.ret (.str (VN k s) t))) [] []⟩,bF λ d k t s u=>.mk λ A s0 rest K R h m Rd q=>by
 obtain⟨rfl,i⟩:=h;have f:bN b 51 wk:=G.kt 51 _ (Xt _);refine jD (by decide+kernel) (aL (by kernel_rfl)) (G0 (knd:=intKind b.prog b.w) 51 (intKind_is _ _ k t) (by decide) (.str s u)) ⟨_,⟨wk,_,_,Rd.jq _ _ f.1 f.2,⟨rfl,rfl,rfl⟩,rfl,λ e c=>?_,λ a=>rfl⟩,?_⟩;.obtain⟨g,t',x,j,rfl⟩:=Mj c;exact⟨g,intKind_is _ _ _ _,rfl⟩
 .show R (.ok (.ret ((yV kN wO k).getD (.str s u)))) _;have l:∃t',(yV kN wO k).getD (.str s u)=.str (VN k s) t':=by unfold VN;induction e:yV kN wO k with|none=>exact⟨_,rfl⟩|some v=>unfold yV at e;obtain⟨e,c,rfl⟩:=lS.mp e;obtain⟨g,t',x,j,rfl⟩:=Mj (Array.mem_of_find?_eq_some c);exact⟨_,rfl⟩
  obtain⟨t',e⟩:=l;rw [e];exact q 0 _ _ _ _ (i t') (Trans.nil s0 _)⟩
noncomputable def zW:aR:=⟨#[102,108,97,103,115]⟩
noncomputable def rE:aR:=⟨#[110,97,109,101,115]⟩
noncomputable def n_i:aR:=⟨#[105]⟩
noncomputable def O':aR:=⟨#[102,108,97,103]⟩
noncomputable def qPf:aR:=⟨#[112,114,101,116,116,121,95,102,108,97,103,115,46,60,108,111,99,97,108,115,62,46]⟩
noncomputable def TF:Bool->List aR|ah=>[zW,rE]|af=>[zW,rE,n_i,O']
noncomputable def TG(L:ae):fJ:=nu 7 qPf 58 57 L []
noncomputable def n_(p:Cp):aT:=.forLoop (sE (bE (aP 7) 1) 0) (.ref p.it) (sB (bE (aP 7) 1) 0) (sB (bE (aP 7) 1) 1) (TG p.L)
noncomputable def pY(i:Nat):aR:=VN ((2^i:Nat):Int) (mL ((2^i:Nat):Int))
noncomputable def rF:Nat->Nat->Nat->List aR|0,_,f=>[mL f]|n+1,i,f=>if f.testBit i then pY i::(if f-2^i=0 then []else rF n (i+1) (f-2^i))else rF n (i+1) f
theorem n'(a b:Nat):br (a:Int) (b:Int)=((a&&&b:Nat):Int):=by unfold br;rw [decide_eq_true (aS a),decide_eq_true (aS b)];rfl
theorem zX(f i:Nat):f&&&2^i=if f.testBit i then 2^i else 0:=fM λ j=>by
 rw [Nn,pE];by_cases e:i=j;.subst e;induction h:f.testBit i<;>simp
 .induction f.testBit i<;>simp [e]
theorem zY(f i:Nat):br f ((2^i:Nat):Int)=(if f.testBit i then((2^i:Nat):Int)else 0):=by rw [n',zX];induction f.testBit i<;>rfl
theorem Pb(h:f.testBit i=ah):f|||2^i=f:=fM λ j=>by
 rw [Q8,pE];by_cases e:i=j;.subst e;simp [h]
 .simp [e]
theorem Jo{f i:Nat}(h:f.testBit i=ah):fU f ((2^i:Nat):Int)=((f-2^i:Nat):Int):=by unfold fU;rw [pX,n',Pb h,zX,if_pos h,Int.natCast_sub (vV h)]
theorem hex_len{f:Nat}(h:f<2^41):(mL f).length<=20:=by
 show(#[]++#[48,120]++(aG (jm (ir 16 (f:Int).natAbs))).cps).size<=20;have a:(aG (jm (ir 16 (f:Int).natAbs))).cps.size=(ir 16 f).length:=by rw [show(aG (jm (ir 16 (f:Int).natAbs))).cps.size=(aG (jm (ir 16 (f:Int).natAbs))).length from rfl,PySem.ofString_length,String.length_ofList];rfl
 rw [Ca,a];have:(ir 16 f).length<=11:=(Nat.length_toDigits_le_iff (by decide) (by decide)).mpr (ik h (by decide));exact ai (cZ this 2) (by decide)
theorem EN:∀i,i<41->(pY i).length<=30:=by decide+kernel
theorem EO(h:i<41):2^i<2^41:=Nat.pow_lt_pow_right (by decide) h
structure wQ(n i f:Nat)(ys:List aa):Prop where
 e:i+n=32
 f:f<2^41
 y:ys.length<=i
theorem wQ.next{n i f a:Nat}{ys c:List aa}(h:wQ (n+1) i f ys)(d:a<=f)(e:c.length<=i+1):wQ n (i+1) a c:=⟨by have:=h.e;exact a7 (li 0x202041103113220201104131111 [i,n] rfl this) (li 0x411031120203211041312020111 [i,n] rfl this.symm),cM d h.f,e⟩
theorem wQ.len{n i f:Nat}(h:wQ n i f ys):ys.length<=1048576:=ai h.y (by have:=h.e;exact li 0x100000603322020431111 [i,n] rfl this)
theorem wQ.shl{n i f:Nat}(h:wQ n i f ys):(1:Int)=1/\0<=(i:Int)/\(i:Int)<=60/\((2^i:Nat):Int)=1*2^(i:Int).toNat:=⟨rfl,aS _,by have:=h.e;exact li 0x3c2035422020431111 [i,n] rfl this,by rw [bq,iY];simp⟩
theorem wQ.hex{n i f:Nat}(h:wQ (n+1) i f ys):0<=((2^i:Nat):Int)/\(mL ((2^i:Nat):Int)).length<=1000:=⟨aS _,ai (hex_len (EO (by have:=h.e;exact li 0x1292033220201104131111 [i,n] rfl this))) (by decide)⟩
theorem wQ.Xu{n i f:Nat}{ys:List aa}(h:wQ n i f ys):0<=(f:Int)/\(mL f).length<=1000:=⟨aS _,ai (hex_len h.f) (by decide)⟩
theorem Pc(i:Nat):¬((2^i:Nat):Int)=0:=λ h=>rf (Nat.two_pow_pos i) (Ce h)
noncomputable def Pd(f:Bool):List Kd:=[.fr (TF f),.ls,.fl "range_iterator"]
noncomputable def EP:List Kd:=[.fr (TF af),.ls]
noncomputable def Xv:Bool->List aa->Prop|ah,[]=>True|af,[_,_]=>True|_,_=>False
noncomputable def ZP(n i f:Nat)(p:Cp)(F:Int)(j:aX)(a:ae)(ys e:List aa):Ct:=⟨[p.L,a,p.it],λ d u k=>[d+10<900,F=f,e=[.int i 0,.int n 0,.int 1 0],wQ n i f ys],λ K=>∀v t g h c,bl c (rF n i f)->K 0 (.ok .next) [(p.L,.fr [.int v t,.ref a,g,h]),(a,.ls (ys++c))] []⟩
noncomputable def Xw(n i f:Nat)(p:Cp)(F:Int)(a:aX)(c:ae)(o1 o2:aa):=ZP n i f p F a c
noncomputable def TH(n i f:Nat):Sp:=gb (.of fo n_) [.fr [.it,.re],.ls,.fv] (Pd ah) (k1 EP) (ZP n i f)
noncomputable def ER(n i f:Nat):Sp:=gb (.of fo n_) [.fr [.it,.re,.an,.an],.ls,.fv] (Pd af) (k1 EP) (Xw n i f)
theorem Mk(i k:Nat):[ak ((i:Int)+1) 0,.int (((k+1:Nat):Int)-1) 0,.int 1 0]=[.int ((i+1:Nat):Int) 0,.int (k:Int) 0,.int 1 0]:=by rw [show((k+1:Nat):Int)-1=k from Int.add_sub_cancel (k:Int) 1];rfl
section
variable{b:Bs}(G:Good b)
include G
theorem ES{e:Ev}{K:Kv}(B:bj b (ER k (i+1) (f-2^i)))(C:bj b (ER k (i+1) f))(D:e.dp+10<900)(o:wQ (k+1) i f ys)(g:Bool){z:List aa}(P:Xv g z)(u:∀v t a c d,bl d (rF (k+1) i f)->K 0 (.ok .next) [(p.L,.fr [.int v t,.ref nm,a,c]),(nm,.ls (ys++d))] []):dg b e (n_ p) (Pd g) [(p.L,.fr (.int f tF::.ref nm::z)),(nm,.ls ys),(p.it,.fr [.int i 0,.int (k+1:Nat) 0,.int 1 0])] (k1 EP) K:=by
 have w:=o.len;have Q:(0:Int)<((k+1:Nat):Int):=Int.natCast_pos.mpr (Vu k);unfold rF at u
 induction x:f.testBit i with
  |true=>
   have F:br f ((2^i:Nat):Int)=((2^i:Nat):Int):=(zY f i).trans (if_pos x);have S:=Jo x;rw [if_pos x]at u;have A:=Pc i;have q:∀v,wQ k (i+1) (f-2^i) (snoc ys v):=λ v=>o.next (iW _ _) (by unfold snoc;rw [bh];exact bW o.y);have H:∀s v t a c d,¬((f-2^i:Nat):Int)=0->bl d (rF k (i+1) (f-2^i))->K 0 (.ok .next) [(p.L,.fr [.int v t,.ref nm,a,c]),(nm,.ls (snoc ys (.str (pY i) s)++d))] []:=λ s v t a c d I T=>by rw [fu];refine u v t a c _ (.cons ?_);rw [if_neg λ e=>I (congrArg bp e)];exact T
   have J:∀s v t a c,((f-2^i:Nat):Int)=0->K 0 (.ok .next) [(p.L,.fr [.int v t,.ref nm,a,c]),(nm,.ls (snoc ys (.str (pY i) s)))] []:=λ s v t a c I=>by refine u v t a c [_] (.cons ?_);rw [if_pos (Ce I)];exact .nil
   induction g<;>rcases z with _|⟨v,_|⟨U,_|⟨_,_⟩⟩⟩<;>induction P;all_goals exact dg.run G [] [zV,Mi ((2^i:Nat):Int),zi ((2^i:Nat):Int),O9,TC G,dP,Mh ((f-2^i:Nat):Int),O7,⟨_,B⟩] (oo 0x213121341b12a16361191663218611171111614114111116666412a111514424114142432136161 [(oo 0x213113241b []),(oo 0x1331 [])]) λ n=>c3 (E [p.3] 0x1000) (c5 (@rfl aX 0) (@rfl aX 0) (@rfl aX 0) (@rfl Int 1) Q) (λ(t:aX)(V:Nw)=>c3 (E [p.1] 0x1000) o.shl (λ(y:aX)(X:Nw)=>c3 (E [p.1] 0x10000) F (λ(L:aX)(Y:Nw)=>c2 (λ(h:¬(↑(2^i):Int)=0)(R:Nw)=>c3 (E [p.1,nm] 0x10111100) o.hex (λ(l:aX)(Z:Nw)=>c2 (@rfl ae 51) (λ(r:aX)(n6:Nw)=>c3 (E [nm] 0x100) w (λ(ZA:Nat)(n7:Nw)=>c3 (E [p.1] 0x100) S (λ(M:aX)(n8:Nw)=>c3 (E [p.1] 0x1000) (λ(m:¬(↑(f-2^i):Int)=0)(n9:Nw)=>c7 (E [p.1,nm,p.3] 0x1210) (@rfl aT (n_ p)) D (@rfl Int ((↑(f-2^i):Int))) (Mk i k) (q (.str (pY i) r)) (λ(j:Int)(N:aX)(a:aa)(c:aa)(d:List aa)(O:bl d (rF k (i+1) (f-2^i)))(VO:Nw)=>H r j N a c d m O)) (λ(m:(↑(f-2^i):Int)=0)(n9:Nw)=>J r (f-2^i:Nat) M (.int i t) (.int (2^i:Nat) y) m)))))) (λ(h:(↑(2^i):Int)=0)(R:Nw)=>c7 (E [p.1,nm,p.3] 0x1210) (@rfl aT (n_ p)) D (absurd h A:(↑f:Int)=(↑(f-2^i):Int)) (absurd h A:[ak ((↑i:Int)+1) 0,ak ((↑(k+1):Int)-1) 0,ak 1 0]=[ak (↑(i+1):Int) 0,ak (↑k:Int) 0,ak 1 0]) (absurd h A:wQ k (i+1) (f-2^i) ys) (λ(j:Int)(l:aX)(a:aa)(c:aa)(d:List aa)(m:bl d (rF k (i+1) (f-2^i)))(Z:Nw)=>(absurd h A:K 0 (fy j8) [(p.1,Dv.fr [ak j l,ao nm,a,c]),(nm,Dv.ls (ys++d))] []))))))
  |false=>have F:br f ((2^i:Nat):Int)=0:=(zY f i).trans (if_neg (by rw [x];exact bP));rw [if_neg (by rw [x];exact bP)]at u;have q:wQ k (i+1) f ys:=o.next (bt _) (fL o.y);induction g<;>rcases z with _|⟨v,_|⟨U,_|⟨_,_⟩⟩⟩<;>induction P;all_goals exact dg.run G [] [zV,Mi ((2^i:Nat):Int),zi 0,⟨_,C⟩] (oo 0x21311324161111514424114142432136161 []) λ n=>c3 (E [p.3] 0x1000) (c5 (@rfl aX 0) (@rfl aX 0) (@rfl aX 0) (@rfl Int 1) Q) (λ(t:aX)(V:Nw)=>c3 (E [p.1] 0x1000) o.shl (λ(y:aX)(X:Nw)=>c3 (E [p.1] 0x10000) F (λ(L:aX)(Y:Nw)=>c7 (E [p.1,nm,p.3] 0x1210) (@rfl aT (n_ p)) D (@rfl Int ((↑f:Int))) (Mk i k) q (λ(j:Int)(l:aX)(a:aa)(c:aa)(d:List aa)(h:bl d (rF k (i+1) f))(R:Nw)=>u j l a c d h))))
theorem ET:∀k i f,bj b (ER k i f):=by intro k;induction k with|zero=>intro i f;exact ct λ p F m d o1 o2 ys r e rest K o g h c j=>by subst g h;have a:=c.len;exact dg.run G [] [O6,O9,dP] (oo 0x12312215411141211444421632136161 []) λ n=>c3 (E [p.3] 0x1000) (c5 (@rfl aX 0) (@rfl aX 0) (@rfl aX 0) (@rfl Int 1) (aN 0)) (λ(l:ae)(D:Array aa)(u:Nw)=>c3 (E [p.1,d,l] 0x12011110) c.Xu (λ(t:aX)(v:Nw)=>c3 (E [d] 0x100) a (λ(s:Nat)(w:Nw)=>j f m o1 o2 [.str (mL f) t] (.cons .nil))))|succ k q=>intro i f;exact ct λ p F m d o1 o2 ys r e rest K o g h c j=>by subst g h;exact ES G (q _ _) (q _ _) o c af trivial j
theorem Pe(k i f:Nat):bj b (TH (k+1) i f):=ct λ p F j l ys m e rest K a c d g h=>by subst c d;exact ES G (ET G k _ _) (ET G k _ _) a g ah trivial h
end
noncomputable def nK(a:List aR):aR:=d6 ⟨#[44,32]⟩ a
theorem Pf{l:List Nat}{m:Nat}(h:∀x∈l,x<=m):l.sum<=l.length*m:=by induction l with|nil=>exact bJ _|cons x l a=>have c:=h x (.head _);have d:=a λ y e=>h y (.tail _ e);rw [gC,eH,Vk];exact li 0x4615313065111043111 [x,m,l.sum,l.length*m] rfl c d
theorem sA{a:List aa}(h:bl a ws)(f:ws.length<=50)(c:∀w∈ws,w.length<=30):nF ⟨#[44,32]⟩ a (nK ws):=zp h (by have d:(ws.map (·.length)).sum<=(ws.map (·.length)).length*30:=Pf λ x e=>(ba.mp e).elim λ w y=>y.2▸c w y.1;rw [aM]at d;have:ws.length*(⟨#[44,32]⟩:aR).length=ws.length*2:=rfl;lia)
theorem Jp:∀(n i f:Nat),(rF n i f).length<=n+1:=by
 intro n
 induction n with
  |zero=>intro _ _;exact bt _
  |succ n a=>
   intro i f;unfold rF;split
   .split;.exact bW (bJ _)
    .exact bW (a _ _)
   .exact fL (a _ _)
theorem ve:∀(n i f:Nat),i+n<=32->f<2^41->∀w∈rF n i f,w.length<=30
 |0,_,f,_,c,w,a=>by rw [ay.mp a];exact ai (hex_len c) (by decide)
 |n+1,i,f,hi,c,w,a=>by
  have e:i+1+n<=32:=by exact li 0x202041103113020201104131111 [i,n] rfl hi
  have d:f-2^i<2^41:=cM (iW _ _) c;unfold rF at a;split at a
  .rcases aF.mp a with rfl|a;.exact EN i (li 0x1292033020201104131111 [i,n] rfl hi)
   .split at a;.exact(absurd a ax)
    .exact ve n _ _ e d w a
  .exact ve n _ _ e c w a
noncomputable def Xx(f:Nat)(F:Int)(t:aX):Ct:=⟨[],λ d u a=>[d+20<900,F=f,f<2^41],λ K=>∀t,K 0 (.ok (.ret (.str (nK (rF 32 0 f)) t))) [] []⟩
noncomputable def Xy(f:Nat):Sp:=gb (.call 58 [.it]) [] [] (k1 []) (Xx f)
theorem Ml(G:Good b)(f:Nat):bj b (Xy f):=ct λ F m e rest K d i g j=>by subst i;have k:wQ 32 0 f []:=⟨rfl,g,bt _⟩;have l:∀{a},bl a (rF 32 0 f)->nF ⟨#[44,32]⟩ a (nK (rF 32 0 f)):=λ h=>sA h (ai (Jp 32 0 f) (by decide)) (ve 32 0 f (by decide) g);exact dg.run G [] [O4,Jm,⟨_,Pe G 31 0 f⟩,wy (nK (rF 32 0 f))] (oo 0x112216123124156321461666161661131111124112112 []) λ n=>c4 (jf d:e.dp+0<1000) (E [n.1 0] 0x10000) (@rfl String ("range")) (λ(r:ae)(o:aX)(p:aX)(q:Nw)=>c3 (E [r] 0x100000000) (c3 (@rfl Int 0) (@rfl Int 32) (@rfl Int 1)) (λ(it:ae)(s:Nw)=>c7 (E [n.1 0,n.1 1,it] 0x12210) (@rfl aT (n_ (Cp.mk (n.1 0) (n.1 0) it 0 0 0 0))) (fj d:e.dp+1+10<900) (@rfl Int ((↑f:Int))) (@rfl (List aa) [ak 0 0,ak 32 0,ak 1 0]) k (λ(v:Int)(t:aX)(u:aa)(w:aa)(a:List aa)(h:bl a (rF (31+1) 0 f))(x:Nw)=>c3 (E [n.1 1,n.1 0] 0x110) (l h) (λ(c:aX)(y:Nw)=>j c))))
structure TS where
 known:aR->Option Int
 shown:aR->Option Int
 seen:List aR
mutual noncomputable def Tr.test(m:Int):Tr->TS->Bool×TS
 |.mk x ks,s=>if m<=(s.shown x.tag).getD (-1)then(ah,s)else if Tr.worth (eV s.known m) (.mk x ks)<m then(af,s)else match ks with
  |[]=>match s.known x.tag with|ab v=>if m<=v then(ah,{s with shown:=put s.shown x.tag m})else(af,s)|az=>if m<=x.n then(ah,⟨put s.known x.tag x.n,put s.shown x.tag m,s.seen++[x.tag]⟩)else(af,⟨put s.known x.tag x.n,s.shown,s.seen++[x.tag]⟩)
  |k::ks=>match Tr.tests m x.most (k::ks) (!x.most) s with|(ah,s')=>(ah,{s' with shown:=put s'.shown x.tag m})|(af,s')=>(af,s')noncomputable def Tr.tests(m:Int)(most:Bool):List Tr->Bool->TS->Bool×TS|[],told,s=>(told,s)|t::ts,told,s=>if told=most then Tr.tests m most ts told s else match Tr.test m t s with|(b,s')=>Tr.tests m most ts b s' end
mutual noncomputable def Tr.fX:Tr->Int->Int->Int×List aR|.mk x ks,l,h=>match ks with|[]=>(x.n,[x.tag])|k::ks=>match Tr.d4 x.most (k::ks) l h with|(l',h',s')=>(if x.most then l' else h',s')noncomputable def Tr.d4(most:Bool):List Tr->Int->Int->Int×Int×List aR|[],l,h=>(l,h,[])|t::ts,l,h=>if l<h then match Tr.fX t l h with|(v,s)=>match(if most then Tr.d4 most ts (max l v) h else Tr.d4 most ts l (min h v))with|(l',h',s')=>(l',h',s++s')else Tr.d4 most ts l h end
mutual noncomputable def Tr.tags:Tr->List aR|.mk x ks=>x.tag::Tr.gx ks noncomputable def Tr.gx:List Tr->List aR|[]=>[]|t::ts=>Tr.tags t++Tr.gx ts end
theorem sC(h:y∈Tr.gx ts):∃k∈ts,y∈k.tags:=by induction ts with|nil=>cases h|cons a ts b=>exact(aO.mp h).elim (λ h=>⟨a,.head _,h⟩) λ h=>(b h).elim λ k h=>⟨k,.tail _ h.1,h.2⟩
theorem iH(h:t∈ts)(a:y∈t.tags):y∈Tr.gx ts:=by induction h with|head _=>exact aI _ a|tail _ _ b=>exact aq _ b
section
variable{m:Int}{most told:Bool}{t:Tr}{ts:List Tr}{x:El}{k:Tr}{ks:List Tr}{s:TS}{lo hi:Int}
theorem Ba:Tr.tests m most [] told s=(told,s):=rfl
theorem Pg:Tr.tests m most (t::ts) told s=if told=most then Tr.tests m most ts told s else Tr.tests m most ts (Tr.test m t s).1 (Tr.test m t s).2:=rfl
theorem jR(h:¬told=most):Tr.tests m most (t::ts) told s=Tr.tests m most ts (Tr.test m t s).1 (Tr.test m t s).2:=if_neg h
theorem pZ(h:told=most):Tr.tests m most (t::ts) told s=Tr.tests m most ts told s:=if_pos h
theorem lD:Tr.tests m most ts most s=(most,s):=by induction ts with|nil=>rfl|cons t ts a=>exact(pZ rfl).trans a
theorem lE(h:m<=(s.shown t.x.tag).getD (-1)):Tr.test m t s=(ah,s):=by cases t with|mk x ks=>induction ks<;>exact if_pos h
theorem oZ(a:¬m<=(s.shown t.x.tag).getD (-1))(h:Tr.worth (eV s.known m) t<m):Tr.test m t s=(af,s):=by cases t with|mk x ks=>induction ks<;>exact(if_neg a).trans (if_pos h)
theorem kX(a:¬m<=(s.shown x.tag).getD (-1))(h:¬Tr.worth (eV s.known m) (.mk x [])<m):Tr.test m (.mk x []) s=match s.known x.tag with|ab v=>if m<=v then(ah,{s with shown:=put s.shown x.tag m})else(af,s)|az=>if m<=x.n then(ah,⟨put s.known x.tag x.n,put s.shown x.tag m,s.seen++[x.tag]⟩)else(af,⟨put s.known x.tag x.n,s.shown,s.seen++[x.tag]⟩):=(if_neg a).trans (if_neg h)
theorem jS(a:¬m<=(s.shown x.tag).getD (-1))(h:¬Tr.worth (eV s.known m) (.mk x (k::ks))<m):Tr.test m (.mk x (k::ks)) s=((Tr.tests m x.most (k::ks) (!x.most) s).1,if(Tr.tests m x.most (k::ks) (!x.most) s).1 then{(Tr.tests m x.most (k::ks) (!x.most) s).2 with shown:=put (Tr.tests m x.most (k::ks) (!x.most) s).2.shown x.tag m}else(Tr.tests m x.most (k::ks) (!x.most) s).2):=by refine(if_neg a).trans ((if_neg h).trans ?_);dsimp only;generalize Tr.tests m x.most (k::ks) (!x.most) s=r;obtain⟨b,c⟩:=r;induction b<;>rfl
theorem wR{m:Bool}:Tr.d4 m [] lo hi=(lo,hi,[]):=rfl
theorem p3(h:lo<hi):Tr.d4 ah (t::ts) lo hi=((Tr.d4 ah ts (max lo (t.fX lo hi).1) hi).1,(Tr.d4 ah ts (max lo (t.fX lo hi).1) hi).2.1,(t.fX lo hi).2++(Tr.d4 ah ts (max lo (t.fX lo hi).1) hi).2.2):=if_pos h
theorem p4(h:lo<hi):Tr.d4 af (t::ts) lo hi=((Tr.d4 af ts lo (min hi (t.fX lo hi).1)).1,(Tr.d4 af ts lo (min hi (t.fX lo hi).1)).2.1,(t.fX lo hi).2++(Tr.d4 af ts lo (min hi (t.fX lo hi).1)).2.2):=if_pos h
theorem rG{m:Bool}(h:¬lo<hi):Tr.d4 m (t::ts) lo hi=Tr.d4 m ts lo hi:=if_neg h
theorem o5:Tr.fX (.mk x (t::ts)) lo hi=(if x.most then(Tr.d4 x.most (t::ts) lo hi).1 else(Tr.d4 x.most (t::ts) lo hi).2.1,(Tr.d4 x.most (t::ts) lo hi).2.2):=rfl
end
theorem o6(a:∀t∈ts,∀s:TS,s.seen.length<=(Tr.test m t s).2.seen.length):∀(told:Bool)(s:TS),s.seen.length<=(Tr.tests m most ts told s).2.seen.length:=by
 induction ts with
  |nil=>exact λ c s=>bt _
  |cons t ts h=>
   intro told s;have h:=h λ t b=>a t (.tail _ b);by_cases e:told=most;.rw [pZ e];exact h told s
   .rw [jR e];exact ai (a t (.head _) s) (h _ _)
theorem o7(m:Int)(t:Tr):∀(s:TS),s.seen.length<=(Tr.test m t s).2.seen.length:=by
 induction t using Tr.oN with
  |h x ks a=>
   intro s;by_cases h0:m<=(s.shown x.tag).getD (-1);.rw [lE (t:=.mk x ks) h0];exact bt _
   by_cases h1:Tr.worth (eV s.known m) (.mk x ks)<m;.rw [oZ (t:=.mk x ks) h0 h1];exact bt _
   induction ks with
    |nil=>rw [kX h0 h1];induction s.known x.tag with|some v=>dsimp only;split<;>exact bt _|none=>dsimp only;split<;>(dsimp only;rw [bh];exact bX _ _)
    |cons k ks=>rw [jS h0 h1];have:=o6 (most:=x.most) a (!x.most) s;dsimp only;split<;>exact this
theorem ui(m:Int)(most:Bool)(ts:List Tr)(told:Bool)(s:TS):s.seen.length<=(Tr.tests m most ts told s).2.seen.length:=o6 (λ t a=>o7 m t) told s
theorem iB:Tr.worth f (.mk x [])=f x:=rfl
theorem wU{x:El}{lo hi:Int}:Tr.fX (.mk x []) lo hi=(x.n,[x.tag]):=rfl
section
variable{b:Bs}(G:Good b)
include G
theorem Jq{e:Ev}{K:Kv}{x y:Int}{t u:aX}(c:y>x->K 0 (.ok (.ret (.int y u))) [] [])(d:¬y>x->K 0 (.ok (.ret (.int x t))) [] []):dg b e (.builtin "max" ⟨[.int x t,.int y u],[]⟩) [] [] (k1 []) K:=dg.run G [] [Zp] (oo 0x11636224644141421212123124644141421212246441414212121221 [(oo 0x11636224644141421 [])]) λ n=>c3 (E [n.1 1,n.1 0,n.1 2] 0x111102000010022220000100) (λ(h:y>x)(a:Nw)=>c2 (E [n.1 2,a.1 1,n.1 1,n.1 0] 0x1000022223221000) (c h)) (λ(h:¬y>x)(a:Nw)=>c2 (E [n.1 2,a.1 1,n.1 1,n.1 0] 0x1022223221000) (d h))
theorem Jr{e:Ev}{K:Kv}{x y:Int}{t u:aX}(c:y<x->K 0 (.ok (.ret (.int y u))) [] [])(d:¬y<x->K 0 (.ok (.ret (.int x t))) [] []):dg b e (.builtin "min" ⟨[.int x t,.int y u],[]⟩) [] [] (k1 []) K:=dg.run G [] [oLt] (oo 0x11636224644141421212123124644141421212246441414212121221 [(oo 0x11636224644141421 [])]) λ n=>c3 (E [n.1 1,n.1 0,n.1 2] 0x111102000010022220000100) (λ(h:y<x)(a:Nw)=>c2 (E [n.1 2,a.1 1,n.1 1,n.1 0] 0x1000022223221000) (c h)) (λ(h:¬y<x)(a:Nw)=>c2 (E [n.1 2,a.1 1,n.1 1,n.1 0] 0x1022223221000) (d h))
noncomputable def Xz:Ok b:=⟨gD "max" [.it,.it] [] λ x c y c=>⟨[],λ c c c K=>∀t,K 0 (.ok (.ret (.int (max x y) t))) [] []⟩,bF λ x t y u=>.mk λ A s rest K R h d Rd k=>by obtain⟨e,f⟩:=Ev.of d;rw [f];refine dj (Jq (e:=e) (K:=λ c r vs tl=>∃t',r=.ok (.ret (.int (max x y) t'))/\tl=[]/\vs=[]) G (λ h=>⟨u,by rw [show max x y=y by exact bg (b0 (Lm (b:=y) (cp h))) (jx x y)],rfl,rfl⟩) (λ h=>⟨t,by rw [show max x y=x by exact bg (b0 (t7 (b_.mp h))) (j0 x y)],rfl,rfl⟩) (λ c=>⟨λ c=>0,λ c=>0,0⟩) _ _ s (At.start (Rd.sub (cH _)))) λ r l g=>g.out λ j vs tl H i a=>?_;obtain⟨t',rfl,rfl,rfl⟩:=i;exact k 0 _ _ _ _ (h t') a.T⟩
noncomputable def TJ:Ok b:=⟨gD "min" [.it,.it] [] λ x c y c=>⟨[],λ c c c K=>∀t,K 0 (.ok (.ret (.int (min x y) t))) [] []⟩,bF λ x t y u=>.mk λ A s rest K R h d Rd k=>by obtain⟨e,f⟩:=Ev.of d;rw [f];refine dj (Jr (e:=e) (K:=λ c r vs tl=>∃t',r=.ok (.ret (.int (min x y) t'))/\tl=[]/\vs=[]) G (λ h=>⟨u,by rw [show min x y=y by exact bg (iq x y) (b0 (sZ (b:=y) (cp h)).symm)],rfl,rfl⟩) (λ h=>⟨t,by rw [show min x y=x by exact bg (iP x y) (b0 (t8 (b_.mp h)).symm)],rfl,rfl⟩) (λ c=>⟨λ c=>0,λ c=>0,0⟩) _ _ s (At.start (Rd.sub (cH _)))) λ r l g=>g.out λ j vs tl H i a=>?_;obtain⟨t',rfl,rfl,rfl⟩:=i;exact k 0 _ _ _ _ (h t') a.T⟩
end
noncomputable def lF:aR:=⟨#[110,111,100,101]⟩
noncomputable def lG:aR:=⟨#[107,110,111,119,110]⟩
noncomputable def zZ:aR:=⟨#[111,116,104,101,114]⟩
noncomputable def uj:aR:=⟨#[111,110,101]⟩
noncomputable def qW:aR:=⟨#[95,108,97,119,95,119,111,114,116,104,46,60,108,111,99,97,108,115,62,46]⟩
noncomputable def nsW:List aR:=[lF]
noncomputable def Js(p:Cp):fJ:=nu 19 qW 120 119 p.L [(zZ,p.c0),(lG,p.c1)]
noncomputable def wW(p:Cp):aT:=.func (aP 19) (Js p)
noncomputable def wE:bO:=sE (bE (aP 19) 1) 0
noncomputable def p5(p:Cp):aT:=.compLoop wE 0 (.ref p.it) (.ref p.acc) (lQ wE qW 119 p.L p.F [(zZ,p.c0),(lG,p.c1)])
noncomputable def cWo(b:Bs)(T:List aR)(h:Nat)(t:Tr)(a:ae)(c:Int)(e:aX)(es:Array aj)(ep:Nat):Ct:=⟨[a],λ d u f=>[Bd d u h,lq T b.w es ep],λ K=>∀t',K 0 (.ok (.ret (.int (Tr.worth (eV (dF es) c) t) t'))) [(a,.dd es ep)] []⟩
noncomputable def wX(b:Bs)(T:List aR)(h:Nat)(t:Tr):Sp:=gb (.call 120 [.rq t.e,.re,.it]) [.dd] [.dd] (k1 [.dd]) (cWo b T h t)
noncomputable def Ph:Bool->List Kd|ah=>[.dc [],.it,.ls,.cl,.cl,.dd]|af=>[.dc [uj],.it,.ls,.cl,.cl,.dd]
noncomputable def EU:List Kd:=[.dc [uj],.ls,.cl,.cl,.dd]
noncomputable def ZQ(b:Bs)(T:List aR)(x:El)(h:Nat)(ts:List Tr)(p:Cp)(l:ae)(i:Int)(ys:List aa)(c:Int)(f:aX)(a:ae)(es:Array aj)(ep:Nat):Ct:=⟨[p.L,p.it,p.acc,p.c0,p.c1,a],λ d u g=>[Bd d u h,lq T b.w es ep,l=x.bT,dC (refsOf x.kids) i (ef ts),ys.length+ts.length<=20],λ K=>∀v e,aV e (ts.map (Tr.worth (eV (dF es) c)))->K 0 (.ok .next) [(p.L,.fr [v]),(p.acc,.ls (ys++e)),(p.c0,.cl (ab (.int c f))),(p.c1,.cl (ab (.ref a))),(a,.dd es ep)] []⟩
noncomputable def XA(b:Bs)(T:List aR)(x:El)(h:Nat)(ts:List Tr)(p:Cp)(v:aa):=ZQ b T x h ts p
noncomputable def Mm(b:Bs)(T:List aR)(x:El)(h:Nat)(ts:List Tr):Sp:=gb (.of fo p5) [.fr [],.it,.ls,.cs .it,.cs .re,.dd] (Ph ah) (k1 EU) (ZQ b T x h ts)
noncomputable def Mo(b:Bs)(T:List aR)(x:El)(h:Nat)(ts:List Tr):Sp:=gb (.of fo p5) [.fr [.an],.it,.ls,.cs .it,.cs .re,.dd] (Ph af) (k1 EU) (XA b T x h ts)
section
variable{b:Bs}(G:Good b){T:List aR}{x:El}(hx:bN b x.bT (lO (refsOf x.kids) x.ei)){h:Nat}
include G hx
theorem EV{e:Ev}{K:Kv}{t:Tr}{ts:List Tr}{p:Cp}(r:bj b (Mo b T x h ts))(s:bj b (wX b T h t))(l:Bd e.dp e.un h)(m:lq T b.w es ep)(f:Bool){c:List aa}(w:mv f c)(o:dC (refsOf x.kids) i (ef (t::ts)))(q:ys.length+(t::ts).length<=20)(y:∀v a,aV a ((t::ts).map (Tr.worth (eV (dF es) oi)))->K 0 (.ok .next) [(p.L,.fr [v]),(p.acc,.ls (ys++a)),(p.c0,.cl (ab (.int oi to))),(p.c1,.cl (ab (.ref dd))),(dd,.dd es ep)] []):dg b e (p5 p) (Ph f) [(p.L,.fr c),(p.it,.it x.bT i),(p.acc,.ls ys),(p.c0,.cl (ab (.int oi to))),(p.c1,.cl (ab (.ref dd))),(dd,.dd es ep)] (k1 EU) K:=by
 have g:∀v u a,aV a (ts.map (Tr.worth (eV (dF es) oi)))->K 0 (.ok .next) [(p.L,.fr [v]),(p.acc,.ls (snoc ys (.int (Tr.worth (eV (dF es) oi) t) u)++a)),(p.c0,.cl (ab (.int oi to))),(p.c1,.cl (ab (.ref dd))),(dd,.dd es ep)] []:=λ v u a z=>by rw [fu];exact y v _ ⟨⟨u,rfl⟩,z⟩
 have d:ys.length<=1048576:=ai (ai (bX _ _) q) (by decide);induction f<;>rcases c with _|⟨v,_|⟨_,_⟩⟩<;>induction w;all_goals exact dg.run G [⟨_,_,hx⟩] [fc hx (.ref t.e),⟨_,s⟩,dP,⟨_,r⟩] (oo 0x5432161265134716421581621418a412422134141 []) λ n=>c4 (E [p.3] 0x1000) (@rfl ae x.bT) o.at (λ(B:Nw)=>c4 (E [dd,t.x.1,p.5,p.6,p.1] 0x14443210) l m (λ(t':aX)(C:Nw)=>c3 (E [p.4] 0x100) d (λ(A:Nat)(D:Nw)=>c8 (E [p.1,p.3,p.4,p.5,p.6,dd] 0x1543210) (@rfl aT (p5 p)) l m (@rfl ae x.bT) o.next (iz _ q:(snoc ys (ak (Tr.worth (eV (dF es) oi) t) t')).length+ts.length<=20) (λ(j:aa)(a:List aa)(k:aV a (cF (Tr.worth (eV (dF es) oi)) ts))(F:Nw)=>g j t' a k))))
theorem Pj:∀(ts:List Tr),(∀t∈ts,bj b (wX b T h t))->bj b (Mo b T x h ts):=by intro ts;induction ts with|nil=>intro _;exact ct λ p v l i ys m o q es ep e rest K f g hi a j c=>by cases hi;exact dg.run G [⟨_,_,hx⟩] [fN hx] (oo 0x6543261e22134141 []) λ n=>c4 (E [p.3] 0x1000) (@rfl ae x.bT) a.end (λ(d:ae)(D:Array aa)(s:Nw)=>c2 (E [d] 0x10) (aA ys▸c v [] trivial))|cons t ts r=>intro k;exact ct λ p v l i ys m o q es ep e rest K f g hi a j c=>by cases hi;exact EV G hx (r λ t h=>k t (.tail _ h)) (k t (.head _)) f g af trivial a j c
theorem Pk(t:Tr)(ts:List Tr)(a:∀u∈t::ts,bj b (wX b T h u)):bj b (Mm b T x h (t::ts)):=ct λ p l i ys k m n es ep e rest K c d hi f g j=>by cases hi;exact EV G hx (Pj G hx ts λ t h=>a t (.tail _ h)) (a t (.head _)) c d ah trivial f g j
end
noncomputable def wL:bO:=xE (sE (bE (aP 19) 0) 0) 0
noncomputable def EW:List Kd:=[.fr nsW,.cl,.cl,.dd]
noncomputable def cWf(b:Bs)(T:List aR)(h:Nat)(t:Tr)(p:Cp)(c:Int)(e:aX)(a:ae)(es:Array aj)(ep:Nat):Ct:=⟨[p.L,p.c0,p.c1,a],λ d u f=>[Bd d u h,lq T b.w es ep],λ K=>∀t',K 0 (.ok (.ret (.int (Tr.worth (eV (dF es) c) t) t'))) [(a,.dd es ep)] []⟩
noncomputable def TK(p:Cp)(a:ae)(d:Int)(e:aX)(c:ae)(es:Array aj)(ep:Nat):List eK:=[(p.L,.fr [.ref a]),(p.c0,.cl (ab (.int d e))),(p.c1,.cl (ab (.ref c))),(c,.dd es ep)]
noncomputable def XB(b:Bs)(T:List aR)(h:Nat)(t:Tr):Sp:=gb (.of fo wW) [.fr [.rq t.e],.cs .it,.cs .re,.dd] EW (k1 [.dd]) (cWf b T h t)
section
variable{b:Bs}(G:Good b){T:List aR}{h:Nat}
include G
theorem Pl(hx:ej b k0 fQ x):DE b e (wW p) wL (Js p) EW (TK p x.e oi to dd es ep) (k1 EW) (eM (.ref x.bT) (TK p x.e oi to dd es ep)):=DE.run G [⟨_,_,hx.fn⟩,⟨_,_,hx.dk⟩] [] (oo 0x432151533313132 []) λ n=>c2 (E [x.2,x.1,p.1] 0x12111110) (iG (.ref x.bT) (TK p x.e oi to dd es ep))
theorem Pm{e:Ev}{K:Kv}{g c:ae}(hx:ej b g c x){p:Cp}{f:Int}{i:aX}{a:ae}{es:Array aj}{ep:Nat}(d:¬a=1)(j:lq T b.w es ep)(k:∀t',K 0 (.ok (.ret (.int ((dF es x.tag).getD f) t'))) [(a,.dd es ep)] []):DS b e (wW p) (sB (bE (aP 19) 0) 0++aC 1 (aP 19)) (Js p) EW (TK p x.e f i a es ep) (k1 [.dd]) (l3 K):=DS.run G [⟨_,_,hx.fn⟩,⟨_,_,hx.dk⟩] [zg G T] (oo 0x121421381453331313288886 []) λ n=>c3 (E [a,p.5,x.2,x.1,p.1,p.6] 0x1500004333332100) (c2 d j) (λ(t:aX)(l:Nw)=>k t)
noncomputable def XC(m:Bool)(ns:List Int):Sp:=match m with|ah=>Ta ns|af=>Tb ns
theorem Mp(m:Bool)(ns:List Int):bj b (XC m ns):=match m with|ah=>Tc G ns|af=>Td G ns
theorem Pn{e:Ev}{K:Kv}{F o:ae}{x:El}(hx:ej b F o x){p:Cp}{g:Int}{H:aX}{l:ae}{es:Array aj}{ep:Nat}(r:lq T b.w es ep){t:Tr}{ts:List Tr}{n:Int}{ns:List Int}(s:bj b (Mm b T x h (t::ts)))(w:dC (refsOf x.kids) 0 (ef (t::ts)))(y:0+(t::ts).length<=20)(z:Bd (e.dp+1) (e.un+3) h)(A:(t::ts).map (Tr.worth (eV (dF es) g))=n::ns){m:Bool}(B:x.most=m)(I:∀t',K 0 (.ok (.ret (.int (if m then ns.foldl max n else ns.foldl min n) t'))) [(l,.dd es ep)] []):DS b e (wW p) ([]++aC 1 (aP 19)) (Js p) EW (TK p x.e g H l es ep) (k1 [.dd]) (l3 K):=by
 have C:∀{a},aV a ((t::ts).map (Tr.worth (eV (dF es) g)))->(0:Int)<=0/\∃v,bE a 0=ab v/\Vp.it.is v:=λ h=>Iu (A▸h);have q:∀{a i u},aV a ((t::ts).map (Tr.worth (eV (dF es) g)))->bE a 0=ab (.int i u)->tJ a 1 ns/\i=n:=λ h hi=>Iv (A▸h) hi;have D:∀{a i u},aV a ((t::ts).map (Tr.worth (eV (dF es) g)))->bE a 0=ab (.int i u)->∀t',K 0 (.ok (.ret (.int (if m then ns.foldl max i else ns.foldl min i) t'))) [(l,.dd es ep)] []:=λ h hi=>(q h hi).2▸I;induction m;.exact DS.run G [⟨_,_,hx.fn⟩,⟨_,_,hx.tL B⟩,⟨_,_,hx.bT⟩] [⟨_,s⟩,C6 .it,⟨_,Mp G af ns⟩] (oo 0x521231415636423144142121414411c1153331313c1226c76523171362217177533313132 []) λ n=>c8 (E [n.1 2,n.1 0,n.1 1,p.5,p.6,l,x.3,x.2,x.1,p.1] 0x1988888766611543210) (@rfl aT (p5 (Cp.mk (n.1 2) p.1 (n.1 0) (n.1 1) p.5 p.6 0))) z r (@rfl ae x.bT) w y (λ(v:aa)(a:List aa)(c:aV a (cF (Tr.worth (eV (dF es) g)) (t::ts)))(d:Nw)=>c3 (E [d.1 0,n.1 1,d.1 1,p.1,x.2,x.1,n.1 2] 0x13366635555543111020010) (C c) (λ(i:Int)(j:aX)(f:bE a 0=ab (ak i j))(J:Nw)=>c5 (E [d.1 0,d.1 1,n.1 1] 0x1111210) (@rfl aT (vd (Ib.mk (d.1 0) (d.1 1)))) (@rfl Int i) (q c f).1 (λ(k:aX)(L:Nw)=>D c f k)))
 .exact DS.run G [⟨_,_,hx.fn⟩,⟨_,_,hx.tL B⟩,⟨_,_,hx.bT⟩] [⟨_,s⟩,C6 .it,⟨_,Mp G ah ns⟩] (oo 0x521231415636423144142121414411c1153331313c1226c76523171362217177533313132 []) λ n=>c8 (E [n.1 2,n.1 0,n.1 1,p.5,p.6,l,x.3,x.2,x.1,p.1] 0x1988888766611543210) (@rfl aT (p5 (Cp.mk (n.1 2) p.1 (n.1 0) (n.1 1) p.5 p.6 0))) z r (@rfl ae x.bT) w y (λ(v:aa)(a:List aa)(c:aV a (cF (Tr.worth (eV (dF es) g)) (t::ts)))(d:Nw)=>c3 (E [d.1 0,n.1 1,d.1 1,p.1,x.2,x.1,n.1 2] 0x13366635555543111020010) (C c) (λ(i:Int)(j:aX)(f:bE a 0=ab (ak i j))(J:Nw)=>c5 (E [d.1 0,d.1 1,n.1 1] 0x1111210) (@rfl aT (vc (Ib.mk (d.1 0) (d.1 1)))) (@rfl Int i) (q c f).1 (λ(k:aX)(L:Nw)=>D c f k)))
noncomputable def wT:bO:=sE (bE (aP 19) 0) 0
omit G in theorem Jt:aP 19=.If (.Compare wL [.Eq] [.List [] (aY (xE wT 1))] (aY wT)) (sB (bE (aP 19) 0) 0) [] (kP (bE (aP 19) 0))::aC 1 (aP 19):=by kernel_rfl
omit G in theorem Bb{f:El->Int}{x:El}{P:Int->Prop}(h:P (Tr.worth f (.mk x []))):P (f x):=by simpa [Tr.worth,Tr.pP]using h
omit G in theorem EX{f:El->Int}{x:El}{ts:List Tr}{n:Int}{ns:List Int}(h:ts.map (Tr.worth f)=n::ns):Tr.worth f (.mk x ts)=if x.most then ns.foldl max n else ns.foldl min n:=by rw [<-ue]at h;simp [Tr.worth,h]
theorem TL{q g:ae}{x:El}{a:List Tr}(hx:ej b q g x)(d:x.kids=a.map Tr.e)(j:x.kids.length<=10)(r:∀u∈a,bj b (wX b T h u)):bj b (XB b T (h+1) (.mk x a)):=ct λ p k w l es ep e rest K m n o=>by
 refine dg.own G rfl λ v=>dg.fn (DS.text Jt ?_);refine DS.LZ (bT:=x.bT) (xs:=refsOf x.kids) G m.u (λ H s R=>⟨_,R.jq _ _ hx.bT.1 hx.bT.2⟩) (Pl G hx) (λ c=>?_) λ c=>?_;.induction a with|nil=>exact Pm G hx (v 3 (l,_) rfl) n λ t'=>Bb (f:=eV (dF es) k) (P:=λ i=>K 0 (.ok (.ret (.int i t'))) [(l,.dd es ep)] []) (o t')|cons t ts=>rw [d]at c;exact(by injection c)
 .induction a with|nil=>rw [d]at c;exact absurd rfl c|cons t ts=>exact Pn G hx n (Pk G hx.bT t ts r) (jQ d▸dC.start _) (by rw [d,aM]at j;exact li 0x1420300130a103111 [(t::ts).length] rfl j) m.i4 rfl rfl λ t'=>EX (ts:=t::ts) (f:=eV (dF es) k) rfl▸o t'
theorem EY(H:gB b k0 fQ h t):bj b (wX b T h t):=by induction H with|@mk h x a hx d o f p g=>exact ct λ i q r es ep e rest K c j k=>by have l:=c.d;exact dg.run G [] [⟨_,TL G hx f d.kd λ u m=>g u m⟩] (oo 0x1214213513122436112 []) λ n=>c6 (jf l:e.dp+0<1000) (E [n.1 0,n.1 2,n.1 1,i,(Tr.mk x a).x.1] 0x100221143210) (@rfl aT (wW (Cp.mk (n.1 0) (n.1 0) 0 0 (n.1 2) (n.1 1) 0))) c j (λ(t':aX)(s:Nw)=>k t')
end
noncomputable def z0:aR:=⟨#[108,111,119]⟩
noncomputable def vf:aR:=⟨#[104,105,103,104]⟩
noncomputable def qWi:aR:=⟨#[95,108,97,119,95,119,105,110,100,111,119,46,60,108,111,99,97,108,115,62,46]⟩
noncomputable def Po:Bool->List aR|ah=>[lF,z0,vf,i']|af=>[lF,z0,vf,i',uj,n5]
noncomputable def wY(L:ae):fJ:=nu 20 qWi 127 126 L []
noncomputable def mM(p:Cp):aT:=.forLoop (sE (bE (aP 20) 1) 0) (.ref p.it) (sB (bE (aP 20) 1) 0) [] (wY p.L)
noncomputable def sD(p:Cp):aT:=.func (aP 20) (wY p.L)
noncomputable def Pp(f:Bool):List Kd:=[.fr (Po f),.it,.ls]
noncomputable def EZ:List Kd:=[.fr (Po af),.ls]
noncomputable def Bw(d u H:Nat):Prop:=d+H+120<900/\u+3*H+250<9900
theorem Bw.i4(h:Bw d u (H+1)):Bw (d+1) (u+3) H:=⟨by have:=h.1;exact li 0x1384307820411031113138430782011041311111 [d,H] rfl this,by have:=h.2;exact li 0x126ac40fa20431231031113126ac40fa2011041312311111 [u,H] rfl this⟩
theorem Bw.d{d u H:Nat}(h:Bw d u H):d+120<900:=by have:=h.1;exact li 0x138430782031313843078204311111 [d,H] rfl this
theorem Bw.u{d u H:Nat}(h:Bw d u H):u+200<9900:=by have:=h.2;exact li 0x126ac40c820313126ac40fa204312311111 [u,H] rfl this
section
variable{m:Bool}{t:Tr}{ts:List Tr}{lo hi:Int}
end
noncomputable def XD(h:Nat)(t:Tr)(lo:Int)(e:aX)(hi:Int)(f:aX)(a:ae)(ys:List aa):Ct:=⟨[a],λ d u g=>[Bw d u h,lo<hi,ys.length+(t.fX lo hi).2.length<=900],λ K=>∀t' c,bl c (t.fX lo hi).2->K 0 (.ok (.ret (.int (t.fX lo hi).1 t'))) [(a,.ls (ys++c))] []⟩
noncomputable def E0(h:Nat)(t:Tr):Sp:=gb (.call 127 [.rq t.e,.it,.it,.re]) [.ls] [.ls] (k1 [.ls]) (XD h t)
noncomputable def Hg(m:Bool)(ts:List Tr)(L e:ae)(lo hi:Int)(a:ae)(ys:List aa)(K:Kv):Prop:=∀d f tl g c,bl c (Tr.d4 m ts lo hi).2.2->K 0 (.ok .next) [(L,.fr [.ref e,.int (Tr.d4 m ts lo hi).1 tl,.int (Tr.d4 m ts lo hi).2.1 g,.ref a,d,f]),(a,.ls (ys++c))] []
noncomputable def XE(x:El)(m:Bool)(h:Nat)(ts:List Tr)(p:Cp)(lo:Int)(c:aX)(hi:Int)(e:aX)(a l:ae)(i:Int)(ys:List aa):Ct:=⟨[p.L,p.it,a],λ d u f=>[Bw d u h,lo<hi,l=x.bT,dC (refsOf x.kids) i (ef ts),ys.length+(Tr.d4 m ts lo hi).2.2.length<=900],Hg m ts p.L x.e lo hi a ys⟩
noncomputable def XF(x:El)(m:Bool)(h:Nat)(ts:List Tr)(p:Cp)(lo:Int)(c:aX)(hi:Int)(e:aX)(a:ae)(f g:aa)(l:ae)(i:Int)(ys:List aa):Ct:=⟨[p.L,p.it,a],λ d u j=>[Bw d u h,l=x.bT,dC (refsOf x.kids) i (ef ts),ys.length+(Tr.d4 m ts lo hi).2.2.length<=900],Hg m ts p.L x.e lo hi a ys⟩
noncomputable def Mq(x:El)(m:Bool)(h:Nat)(ts:List Tr):Sp:=gb (.of fo mM) [.fr [.rq x.e,.it,.it,.re],.it,.ls] (Pp ah) (k1 EZ) (XE x m h ts)
noncomputable def Mr(x:El)(m:Bool)(h:Nat)(ts:List Tr):Sp:=gb (.of fo mM) [.fr [.rq x.e,.it,.it,.re,.an,.an],.it,.ls] (Pp af) (k1 EZ) (XF x m h ts)
theorem E1(h:ys.length+(ss++rs).length<=900)(a:bl zs ss):(ys++zs).length+rs.length<=900:=by rw [bh]at h⊢;rw [a.len];exact li 0x3843054311303843054131111 [ys.length,ss.length,rs.length] rfl h
theorem E2{ys:List aa}{a c:List aR}(h:ys.length+(a++c).length<=900):ys.length+a.length<=900:=by rw [bh]at h;exact li 0x38430431303843054131111 [ys.length,a.length,c.length] rfl h
section
variable{b:Bs}(G:Good b){k0 fQ:ae}{x:El}(hx:ej b k0 fQ x){m:Bool}(hm:x.most=m){h:Nat}
include G hx hm
theorem z3{e:Ev}{K:Kv}{t:Tr}{ts:List Tr}{p:Cp}{i:Int}{ys:List aa}{lo hi:Int}{L M:aX}{a:ae}(H:bj b (Mr x m h ts))(I:bj b (E0 h t))(w:Bw e.dp e.un h)(f:Bool)(j:lo<hi){B:List aa}(J:f=ah/\B=[]\/f=af/\∃k l,B=[k,l])(A:dC (refsOf x.kids) i (ef (t::ts)))(v:ys.length+(Tr.d4 m (t::ts) lo hi).2.2.length<=900)(y:Hg m (t::ts) p.L x.e lo hi a ys K):dg b e (mM p) (Pp f) [(p.L,.fr (.ref x.e::.int lo L::.int hi M::.ref a::B)),(p.it,.it x.bT i),(a,.ls ys)] (k1 EZ) K:=by
 have R:=w.d;unfold Hg at y
 induction m with
  |true=>
   rw [p3 j]at v y;have q:=E2 v;have g:∀{d:List aa},bl d (t.fX lo hi).2->Hg ah ts p.L x.e (max lo (t.fX lo hi).1) hi a (ys++d) K:=λ{d}C k l tl r z D=>by rw [bb];exact y k l tl r _ (C.app D)
   rcases J with⟨rfl,rfl⟩|⟨rfl,k,l,rfl⟩;all_goals exact dg.run G [⟨_,_,hx.bT⟩,⟨_,_,hx.fn⟩,⟨_,_,hx.tL hm⟩] [fc hx.bT (.ref t.e),tC ah,⟨_,I⟩,Xz G,⟨_,H⟩] (oo 0x21315674177e7e212422121212422121212422121221212226116166117555151563632151444411141442422134141 []) λ n=>c4 (E [p.3] 0x1000) (@rfl ae x.bT) A.at (λ(N:Nw)=>c3 (E [p.1] 0x10000) j (λ(O:Nw)=>c5 (E [a,t.x.1,p.1] 0x1222210) w j q (λ(t':aX)(z:List aa)(o:bl z (t.fX lo hi).snd)(P:Nw)=>c2 (E [p.1,x.2,x.1] 0x100022222100) (λ(F:aX)(s:Nw)=>c7 (E [p.1,p.3,a,x.1,s.1 3,s.1 1,s.1 0] 0x1066665555565555556555555655400003210) (@rfl aT (mM p)) w (@rfl ae x.bT) A.next (E1 v o) (λ(k:aa)(l:aa)(tl:aX)(r:aX)(c:List aa)(u:bl c (Tr.d4 ah ts (max lo (t.fX lo hi).fst) hi).snd.snd)(Q:Nw)=>g o k l tl r c u)))))
  |false=>
   rw [p4 j]at v y;have q:=E2 v;have g:∀{d:List aa},bl d (t.fX lo hi).2->Hg af ts p.L x.e lo (min hi (t.fX lo hi).1) a (ys++d) K:=λ{d}C k l tl r z D=>by rw [bb];exact y k l tl r _ (C.app D)
   rcases J with⟨rfl,rfl⟩|⟨rfl,k,l,rfl⟩;all_goals exact dg.run G [⟨_,_,hx.bT⟩,⟨_,_,hx.fn⟩,⟨_,_,hx.tL hm⟩] [fc hx.bT (.ref t.e),tC ah,⟨_,I⟩,TJ G,⟨_,H⟩] (oo 0x21315674177e7e212422121212422121212422121221212221161661167555151563632151444411141442422134141 []) λ n=>c4 (E [p.3] 0x1000) (@rfl ae x.bT) A.at (λ(N:Nw)=>c3 (E [p.1] 0x10000) j (λ(O:Nw)=>c5 (E [a,t.x.1,p.1] 0x1222210) w j q (λ(t':aX)(z:List aa)(o:bl z (t.fX lo hi).snd)(P:Nw)=>c2 (E [p.1,x.2,x.1] 0x1000222221000) (λ(F:aX)(s:Nw)=>c7 (E [p.1,p.3,a,x.1,s.1 3,s.1 1,s.1 0] 0x166665555565555556555555655400003210) (@rfl aT (mM p)) w (@rfl ae x.bT) A.next (E1 v o) (λ(k:aa)(l:aa)(tl:aX)(r:aX)(c:List aa)(u:bl c (Tr.d4 af ts lo (min hi (t.fX lo hi).fst)).snd.snd)(Q:Nw)=>g o k l tl r c u)))))
omit hm in theorem Pq:∀(ts:List Tr){m:Bool},x.most=m->(∀t∈ts,bj b (E0 h t))->bj b (Mr x m h ts):=by
 intro ts
 induction ts with
  |nil=>intro m hm _;exact ct λ p lo v hi w a o q l i ys e rest K d hi f k c=>by cases hi;have B:=d.d;have c:Hg m [] p.L x.e lo hi a ys K:=c;unfold Hg at c;rw [wR]at c;exact dg.run G [⟨_,_,hx.bT⟩] [fN hx.bT] (oo 0x32311822134141 []) λ n=>c4 (E [p.3] 0x1000) (@rfl ae x.bT) f.end (λ(r:ae)(D:Array aa)(C:Nw)=>c2 (E [r] 0x10) (aA ys▸c o q v w [] .nil))
  |cons t ts F=>
   intro m hm y
   exact ct λ p lo v hi w a o q l i ys e rest K d s f k c=>by
    cases s;have B:=d.d;have z:=F hm λ t h=>y t (.tail _ h);by_cases Ms:lo<hi;.exact z3 G hx hm z (y t (.head _)) d af Ms (.inr ⟨rfl,o,q,rfl⟩) f k c
    .have c:Hg m (t::ts) p.L x.e lo hi a ys K:=c;unfold Hg at c;rw [rG Ms]at k c;exact dg.run G [⟨_,_,hx.bT⟩] [fc hx.bT (.ref t.e),tC af,⟨_,z⟩] (oo 0x21313124151141442422134141 []) λ n=>c4 (E [p.3] 0x1000) (@rfl ae x.bT) f.at (λ(C:Nw)=>c3 (E [p.1] 0x10000) Ms (λ(I:Nw)=>c7 (E [p.1,p.3,a,x.1] 0x13210) (@rfl aT (mM p)) d (@rfl ae x.bT) f.next k (λ(g:aa)(j:aa)(tl:aX)(H:aX)(A:List aa)(u:bl A (Tr.d4 m ts lo hi).snd.snd)(J:Nw)=>c g j tl H A u)))
theorem Pr(t:Tr)(ts:List Tr)(d:∀u∈t::ts,bj b (E0 h u)):bj b (Mq x m h (t::ts)):=ct λ p lo o hi q f l i ys e rest K g a c j k n=>by cases c;exact z3 G hx hm (Pq G hx ts hm λ t h=>d t (.tail _ h)) (d t (.head _)) g ah a (.inl ⟨rfl,rfl⟩) j k n
end
noncomputable def wZ:List Kd:=[.fr (Po ah),.ls]
noncomputable def XG(h:Nat)(t:Tr)(p:Cp)(lo:Int)(c:aX)(hi:Int)(d:aX)(a:ae)(ys:List aa):Ct:=⟨[p.L,a],(XD h t lo c hi d a ys).HT,(XD h t lo c hi d a ys).post⟩
noncomputable def TM(h:Nat)(t:Tr):Sp:=gb (.of fo sD) [.fr [.rq t.e,.it,.it,.re],.ls] wZ (k1 [.ls]) (XG h t)
noncomputable def VP:bO:=sE (bE (aP 20) 0) 0
theorem E3:aP 20=.If (.Compare (xE VP 0) [.Eq] [.List [] (aY (xE VP 1))] (aY VP)) (sB (bE (aP 20) 0) 0) [] (kP (bE (aP 20) 0))::aC 1 (aP 20):=by kernel_rfl
section
variable{b:Bs}(G:Good b){k0 fQ:ae}{x:El}(hx:ej b k0 fQ x)
include G hx
theorem Ju{e:Ev}{p:Cp}{lo hi:Int}{c d:aX}{a:ae}{ys:List aa}:DE b e (sD p) (xE VP 0) (wY p.L) wZ [(p.L,.fr [.ref x.e,.int lo c,.int hi d,.ref a]),(a,.ls ys)] (k1 wZ) (eM (.ref x.bT) [(p.L,.fr [.ref x.e,.int lo c,.int hi d,.ref a]),(a,.ls ys)]):=DE.run G [⟨_,_,hx.fn⟩,⟨_,_,hx.dk⟩] [] (oo 0x2131533313132 []) λ n=>c2 (E [x.2,x.1,p.1] 0x12111110) (iG (.ref x.bT) [(p.L,.fr [.ref x.e,.int lo c,.int hi d,.ref a]),(a,.ls ys)])
theorem Jv{e:Ev}{K:Kv}{p:Cp}{lo hi:Int}{c d:aX}{a:ae}{ys:List aa}(f:bj b (EL x))(g:e.dp+110<900)(i:e.un+3+110<9900)(j:ys.length<=1000)(k:∀t t',K 0 (.ok (.ret (.int x.n t))) [(a,.ls (snoc ys (.str x.tag t')))] []):DS b e (sD p) (sB (bE (aP 20) 0) 0++aC 1 (aP 20)) (wY p.L) wZ [(p.L,.fr [.ref x.e,.int lo c,.int hi d,.ref a]),(a,.ls ys)] (k1 [.ls]) (l3 K):=DS.run G [] [⟨_,f⟩] (oo 0x12122131221 []) λ n=>c5 (E [a,x.1,p.1] 0x12210) (fj g:e.dp+1+100<900) i j (λ(t:aX)(t':aX)(l:Nw)=>k t t')
theorem Jw{e:Ev}{K:Kv}{m:Bool}(hm:x.most=m){h:Nat}{t:Tr}{ts:List Tr}{p:Cp}{lo hi:Int}{q r:aX}{a:ae}{ys:List aa}(i:bj b (Mq x m h (t::ts)))(g:Bw (e.dp+1) (e.un+3) h)(f:lo<hi)(j:dC (refsOf x.kids) 0 (ef (t::ts)))(k:ys.length+(Tr.d4 m (t::ts) lo hi).2.2.length<=900)(l:∀t' c,bl c (Tr.d4 m (t::ts) lo hi).2.2->K 0 (.ok (.ret (.int (if m then(Tr.d4 m (t::ts) lo hi).1 else(Tr.d4 m (t::ts) lo hi).2.1) t'))) [(a,.ls (ys++c))] []):DS b e (sD p) ([]++aC 1 (aP 20)) (wY p.L) wZ [(p.L,.fr [.ref x.e,.int lo q,.int hi r,.ref a]),(a,.ls ys)] (k1 [.ls]) (l3 K):=by
 have w:=g.d;induction m;.exact DS.run G [⟨_,_,hx.fn⟩,⟨_,_,hx.tL hm⟩,⟨_,_,hx.bT⟩] [⟨_,i⟩] (oo 0x2212533313132312413217177533313132 []) λ n=>c8 (E [p.1,n.1 0,a,x.1,x.3,x.2] 0x1033333544413210) (@rfl aT (mM (Cp.mk p.1 p.1 (n.1 0) 0 0 0 0))) g f (@rfl ae x.bT) j k (λ(s:aa)(u:aa)(tl:aX)(o:aX)(c:List aa)(d:bl c (Tr.d4 af (t::ts) lo hi).snd.snd)(v:Nw)=>c2 (E [p.1,x.2,x.1] 0x102222210) (l o c d))
 .exact DS.run G [⟨_,_,hx.fn⟩,⟨_,_,hx.tL hm⟩,⟨_,_,hx.bT⟩] [⟨_,i⟩] (oo 0x2212533313132312413217177533313132 []) λ n=>c8 (E [p.1,n.1 0,a,x.1,x.3,x.2] 0x1033333544413210) (@rfl aT (mM (Cp.mk p.1 p.1 (n.1 0) 0 0 0 0))) g f (@rfl ae x.bT) j k (λ(s:aa)(u:aa)(tl:aX)(o:aX)(c:List aa)(d:bl c (Tr.d4 ah (t::ts) lo hi).snd.snd)(v:Nw)=>c2 (E [p.1,x.2,x.1] 0x102222210) (l tl c d))
end
section
variable(G:Good b)(hc:bN b fQ (hU cv))(hS:bZ cv)
include G hc hS
theorem Pu(hx:ej b k0 fQ x)(l:mz b.w x)(j:x.kids=kids.map Tr.e)(n:∀u∈kids,bj b (E0 h u)):bj b (TM (h+1) (.mk x kids)):=ct λ p lo o hi q a ys e rest K f k d c=>by
 have f:Bw e.dp e.un (h+1):=f;refine dg.fn (DS.text E3 (DS.LZ G (cM (cZ (cu (by kernel_rfl)) _) f.u) (λ H s R=>⟨_,R.jq _ _ hx.bT.1 hx.bT.2⟩) (Ju G hx) (λ g=>?_) λ g=>?_));.induction kids with|nil=>have d:ys.length+(Tr.fX (.mk x []) lo hi).2.length<=900:=d;have c:∀t' i,bl i (Tr.fX (.mk x []) lo hi).2->K 0 (.ok (.ret (.int (Tr.fX (.mk x []) lo hi).1 t'))) [(a,.ls (ys++i))] []:=c;rw [wU]at c;exact Jv G hx (EM G hx l hc hS) (by have:=f.1;exact li 0x1384306e20313138430782011041311111 [e.1,h] rfl this) (by have:=f.2;exact li 0x126ac406e203103113126ac40fa2011041312311111 [e.2,h] rfl this) (li 0x3e83033038430431111 [ys.length,((Tr.mk x []).fX lo hi).snd.length] rfl d) λ t t'=>c t [.str x.tag t'] (.cons .nil)|cons t ts=>rw [j]at g;exact(by injection g)
 .induction kids with|nil=>rw [j]at g;exact absurd rfl g|cons t ts=>have d:ys.length+(Tr.fX (.mk x (t::ts)) lo hi).2.length<=900:=d;have c:∀t' i,bl i (Tr.fX (.mk x (t::ts)) lo hi).2->K 0 (.ok (.ret (.int (Tr.fX (.mk x (t::ts)) lo hi).1 t'))) [(a,.ls (ys++i))] []:=c;rw [o5]at d c;exact Jw G hx rfl (Pr G hx rfl t ts n) f.i4 k (jQ j▸dC.start _) d c
theorem TN{h:Nat}(H:gB b k0 fQ h t):bj b (E0 h t):=by induction H with|@mk h x a hx j s k v l=>exact ct λ lo w hi y c ys e rest K g d o p=>by have q:=g.d;exact dg.run G [] [⟨_,Pu G hc hS hx j k λ u r=>l u r⟩] (oo 0x1212131312121212112 []) λ n=>c7 (jf q:e.dp+0<1000) (E [n.1 0,c,(Tr.mk x a).x.1] 0x100000000210) (@rfl aT (sD (Cp.mk (n.1 0) (n.1 0) 0 0 0 0 0))) g d o (λ(t':aX)(i:List aa)(f:bl i ((Tr.mk x a).fX lo hi).snd)(z:Nw)=>p t' i f)
end
noncomputable def lH:aR:=⟨#[98,111,117,110,100]⟩
noncomputable def lI:aR:=⟨#[115,104,111,119,110]⟩
noncomputable def qTe:aR:=⟨#[95,108,97,119,95,116,101,115,116,46,60,108,111,99,97,108,115,62,46]⟩
noncomputable def TO:List aR:=[lF,lH,lG,lI,i']
noncomputable def TP:Bool->List aR|ah=>[lF,lH,lG,lI,i',n5]|af=>[lF,lH,lG,lI,i',n5,uj]
noncomputable def jT(L:ae):fJ:=nu 21 qTe 134 133 L []
noncomputable def jU(p:Cp):aT:=.forLoop (sE (bE (aP 21) 3) 0) (.ref p.it) (sB (bE (aP 21) 3) 0) [] (jT p.L)
noncomputable def gK(p:Cp):aT:=.func (aP 21) (jT p.L)
noncomputable def Pw(f:Bool):List Kd:=[.fr (TP f),.it,.dd,.dd,.ls]
noncomputable def E4:List Kd:=[.fr (TP af),.dd,.dd,.ls]
structure e9(T:List aR)(w:cP)(ek:Array aj)(pk:Nat)(eh:Array aj)(ph:Nat)(ys:List aa)(s:TS):Prop where
 k:lq T w ek pk
 h:lq T w eh ph
 ek:dF ek=s.known
 eh:dF eh=s.shown
 sn:bl ys s.seen
noncomputable def TQ(T:List aR)(w:cP)(r:Bool×TS)(kn sh sn:ae)(K:Kv):Prop:=(r.1=ah->∀ek pk eh ph ys,e9 T w ek pk eh ph ys r.2->K 0 (.ok (.ret (.bool ah))) [(kn,.dd ek pk),(sh,.dd eh ph),(sn,.ls ys)] [])/\(r.1=af->∀ek pk eh ph ys,e9 T w ek pk eh ph ys r.2->K 1 (.ok (.ret (.bool af))) [(kn,.dd ek pk),(sh,.dd eh ph),(sn,.ls ys)] [])
noncomputable def Rq(T:List aR)(w:cP)(r:Bool×TS)(L e:ae)(m:Int)(tb:aX)(kn sh sn:ae)(K:Kv):Prop:=(r.1=ah->∀v ek pk eh ph ys,e9 T w ek pk eh ph ys r.2->K 0 (.ok .next) [(L,.fr [.ref e,.int m tb,.ref kn,.ref sh,.ref sn,.bool ah,v]),(kn,.dd ek pk),(sh,.dd eh ph),(sn,.ls ys)] [])/\(r.1=af->∀v ek pk eh ph ys,e9 T w ek pk eh ph ys r.2->K 1 (.ok .next) [(L,.fr [.ref e,.int m tb,.ref kn,.ref sh,.ref sn,.bool af,v]),(kn,.dd ek pk),(sh,.dd eh ph),(sn,.ls ys)] [])
noncomputable def cTe(T:List aR)(w:cP)(h:Nat)(t:Tr)(m:Int)(s:TS)(a:Int)(tb:aX)(kn sh sn:ae)(ek:Array aj)(pk:Nat)(eh:Array aj)(ph:Nat)(ys:List aa):Ct:=⟨[kn,sh,sn],λ d u c=>[Bw d u h,a=m,e9 T w ek pk eh ph ys s,(Tr.test m t s).2.seen.length<=900],TQ T w (Tr.test m t s) kn sh sn⟩
noncomputable def Jx:List Kd:=[.dd,.dd,.ls]
noncomputable def Bc(T:List aR)(w:cP)(h:Nat)(t:Tr)(m:Int)(s:TS):Sp:=gb (.call 134 [.rq t.e,.it,.re,.re,.re]) [.dd,.dd,.ls] Jx (k1 Jx) (cTe T w h t m s)
noncomputable def Px(T:List aR)(w:cP)(x:El)(mo:Bool)(h:Nat)(ts:List Tr)(m:Int)(s:TS)(p:Cp)(c:Int)(tb:aX)(kn sh sn:ae)(a:Bool)(l:ae)(i:Int)(ek:Array aj)(pk:Nat)(eh:Array aj)(ph:Nat)(ys:List aa):Ct:=⟨[p.L,p.it,kn,sh,sn],λ d u e=>[Bw d u h,c=m,l=x.bT,dC (refsOf x.kids) i (ef ts),e9 T w ek pk eh ph ys s,(Tr.tests m mo ts a s).2.seen.length<=900],Rq T w (Tr.tests m mo ts a s) p.L x.e m tb kn sh sn⟩
noncomputable def XH(T:List aR)(w:cP)(x:El)(mo:Bool)(h:Nat)(ts:List Tr)(m:Int)(s:TS)(p:Cp)(a:Int)(tb:aX)(kn sh sn:ae)(c:Bool)(v:aa):=Px T w x mo h ts m s p a tb kn sh sn c
noncomputable def XI(T:List aR)(w:cP)(x:El)(mo:Bool)(h:Nat)(ts:List Tr)(m:Int)(s:TS)(p:Cp)(c:Int)(tb:aX)(kn sh sn:ae)(a:Bool)(l:ae)(i:Int)(ek:Array aj)(pk:Nat)(eh:Array aj)(ph:Nat)(ys:List aa):Ct:=⟨[p.L,p.it,kn,sh,sn],λ d u r=>(a=!mo)::(Px T w x mo h ts m s p c tb kn sh sn a l i ek pk eh ph ys).HT d u r,(Px T w x mo h ts m s p c tb kn sh sn a l i ek pk eh ph ys).post⟩
noncomputable def Mt(T:List aR)(w:cP)(x:El)(mo:Bool)(h:Nat)(ts:List Tr)(m:Int)(s:TS):Sp:=gb (.of fo jU) [.fr [.rq x.e,.it,.re,.re,.re,.bo],.it,.dd,.dd,.ls] (Pw ah) (k1 E4) (XI T w x mo h ts m s)
noncomputable def Mu(T:List aR)(w:cP)(x:El)(mo:Bool)(h:Nat)(ts:List Tr)(m:Int)(s:TS):Sp:=gb (.of fo jU) [.fr [.rq x.e,.it,.re,.re,.re,.bo,.an],.it,.dd,.dd,.ls] (Pw af) (k1 E4) (XH T w x mo h ts m s)
section
variable{m:Int}{mo told:Bool}{t:Tr}{ts:List Tr}{s:TS}
end
section
variable{b:Bs}(G:Good b){T:List aR}{k0 fQ:ae}{x:El}(hx:ej b k0 fQ x){mo:Bool}(hm:x.most=mo){h:Nat}{m:Int}
include G hx hm
theorem z4{e:Ev}{K:Kv}{t:Tr}(I:∀s,bj b (Mu T b.w x mo h ts m s))(Q:bj b (Bc T b.w h t m s))(C:Bw e.dp e.un h)(f:Bool){J:List aa}(R:mv f J)(F:dC (refsOf x.kids) i (ef (t::ts)))(S:e9 T b.w ek pk eh ph ys s)(L:(Tr.tests m mo (t::ts) (!mo) s).2.seen.length<=900)(O:Rq T b.w (Tr.tests m mo (t::ts) (!mo) s) p.L x.e m tb kn sh sn K):dg b e (jU p) (Pw f) [(p.L,.fr (.ref x.e::.int m tb::.ref kn::.ref sh::.ref sn::.bool (!mo)::J)),(p.it,.it x.bT i),(kn,.dd ek pk),(sh,.dd eh ph),(sn,.ls ys)] (k1 E4) K:=by
 have Y:=C.d;rw [jR (by induction mo<;>decide)]at L O;have H:(Tr.test m t s).2.seen.length<=900:=ai (ui m mo ts _ _) L;have U:(Tr.test m t s).1=ah->(Tr.tests m mo ts ah (Tr.test m t s).2).2.seen.length<=900:=λ q=>q▸L;have V:(Tr.test m t s).1=af->(Tr.tests m mo ts af (Tr.test m t s).2).2.seen.length<=900:=λ q=>q▸L;have M:(Tr.test m t s).1=ah->Rq T b.w (Tr.tests m mo ts ah (Tr.test m t s).2) p.L x.e m tb kn sh sn K:=λ q=>q▸O;have N:(Tr.test m t s).1=af->Rq T b.w (Tr.tests m mo ts af (Tr.test m t s).2) p.L x.e m tb kn sh sn K:=λ q=>q▸O;have I:=I (Tr.test m t s).2;induction mo;.induction f<;>rcases J with _|⟨v,_|⟨_,_⟩⟩<;>induction R;all_goals exact dg.run G [⟨_,_,hx.bT⟩,⟨_,_,hx.fn⟩,⟨_,_,hx.tL hm⟩] [fc hx.bT (.ref t.e),⟨_,Q⟩,⟨_,I⟩] (oo 0x432151321456255a54342414444411175551515442422134141 [(oo 0x432151321456255a [(oo 0x432152 [])]),(oo 0x432152 [])]) λ n=>c4 (E [p.3] 0x1000) (@rfl ae x.bT) F.at (λ(X:Nw)=>c7 (E [kn,sh,sn,t.x.1,p.1,x.2,x.1] 0x14444666665444443210) C (@rfl Int m) S H (λ(k:(Tr.test m t s).fst=ah)(u:Array aj)(w:Nat)(y:Array aj)(z:Nat)(A:List aa)(B:e9 T b.w u w y z A (Tr.test m t s).snd)(P:Nw)=>e7 (E [p.1,p.3,kn,sh,sn,x.1] 0x100543210) (@rfl aT (jU p)) C (@rfl Int m) (@rfl ae x.bT) F.next B (U k) (λ(l:(Tr.tests m af ts ah (Tr.test m t s).snd).fst=ah)(o:aa)(a:Array aj)(c:Nat)(d:Array aj)(g:Nat)(j:List aa)(r:e9 T b.w a c d g j (Tr.tests m af ts ah (Tr.test m t s).snd).snd)(D:Nw)=>(M k).1 l o a c d g j r) (λ(l:(Tr.tests m af ts ah (Tr.test m t s).snd).fst=af)(o:aa)(a:Array aj)(c:Nat)(d:Array aj)(g:Nat)(j:List aa)(r:e9 T b.w a c d g j (Tr.tests m af ts ah (Tr.test m t s).snd).snd)(D:Nw)=>(M k).2 l o a c d g j r)) (λ(k:(Tr.test m t s).fst=af)(u:Array aj)(w:Nat)(y:Array aj)(z:Nat)(A:List aa)(B:e9 T b.w u w y z A (Tr.test m t s).snd)(P:Nw)=>e7 (E [p.1,p.3,kn,sh,sn,x.1] 0x100543210) (@rfl aT (jU p)) C (@rfl Int m) (@rfl ae x.bT) F.next B (V k) (λ(l:(Tr.tests m af ts af (Tr.test m t s).snd).fst=ah)(o:aa)(a:Array aj)(c:Nat)(d:Array aj)(g:Nat)(j:List aa)(r:e9 T b.w a c d g j (Tr.tests m af ts af (Tr.test m t s).snd).snd)(D:Nw)=>(N k).1 l o a c d g j r) (λ(l:(Tr.tests m af ts af (Tr.test m t s).snd).fst=af)(o:aa)(a:Array aj)(c:Nat)(d:Array aj)(g:Nat)(j:List aa)(r:e9 T b.w a c d g j (Tr.tests m af ts af (Tr.test m t s).snd).snd)(D:Nw)=>(N k).2 l o a c d g j r)))
 .induction f<;>rcases J with _|⟨v,_|⟨_,_⟩⟩<;>induction R;all_goals exact dg.run G [⟨_,_,hx.bT⟩,⟨_,_,hx.fn⟩,⟨_,_,hx.tL hm⟩] [fc hx.bT (.ref t.e),⟨_,Q⟩,⟨_,I⟩] (oo 0x432151321456255a54342414444411175551515442422134141 [(oo 0x432151321456255a [(oo 0x432152 [])]),(oo 0x432152 [])]) λ n=>c4 (E [p.3] 0x1000) (@rfl ae x.bT) F.at (λ(X:Nw)=>c7 (E [kn,sh,sn,t.x.1,p.1,x.2,x.1] 0x14444666665444443210) C (@rfl Int m) S H (λ(k:(Tr.test m t s).fst=ah)(u:Array aj)(w:Nat)(y:Array aj)(z:Nat)(A:List aa)(B:e9 T b.w u w y z A (Tr.test m t s).snd)(P:Nw)=>e7 (E [p.1,p.3,kn,sh,sn,x.1] 0x100543210) (@rfl aT (jU p)) C (@rfl Int m) (@rfl ae x.bT) F.next B (U k) (λ(l:(Tr.tests m ah ts ah (Tr.test m t s).snd).fst=ah)(o:aa)(a:Array aj)(c:Nat)(d:Array aj)(g:Nat)(j:List aa)(r:e9 T b.w a c d g j (Tr.tests m ah ts ah (Tr.test m t s).snd).snd)(D:Nw)=>(M k).1 l o a c d g j r) (λ(l:(Tr.tests m ah ts ah (Tr.test m t s).snd).fst=af)(o:aa)(a:Array aj)(c:Nat)(d:Array aj)(g:Nat)(j:List aa)(r:e9 T b.w a c d g j (Tr.tests m ah ts ah (Tr.test m t s).snd).snd)(D:Nw)=>(M k).2 l o a c d g j r)) (λ(k:(Tr.test m t s).fst=af)(u:Array aj)(w:Nat)(y:Array aj)(z:Nat)(A:List aa)(B:e9 T b.w u w y z A (Tr.test m t s).snd)(P:Nw)=>e7 (E [p.1,p.3,kn,sh,sn,x.1] 0x100543210) (@rfl aT (jU p)) C (@rfl Int m) (@rfl ae x.bT) F.next B (V k) (λ(l:(Tr.tests m ah ts af (Tr.test m t s).snd).fst=ah)(o:aa)(a:Array aj)(c:Nat)(d:Array aj)(g:Nat)(j:List aa)(r:e9 T b.w a c d g j (Tr.tests m ah ts af (Tr.test m t s).snd).snd)(D:Nw)=>(N k).1 l o a c d g j r) (λ(l:(Tr.tests m ah ts af (Tr.test m t s).snd).fst=af)(o:aa)(a:Array aj)(c:Nat)(d:Array aj)(g:Nat)(j:List aa)(r:e9 T b.w a c d g j (Tr.tests m ah ts af (Tr.test m t s).snd).snd)(D:Nw)=>(N k).2 l o a c d g j r)))
omit hm in theorem Py:∀(ts:List Tr){mo:Bool},x.most=mo->(∀t∈ts,∀s,bj b (Bc T b.w h t m s))->∀s,bj b (Mu T b.w x mo h ts m s):=by
 intro ts
 induction ts with
  |nil=>
   intro mo hm _ s
   exact ct λ p J tb kn sh sn r v l i ek pk eh ph ys e rest K y C hi u z A q=>by
    cases hi;cases C;have L:=y.d;have q:Rq T b.w (Tr.tests m mo [] r s) p.L x.e m tb kn sh sn K:=q;rw [Ba]at q;cases r;.exact dg.run G [⟨_,_,hx.bT⟩] [fN hx.bT] (oo 0x5432521c22134141 []) λ n=>c4 (E [p.3] 0x1000) (@rfl ae x.bT) u.end (λ(w:ae)(D:Array aa)(F:Nw)=>c2 (E [w] 0x10) (q.2 rfl v ek pk eh ph ys z))
    .exact dg.run G [⟨_,_,hx.bT⟩] [fN hx.bT] (oo 0x5432511c22134141 []) λ n=>c4 (E [p.3] 0x1000) (@rfl ae x.bT) u.end (λ(w:ae)(D:Array aa)(F:Nw)=>c2 (E [w] 0x10) (q.1 rfl v ek pk eh ph ys z))
  |cons t ts M=>
   intro mo hm I s
   exact ct λ p J tb kn sh sn r v l i ek pk eh ph ys e rest K y C hi u z A q=>by
    cases hi;cases C;have L:=y.d;have B:=M hm λ t h=>I t (.tail _ h);have q:Rq T b.w (Tr.tests m mo (t::ts) r s) p.L x.e m tb kn sh sn K:=q;by_cases XJ:r=mo
    .rw [pZ XJ]at A q;subst XJ;have B:=B s;induction r;.exact dg.run G [⟨_,_,hx.bT⟩,⟨_,_,hx.fn⟩,⟨_,_,hx.tL hm⟩] [fc hx.bT (.ref t.e),⟨_,B⟩] (oo 0x432151543126241175551515442422134141 [(oo 0x432152 [])]) λ n=>c4 (E [p.3] 0x1000) (@rfl ae x.bT) u.at (λ(F:Nw)=>e7 (E [p.1,p.3,kn,sh,sn,x.1,x.2] 0x10000555556543210) (@rfl aT (jU p)) y (@rfl Int m) (@rfl ae x.bT) u.next z A (λ(j:(Tr.tests m af ts af s).fst=ah)(k:aa)(a:Array aj)(c:Nat)(d:Array aj)(f:Nat)(g:List aa)(o:e9 T b.w a c d f g (Tr.tests m af ts af s).snd)(H:Nw)=>q.1 j k a c d f g o) (λ(j:(Tr.tests m af ts af s).fst=af)(k:aa)(a:Array aj)(c:Nat)(d:Array aj)(f:Nat)(g:List aa)(o:e9 T b.w a c d f g (Tr.tests m af ts af s).snd)(H:Nw)=>q.2 j k a c d f g o))
     .exact dg.run G [⟨_,_,hx.bT⟩,⟨_,_,hx.fn⟩,⟨_,_,hx.tL hm⟩] [fc hx.bT (.ref t.e),⟨_,B⟩] (oo 0x432151543126241175551515442422134141 [(oo 0x432152 [])]) λ n=>c4 (E [p.3] 0x1000) (@rfl ae x.bT) u.at (λ(F:Nw)=>e7 (E [p.1,p.3,kn,sh,sn,x.1,x.2] 0x10000555556543210) (@rfl aT (jU p)) y (@rfl Int m) (@rfl ae x.bT) u.next z A (λ(j:(Tr.tests m ah ts ah s).fst=ah)(k:aa)(a:Array aj)(c:Nat)(d:Array aj)(f:Nat)(g:List aa)(o:e9 T b.w a c d f g (Tr.tests m ah ts ah s).snd)(H:Nw)=>q.1 j k a c d f g o) (λ(j:(Tr.tests m ah ts ah s).fst=af)(k:aa)(a:Array aj)(c:Nat)(d:Array aj)(f:Nat)(g:List aa)(o:e9 T b.w a c d f g (Tr.tests m ah ts ah s).snd)(H:Nw)=>q.2 j k a c d f g o))
    .have:r=!mo:=by induction r<;>cases mo<;>first|rfl|exact absurd rfl XJ
     subst this;exact z4 G hx hm B (I t (.head _) s) y af trivial u z A q
theorem Pz(t:Tr)(ts:List Tr)(c:∀u∈t::ts,∀s,bj b (Bc T b.w h u m s))(s:TS):bj b (Mt T b.w x mo h (t::ts) m s):=ct λ p o tb kn sh sn q l i ek pk eh ph ys e rest K a d f hi g j k n=>by cases hi;induction f;subst a;exact z4 G hx hm (Py G hx ts hm λ t h=>c t (.tail _ h)) (c t (.head _) s) d ah trivial g j k n
end
set_option backward.match.sparseCases true
section
variable{b:Bs}{e:Ev}{c:aT}{ks:List Kd}{vs:List eK}{ks':Nat->List Kd}{K:Kv}{H:Hs}{s0 s:aD}{C0:Cells}{env:fJ}
theorem DT.mN(h:DT b e c x env ks vs (k1 kj) (eM (.bool v) ot))(a:At b s0 C0 s (d' H ks vs)){Q:Bool->aD->Prop}{E:aa->aD->Prop}(n:∀o d,At b s0 C0 d (d' o kj ot)->Q v d):a_ (aW b.prog b.w) e.ar c (eP x env (dh x env)) Q E s:=aQ (h H s0 C0 s a) (λ q d g=>g.out λ j i tl k f l=>by generalize t:(fy (Rb q))=r at f;induction f;induction jB (eU (cA t));exact n k d (l.sub (a9 _ _))) λ x d g=>g.out λ j i tl k f l=>nomatch f
theorem At.Mv(a:At b s0 C0 s (d' H kj vs)):Fi b s0 C0 (k1 kj) (eM (.bool v) vs) (.ok (Rb v)) s:=⟨0,vs,[],H,.mk,by rw [aA];exact a⟩
theorem DS.E5(v:Bool){body d rest:List ea}{pos:Aw}(h:DT b e c t env ks vs (k1 kj) (eM (.bool v) ot))(f:DS b e c ((if v then body else d)++rest) env kj ot ks' K):DS b e c (.If t body d pos::rest) env ks vs ks' K:=λ H s0 C0 s a=>by rw [uW];exact au (bU (bI (au (h.mN a λ g i j=>f g s0 C0 i j))))
theorem DT.yj(G:Good b)(k:e.un+c.cUnits<9900)(n:∀H s,Ready b s (d' H kj ot)->∃ep,s.heap.get? bT=ab (lO xs ep))(o:DE b e c l env ks vs (k1 kj) (eM (.ref bT) ot)):DT b e c (.Compare l [.Eq] [.List [] pos'] pos) env ks vs (k1 kj) (eM (.bool xs.isEmpty) ot):=λ H s0 C0 s a=>aQ (DT.nil (K:=λ j r vs tl=>(j=0\/j=1)/\r=.ok (.ret (.bool xs.isEmpty))/\vs=ot/\tl=[]) G k n o (λ h=>⟨.inl rfl,by rw [h];rfl,rfl,rfl⟩) (λ h=>⟨.inr rfl,by induction xs with|nil=>exact absurd rfl h|cons _ _=>rfl,rfl,rfl⟩) H s0 C0 s a) (λ v q f=>f.out λ j g tl t i d=>by obtain⟨u,w,rfl,rfl⟩:=i;cases jB (eU (cA w));have d:=d.sub (a9 _ _);rcases u with rfl|rfl<;>exact d.Mv) λ x q f=>f.out λ j g tl t i d=>(by injection i.2.1)
theorem DT.TR(hx:DT b e c x env ks vs (k1 kj) (eM (.bool af) ot)):DT b e c (.BoolOp .And (x::rest) p) env ks vs (k1 kj) (eM (.bool af) ot):=λ H s0 C0 s a=>by show a_ _ _ _ (eP x env (dh x env)>>=λ t=>match ji,t with|.And,af=>pure af|.Or,ah=>pure ah|_,_=>t9 .And rest env) _ _ _;exact au (hx.mN a λ g h f=>λ d d d d=>f.Mv)
theorem DT.PA(hx:DT b e c x env ks vs (k1 kj) (eM (.bool ah) zU))(f:DT b e c y env kj zU (k1 TU) (eM (.bool v) TV)):DT b e c (.BoolOp .And [x,y] p) env ks vs (k1 TU) (eM (.bool v) TV):=λ H s0 C0 s a=>by show a_ _ _ _ (eP x env (dh x env)>>=λ t=>match ji,t with|.And,af=>pure af|.Or,ah=>pure ah|_,_=>t9 .And [y] env) _ _ _;refine au (hx.mN a λ i j g=>?_);show a_ _ _ _ (eP y env (dh y env)>>=λ t=>match ji,t with|.And,af=>pure af|.Or,ah=>pure ah|_,_=>pure (ji==.And)) _ _ _;refine au (f.mN g λ k l h=>?_);induction v<;>exact λ d d d d=>h.Mv
theorem DE.yk(v:Bool)(d:DT b e c t env ks vs (k1 kj) (eM (.bool v) zU))(hx:DE b e c (if v then x else y) env kj zU (k1 TU) (eM w TV)):DE b e c (.IfExp t x y p) env ks vs (k1 TU) (eM w TV):=λ H s0 C0 s a=>by
 show a_ _ _ _ (eP t env (dh t env)>>=λ t=>if t=ah then dh x env else dh y env) _ _ _;refine au (d.mN a λ h i f=>?_);have q:(if v=ah then dh x env else dh y env)=dh (if v=ah then x else y) env:=by induction v<;>rfl
 rw [q];exact hx.then f λ j k g=>g.fin
end
noncomputable def Mw(G:Good b)(T:List aR)(v:Bool):Ok b:=⟨gD "dict.__contains__" [.re,.st] [.dd] λ d k a es ep=>⟨[d],λ a a a K=>(¬d=1/\lq T b.w es ep/\(dF es k).isSome=v)/\K 0 (.ok (.ret (.bool v))) [(d,ft es ep)] []⟩,bF λ d k tk es ep=>.mk λ A s rest K R h hh Rd q=>by obtain⟨⟨f,g,i⟩,h⟩:=h;rw [G.prog];refine C9 (Rd.own _ (.head _)) g.d f λ t=>?_;rw [g.isSome,i];exact q 0 _ _ _ _ h (Trans.same Rd.left _)⟩
theorem e9.put{T:List aR}{w:cP}{ek eh a:Array aj}{pk ph d:Nat}{ys:List aa}{s:TS}{k:aR}{m:Int}(h:e9 T w ek pk eh ph ys s)(f:lq T w a d)(g:dF a=Lean.put (dF eh) k m):e9 T w ek pk a d ys {s with shown:=Lean.put s.shown k m}:=⟨h.k,f,h.ek,g.trans (h.eh▸rfl),h.sn⟩
noncomputable def ju:List Kd:=[.fr TO,.dd,.dd,.ls]
noncomputable def iK(p:Cp)(x:El)(m:Int)(tb:aX)(kn sh sn:ae)(ek:Array aj)(pk:Nat)(eh:Array aj)(ph:Nat)(ys:List aa):List eK:=[(p.L,.fr [.ref x.e,.int m tb,.ref kn,.ref sh,.ref sn]),(kn,.dd ek pk),(sh,.dd eh ph),(sn,.ls ys)]
section
variable{b:Bs}(G:Good b){T:List aR}{k0 fQ:ae}{x:El}(hx:ej b k0 fQ x){m:Int}{p:Cp}{tb:aX}{kn sh sn:ae}{ek:Array aj}{pk:Nat}{eh:Array aj}{ph:Nat}{ys:List aa}(hk:lq T b.w ek pk)(hh:lq T b.w eh ph)(hn1:¬kn=1)(Rt:¬sh=1)
include G hx hk hh hn1 Rt
theorem Jy{e:Ev}{K:Kv}(hc:m<=(dF eh x.tag).getD (-1))(a:K 0 (.ok (.ret (.bool ah))) [(kn,.dd ek pk),(sh,.dd eh ph),(sn,.ls ys)] []):DS b e (gK p) (aP 21) (jT p.L) ju (iK p x m tb kn sh sn ek pk eh ph ys) (k1 Jx) (l3 K):=DS.run G [⟨_,_,hx.fn⟩,⟨_,_,hx.dk⟩] [zg G T,C1 ah] (oo 0x41341114141213211153331313422224114143213611153331313266662 []) λ n=>c3 (E [sh,x.2,x.1,p.1] 0x130000322222100) (c2 Rt hh) (λ(t:aX)(f:Nw)=>c3 (E [p.1] 0x10) hc (λ(g:Nw)=>c3 (E [sh,x.2,x.1,p.1] 0x130000322222100) (c2 Rt hh) (λ(d:aX)(h:Nw)=>c3 (E [p.1] 0x10) hc (λ(i:Nw)=>a))))
theorem Jz{e:Ev}{K:Kv}{h:Nat}(d:bj b (wX b T h (.mk x kids)))(f:Bd (e.dp+1) (e.un+3) h)(hc:¬m<=(dF eh x.tag).getD (-1))(a:Tr.worth (eV (dF ek) m) (.mk x kids)<m)(g:K 1 (.ok (.ret (.bool af))) [(kn,.dd ek pk),(sh,.dd eh ph),(sn,.ls ys)] []):DS b e (gK p) (aP 21) (jT p.L) ju (iK p x m tb kn sh sn ek pk eh ph ys) (k1 Jx) (l3 K):=DS.run G [⟨_,_,hx.fn⟩,⟨_,_,hx.dk⟩] [zg G T,C1 af,⟨_,d⟩,tC ah] (oo 0x4124211416221341115333131364444611616321514441114143213611153331313266662 []) λ n=>c3 (E [sh,x.2,x.1,p.1] 0x130000322222100) (c2 Rt hh) (λ(t:aX)(j:Nw)=>c3 (E [p.1] 0x10) hc (λ(k:Nw)=>c4 (E [kn,x.1,p.1] 0x122210) f hk (λ(t':aX)(l:Nw)=>c3 (E [p.1] 0x10) a (λ(o:Nw)=>c3 (E [sh,x.2,x.1,p.1] 0x130000322222100) (c2 Rt hh) (λ(i:aX)(q:Nw)=>c3 (E [p.1] 0x10) hc (λ(r:Nw)=>g))))))
theorem JA{e:Ev}{K:Kv}{d:Nat->List Kd}(f:bj b (wX b T h (.mk x kids)))(g:Bd (e.dp+1) (e.un+3) h)(hc:¬m<=(dF eh x.tag).getD (-1))(a:¬Tr.worth (eV (dF ek) m) (.mk x kids)<m)(i:K 0 (.ok .next) (iK p x m tb kn sh sn ek pk eh ph ys) []):DS b e (gK p) (cj 1 (aP 21)) (jT p.L) ju (iK p x m tb kn sh sn ek pk eh ph ys) (kM ju d) K:=DS.run G [⟨_,_,hx.fn⟩,⟨_,_,hx.dk⟩] [zg G T,C1 af,⟨_,f⟩,tC af] (oo 0x42135111616321514441114143213611153331313266662 []) λ n=>c3 (E [sh,x.2,x.1,p.1] 0x130000322222100) (c2 Rt hh) (λ(t:aX)(j:Nw)=>c3 (E [p.1] 0x10) hc (λ(k:Nw)=>c4 (E [kn,x.1,p.1] 0x122210) g hk (λ(t':aX)(l:Nw)=>c3 (E [p.1] 0x10) a (λ(o:Nw)=>i))))
end
noncomputable def JB:bO:=sE (bE (aP 21) 1) 0
noncomputable def Be:bO:=xE JB 0
noncomputable def Bf:bO:=sE (bE (aP 21) 2) 0
noncomputable def w4:bO:=xE Bf 0
theorem p6:aC 1 (aP 21)=.If (.BoolOp .And [.Compare (xE Be 0) [.Eq] [.List [] (aY (xE Be 1))] (aY Be),xE JB 1] (aY JB)) (sB (bE (aP 21) 1) 0) [] (kP (bE (aP 21) 1))::aC 2 (aP 21):=by kernel_rfl
theorem p7:aC 2 (aP 21)=.Assign [.Name n5 (aY (sE (bE (aP 21) 2) 1))] (.IfExp (.Compare (xE w4 0) [.Eq] [.List [] (aY (xE w4 1))] (aY w4)) (xE Bf 1) (xE Bf 2) (aY Bf)) (kP (bE (aP 21) 2))::aC 3 (aP 21):=by kernel_rfl
section
variable{b:Bs}(G:Good b){T:List aR}{k0 fQ:ae}{x:El}(hx:ej b k0 fQ x){m:Int}{p:Cp}{tb:aX}{kn sh sn:ae}{ek:Array aj}{pk:Nat}{eh:Array aj}{ph:Nat}{ys:List aa}
include G hx
theorem JC:DE b e (gK p) (xE Be 0) (jT p.L) ju (iK p x m tb kn sh sn ek pk eh ph ys) (k1 ju) (eM (.ref x.bT) (iK p x m tb kn sh sn ek pk eh ph ys)):=DE.run G [⟨_,_,hx.fn⟩,⟨_,_,hx.dk⟩] [] (oo 0x432151533313132 []) λ n=>c2 (E [x.2,x.1,p.1] 0x12111110) (iG (.ref x.bT) (iK p x m tb kn sh sn ek pk eh ph ys))
theorem z5:DE b e (gK p) (xE w4 0) (jT p.L) ju (iK p x m tb kn sh sn ek pk eh ph ys) (k1 ju) (eM (.ref x.bT) (iK p x m tb kn sh sn ek pk eh ph ys)):=DE.run G [⟨_,_,hx.fn⟩,⟨_,_,hx.dk⟩] [] (oo 0x432151533313132 []) λ n=>c2 (E [x.2,x.1,p.1] 0x12111110) (iG (.ref x.bT) (iK p x m tb kn sh sn ek pk eh ph ys))
theorem JD(a:x.most=mo):DE b e (gK p) (xE Bf 2) (jT p.L) ju (iK p x m tb kn sh sn ek pk eh ph ys) (k1 ju) (eM (.bool (!mo)) (iK p x m tb kn sh sn ek pk eh ph ys)):=by
 induction mo;.exact DE.run G [⟨_,_,hx.fn⟩,⟨_,_,hx.tL a⟩] [] (oo 0x432151533313132 []) λ n=>c2 (E [x.2,x.1,p.1] 0x12111110) (iG (.bool ah) (iK p x m tb kn sh sn ek pk eh ph ys))
 .exact DE.run G [⟨_,_,hx.fn⟩,⟨_,_,hx.tL a⟩] [] (oo 0x432151533313132 []) λ n=>c2 (E [x.2,x.1,p.1] 0x12111110) (iG (.bool af) (iK p x m tb kn sh sn ek pk eh ph ys))
theorem JE{e:Ev}{K:Kv}{k:Bool}(L:x.most=k){h:Nat}{t:Tr}{ts:List Tr}{s:TS}(C:bj b (Mt T b.w x k h (t::ts) m s))(A:Bw (e.dp+1) (e.un+3) h)(D:dC (refsOf x.kids) 0 (ef (t::ts)))(F:e9 T b.w ek pk eh ph ys s)(I:(Tr.tests m k (t::ts) (!k) s).2.seen.length<=900)(hT:T.length<=1000)(w:x.tag∈T)(y:(Tr.tests m k (t::ts) (!k) s).1=ah->∀ek pk eh ph ys,e9 T b.w ek pk eh ph ys {(Tr.tests m k (t::ts) (!k) s).2 with shown:=put (Tr.tests m k (t::ts) (!k) s).2.shown x.tag m}->K 0 (.ok (.ret (.bool ah))) [(kn,.dd ek pk),(sh,.dd eh ph),(sn,.ls ys)] [])(z:(Tr.tests m k (t::ts) (!k) s).1=af->∀ek pk eh ph ys,e9 T b.w ek pk eh ph ys (Tr.tests m k (t::ts) (!k) s).2->K 1 (.ok (.ret (.bool af))) [(kn,.dd ek pk),(sh,.dd eh ph),(sn,.ls ys)] []):DB b e (gK p) (.Name n5 (aY (sE (bE (aP 21) 2) 1))) (.bool (!k)) (aC 3 (aP 21)) (jT p.L) ju (iK p x m tb kn sh sn ek pk eh ph ys) (k1 Jx) (l3 K):=by
 have M:=A.d;induction k;.exact DB.run G [⟨_,_,hx.fn⟩,⟨_,_,hx.dk⟩,⟨_,_,hx.bT⟩] [⟨_,C⟩,zh G T hT] (oo 0x413414321461665333131322225431262321717753331313212 [(oo 0x4324222 [])]) λ n=>Zj (E [p.1,n.1 0,kn,sh,sn,x.1,x.3,x.2] 0x10005555576661543210) (@rfl aT (jU (Cp.mk p.1 p.1 (n.1 0) 0 0 0 0))) (@rfl Bool ah) A (@rfl Int m) (@rfl ae x.bT) D F I (λ(l:(Tr.tests m af (t::ts) (!af) s).fst=ah)(v:aa)(a:Array aj)(d:Nat)(f:Array aj)(i:Nat)(g:List aa)(j:e9 T b.w a d f i g (Tr.tests m af (t::ts) (!af) s).snd)(B:Nw)=>c3 (E [sh,x.2,x.1,p.1] 0x133332222210000) (c2 j.h w) (λ(o:Array aj)(q:Nat)(r:lq T b.w o q)(u:dF o=put (dF f) x.tag m)(J:Nw)=>c2 (E [p.1] 0x10) (y l a d o q g (j.put r u)))) (λ(l:(Tr.tests m af (t::ts) (!af) s).fst=af)(v:aa)(a:Array aj)(d:Nat)(f:Array aj)(i:Nat)(g:List aa)(j:e9 T b.w a d f i g (Tr.tests m af (t::ts) (!af) s).snd)(B:Nw)=>c2 (E [p.1] 0x100) (z l a d f i g j))
 .exact DB.run G [⟨_,_,hx.fn⟩,⟨_,_,hx.dk⟩,⟨_,_,hx.bT⟩] [⟨_,C⟩,zh G T hT] (oo 0x413414321461665333131322225431262321717753331313212 [(oo 0x4324222 [])]) λ n=>Zj (E [p.1,n.1 0,kn,sh,sn,x.1,x.3,x.2] 0x10005555576661543210) (@rfl aT (jU (Cp.mk p.1 p.1 (n.1 0) 0 0 0 0))) (@rfl Bool af) A (@rfl Int m) (@rfl ae x.bT) D F I (λ(l:(Tr.tests m ah (t::ts) (!ah) s).fst=ah)(v:aa)(a:Array aj)(d:Nat)(f:Array aj)(i:Nat)(g:List aa)(j:e9 T b.w a d f i g (Tr.tests m ah (t::ts) (!ah) s).snd)(B:Nw)=>c3 (E [sh,x.2,x.1,p.1] 0x133332222210000) (c2 j.h w) (λ(o:Array aj)(q:Nat)(r:lq T b.w o q)(u:dF o=put (dF f) x.tag m)(J:Nw)=>c2 (E [p.1] 0x10) (y l a d o q g (j.put r u)))) (λ(l:(Tr.tests m ah (t::ts) (!ah) s).fst=af)(v:aa)(a:Array aj)(d:Nat)(f:Array aj)(i:Nat)(g:List aa)(j:e9 T b.w a d f i g (Tr.tests m ah (t::ts) (!ah) s).snd)(B:Nw)=>c2 (E [p.1] 0x100) (z l a d f i g j))
theorem z6(v:Bool)(d:lq T b.w ek pk)(a:¬kn=1)(f:(dF ek x.tag).isSome=v):DT b e (gK p) (xE JB 1) (jT p.L) ju (iK p x m tb kn sh sn ek pk eh ph ys) (k1 ju) (eM (.bool (!v)) (iK p x m tb kn sh sn ek pk eh ph ys)):=by
 induction v;.exact DT.run G [⟨_,_,hx.fn⟩,⟨_,_,hx.dk⟩] [Mw G T af] (oo 0x431251221341442533313132 []) λ n=>c3 (E [kn,p.1,x.2,x.1] 0x1133333210000) (c3 a d f) (λ(g:Nw)=>iG (.bool ah) (iK p x m tb kn sh sn ek pk eh ph ys))
 .exact DT.run G [⟨_,_,hx.fn⟩,⟨_,_,hx.dk⟩] [Mw G T ah] (oo 0x431251221341442533313132 []) λ n=>c3 (E [kn,p.1,x.2,x.1] 0x1133333210000) (c3 a d f) (λ(g:Nw)=>iG (.bool af) (iK p x m tb kn sh sn ek pk eh ph ys))
theorem JF{e:Ev}{K:Kv}{k:Nat->List Kd}(l:bj b (EL x))(o:e.dp+110<900)(q:e.un+3+110<9900)(r:ys.length<=1000)(u:lq T b.w ek pk)(hT:T.length<=1000)(i:x.tag∈T)(v:∀a f t,lq T b.w a f->dF a=put (dF ek) x.tag x.n->K 0 (.ok .next) (iK p x m tb kn sh sn a f eh ph (snoc ys (.str x.tag t))) []):DS b e (gK p) (cj 1 (sB (bE (aP 21) 1) 0++aC 2 (aP 21))) (jT p.L) ju (iK p x m tb kn sh sn ek pk eh ph ys) (kM ju k) K:=DS.run G [⟨_,_,hx.fn⟩,⟨_,_,hx.dk⟩] [⟨_,l⟩,zh G T hT] (oo 0x24135132146166533313134442131221 []) λ n=>c5 (E [sn,x.1,p.1] 0x12210) (fj o:e.dp+1+100<900) q r (λ(t:aX)(t':aX)(w:Nw)=>c3 (E [kn,x.2,x.1,p.1] 0x1332222210000) (c2 u i) (λ(d:Array aj)(g:Nat)(h:lq T b.w d g)(j:dF d=put (dF ek) x.tag x.n)(y:Nw)=>v d g t' h j))
theorem z7(v:Bool)(d:lq T b.w ek pk)(hi:dF ek x.tag=ab i)(a:HY v (i>=m)):DE b e (gK p) (xE Bf 1) (jT p.L) ju (iK p x m tb kn sh sn ek pk eh ph ys) (k1 ju) (eM (.bool v) (iK p x m tb kn sh sn ek pk eh ph ys)):=by
 induction v;.have a:=a;exact DE.run G [⟨_,_,hx.fn⟩,⟨_,_,hx.dk⟩] [Dc G T i,C1 af] (oo 0x431251114142213414445333131322 []) λ n=>c3 (E [kn,x.2,x.1,p.1] 0x13322222100000) (c2 d hi) (λ(t:aX)(f:Nw)=>c3 (E [p.1] 0x10) a (λ(g:Nw)=>iG (.bool af) (iK p x m tb kn sh sn ek pk eh ph ys)))
 .have a:=a;exact DE.run G [⟨_,_,hx.fn⟩,⟨_,_,hx.dk⟩] [Dc G T i,C1 ah] (oo 0x431251114142213414445333131322 []) λ n=>c3 (E [kn,x.2,x.1,p.1] 0x13322222100000) (c2 d hi) (λ(t:aX)(f:Nw)=>c3 (E [p.1] 0x10) a (λ(g:Nw)=>iG (.bool ah) (iK p x m tb kn sh sn ek pk eh ph ys)))
theorem z8{e:Ev}{K:Kv}(v:Bool)(w:e.dp+110<900)(r:dC (refsOf x.kids) 0 [])(t:lq T b.w eh ph)(hT:T.length<=1000)(j:x.tag∈T)(a:v=ah->∀d i,lq T b.w d i->dF d=put (dF eh) x.tag m->K 0 (.ok (.ret (.bool ah))) [(kn,.dd ek pk),(sh,.dd d i),(sn,.ls ys)] [])(f:v=af->K 1 (.ok (.ret (.bool af))) [(kn,.dd ek pk),(sh,.dd eh ph),(sn,.ls ys)] []):DB b e (gK p) (.Name n5 (aY (sE (bE (aP 21) 2) 1))) (.bool v) (aC 3 (aP 21)) (jT p.L) ju (iK p x m tb kn sh sn ek pk eh ph ys) (k1 Jx) (l3 K):=by
 have q:=r.end;induction v;.have f:=f rfl;exact DB.run G [⟨_,_,hx.fn⟩,⟨_,_,hx.dk⟩,⟨_,_,hx.bT⟩] [fN hx.bT] (oo 0x54342441c1213212121717753331313212 []) λ n=>c4 (E [n.1 0,x.3,x.2,x.1,p.1] 0x14443333321110000) (@rfl ae x.bT) q (λ(g:ae)(D:Array aa)(u:Nw)=>c2 (E [p.1,g] 0x1100) f)
 .have a:=a rfl;exact DB.run G [⟨_,_,hx.fn⟩,⟨_,_,hx.dk⟩,⟨_,_,hx.bT⟩] [fN hx.bT,zh G T hT] (oo 0x514416421481885333131344441c1213212121717753331313212 []) λ n=>c4 (E [n.1 0,x.3,x.2,x.1,p.1] 0x14443333321110000) (@rfl ae x.bT) q (λ(g:ae)(D:Array aa)(u:Nw)=>c3 (E [sh,x.2,x.1,p.1,g] 0x1433332222210000) (c2 t j) (λ(k:Array aj)(l:Nat)h o(y:Nw)=>c2 (E [p.1] 0x10) (a k l h o)))
end
noncomputable def cTf(T:List aR)(w:cP)(h:Nat)(t:Tr)(m:Int)(s:TS)(p:Cp)(a:Int)(tb:aX)(kn sh sn:ae)(ek:Array aj)(pk:Nat)(eh:Array aj)(ph:Nat)(ys:List aa):Ct:=⟨[p.L,kn,sh,sn],λ d u f=>[Bw d u h,a=m,e9 T w ek pk eh ph ys s,(Tr.test m t s).2.seen.length<=900],TQ T w (Tr.test m t s) kn sh sn⟩
noncomputable def XK(T:List aR)(w:cP)(h:Nat)(t:Tr)(m:Int)(s:TS):Sp:=gb (.of fo gK) [.fr [.rq t.e,.it,.re,.re,.re],.dd,.dd,.ls] ju (k1 Jx) (cTf T w h t m s)
theorem E6{T:List aR}{w:cP}{r:Bool×TS}{tag:aR}{m:Int}{kn sh sn:ae}{K:Kv}(a:TQ T w (r.1,if r.1 then{r.2 with shown:=put r.2.shown tag m}else r.2) kn sh sn K):(r.1=ah->∀ek pk eh ph ys,e9 T w ek pk eh ph ys {r.2 with shown:=put r.2.shown tag m}->K 0 (.ok (.ret (.bool ah))) [(kn,.dd ek pk),(sh,.dd eh ph),(sn,.ls ys)] [])/\(r.1=af->∀ek pk eh ph ys,e9 T w ek pk eh ph ys r.2->K 1 (.ok (.ret (.bool af))) [(kn,.dd ek pk),(sh,.dd eh ph),(sn,.ls ys)] []):=by
 obtain⟨_|_,d⟩:=r;.exact⟨(λ h=>(by injection h)),a.2⟩
 .exact⟨a.1,(λ h=>(by injection h))⟩
theorem PB{r:Bool×TS}{tag:aR}{m:Int}(h:(r.1,if r.1 then{r.2 with shown:=put r.2.shown tag m}else r.2).2.seen.length<=900):r.2.seen.length<=900:=by obtain⟨_|_,a⟩:=r<;>exact h
theorem Bg:aC 1 (sB (bE (aP 21) 1) 0++aC 2 (aP 21))=aC 2 (aP 21):=by kernel_rfl
theorem Bw.bd{d u H:Nat}(h:Bw d u (H+1)):Bd (d+1) (u+3) (H+1):=⟨by have:=h.1;exact li 0x13843014201104111031113138430782011041311111 [d,H] rfl this,by have:=h.2;exact li 0x126ac4064201104131231031113126ac40fa2011041312311111 [u,H] rfl this⟩
section
variable(G:Good b){T:List aR}(hT:T.length<=1000)(hc:bN b fQ (hU cv))(PC:bZ cv)
include G hT hc PC
theorem z9{e:Ev}{K:Kv}{x:El}(hx:ej b k0 fQ x)(hk:x.kids=[]){m:Int}{p:Cp}{tb:aX}{kn sh sn:ae}{ek eh:Array aj}{pk ph:Nat}{ys:List aa}{s:TS}(l:e.dp+110<900)(o:e.un+3+110<9900)(d:x.tag∈T)(a:e9 T b.w ek pk eh ph ys s){i:Int}(hi:s.known x.tag=ab i)(f:TQ T b.w (if m<=i then(ah,{s with shown:=put s.shown x.tag m})else(af,s)) kn sh sn K):DS b e (gK p) (aC 2 (aP 21)) (jT p.L) ju (iK p x m tb kn sh sn ek pk eh ph ys) (k1 Jx) (l3 K):=by
 have g:∀H s,Ready b s (d' H ju (iK p x m tb kn sh sn ek pk eh ph ys))->∃ep,s.heap.get? x.bT=ab (lO (refsOf x.kids) ep):=λ H s R=>⟨_,R.jq _ _ hx.bT.1 hx.bT.2⟩;have j:e.un+(gK p).cUnits<9900:=cM (cZ (cu (by kernel_rfl)) _) (li 0x126ac406420313126ac406e20310311111 [e.2] rfl o);have q:(refsOf x.kids).isEmpty=ah:=by rw [hk];rfl
 have k:=DT.yj (pos:=aY w4) (pos':=aY (xE w4 1)) G j g (z5 (p:=p) (m:=m) G hx);rw [q]at k;have n:dC (refsOf x.kids) 0 []:=by rw [hk];exact dC.start _
 rw [<-a.ek]at hi;by_cases hm:m<=i;.rw [if_pos hm]at f;exact DS.text p7 (DS.asg rfl ((DE.yk ah k (z7 G hx ah a.k hi hm)).iG (z8 G hx ah l n a.h hT d (λ r t u v w=>f.1 rfl _ _ _ _ _ (a.put v w)) λ h=>(by injection h))))
 .rw [if_neg hm]at f;exact DS.text p7 (DS.asg rfl ((DE.yk ah k (z7 G hx af a.k hi hm)).iG (z8 G hx af l n a.h hT d (λ h=>(by injection h)) λ r=>f.2 rfl _ _ _ _ _ a)))
theorem TX{x:El}(hx:ej b k0 fQ x)(J:mz b.w x)(hk:x.kids=kids.map Tr.e)(g:x.tag∈T){m:Int}(F:bj b (wX b T (h+1) (.mk x kids)))(L:∀u∈kids,∀s,bj b (Bc T b.w h u m s))(s:TS):bj b (XK T b.w (h+1) (.mk x kids) m s):=ct λ p U tb kn sh sn ek pk eh ph ys e rest K j M a v d=>by
 cases M;have j:Bw e.dp e.un (h+1):=j;have d:TQ T b.w (Tr.test m (.mk x kids) s) kn sh sn K:=d;refine dg.own G rfl λ I=>dg.fn ?_;have k:=I 1 (kn,_) rfl;have w:=I 2 (sh,_) rfl;show DS b e (gK p) (aP 21) (jT p.L) ju (iK p x m tb kn sh sn ek pk eh ph ys) (k1 Jx) (l3 K);have y:ys.length<=900:=a.sn.len▸ai (o7 m _ s) v;by_cases h1:m<=(s.shown x.tag).getD (-1);.rw [lE (t:=.mk x kids) h1]at d;exact Jy G hx a.k a.h k w (a.eh▸h1) (d.1 rfl _ _ _ _ _ a)
 by_cases h2:Tr.worth (eV s.known m) (.mk x kids)<m;.rw [oZ (t:=.mk x kids) h1 h2]at d;exact Jz G hx a.k a.h k w F j.bd (a.eh▸h1) (a.ek▸h2) (d.2 rfl _ _ _ _ _ a)
 refine DS.cut 1 ju λ D z=>JA G hx a.k a.h k w F j.bd (a.eh▸h1) (a.ek▸h2) (z _ ?_);have l:∀H s,Ready b s (d' H ju (iK p x m tb kn sh sn ek pk eh ph ys))->∃ep,s.heap.get? x.bT=ab (lO (refsOf x.kids) ep):=λ H s R=>⟨_,R.jq _ _ hx.bT.1 hx.bT.2⟩;have n:=cM (cZ (cu (by kernel_rfl):(gK p).cUnits<=100) _) (by have:=j.2;exact li 0x126ac406420313126ac40fa2011041312311111 [e.2,h] rfl this);have f:=DT.yj (pos:=aY Be) (pos':=aY (xE Be 1)) G n l (JC (p:=p) (m:=m) (tb:=tb) (kn:=kn) (sh:=sh) (sn:=sn) (ek:=ek) (pk:=pk) (eh:=eh) (ph:=ph) (ys:=ys) G hx (e:=e));have A:e.dp+110<900:=by have:=j.1;exact li 0x1384306e20313138430782011041311111 [e.1,h] rfl this
 have B:e.un+3+110<9900:=by have:=j.2;lia
 cases kids with
  |nil=>rw [kX h1 h2]at d v;rw [show(refsOf x.kids).isEmpty=ah by rw [hk];rfl]at f;induction o:s.known x.tag with|some i=>rw [o]at d;exact DS.text p6 (DS.E5 af (DT.PA f (z6 G hx ah a.k k (by rw [a.ek,o];rfl))) (z9 G hT hc PC hx hk A B g a o d))|none=>rw [o]at d;refine DS.text p6 (DS.E5 ah (DT.PA f (z6 G hx af a.k k (by rw [a.ek,o];rfl))) ?_);exact DS.cut 1 ju λ D z=>JF G hx (EM G hx J hc PC) A B (ai y (by decide)) a.k hT g λ N O t P Q=>z _ (DS.text Bg (z9 G hT hc PC hx hk A B g (s:=⟨put s.known x.tag x.n,s.shown,s.seen++[x.tag]⟩) ⟨P,a.h,Q.trans (a.ek▸rfl),a.eh,a.sn.app (.cons .nil)⟩ (i:=x.n) (if_pos rfl) d))
  |cons t ts=>
   have S:(refsOf x.kids).isEmpty=af:=by rw [hk];rfl
   have q:=DT.yj (pos:=aY w4) (pos':=aY (xE w4 1)) G n l (z5 (p:=p) (m:=m) (tb:=tb) (kn:=kn) (sh:=sh) (sn:=sn) (ek:=ek) (pk:=pk) (eh:=eh) (ph:=ph) (ys:=ys) G hx (e:=e));rw [S]at f q;rw [jS h1 h2]at d v;have C:=PB (r:=Tr.tests m x.most (t::ts) (!x.most) s) (tag:=x.tag) (m:=m) v;have d:=E6 d;exact DS.text p6 (DS.E5 af (DT.TR f) (DS.text p7 (DS.asg rfl ((DE.yk af q (JD G hx rfl)).iG (JE G hx rfl (Pz G hx rfl t ts L s) j.i4 (jQ hk▸dC.start _) a C hT g d.1 d.2)))))
end
section
variable(G:Good b){T:List aR}(hT:T.length<=1000)(hc:bN b fQ (hU cv))(PC:bZ cv)
include G hT hc PC
theorem TY(H:gB b k0 fQ h t):(∀y∈t.tags,y∈T)->∀s,bj b (Bc T b.w h t m s):=by induction H with|@mk h x j hx v hk w B C=>intro o s;exact ct λ O tb kn sh sn ek pk eh ph ys e rest K z D F I q=>by have J:=z.d;have r:=o _ (by rw [Tr.tags];exact .head _);have L:=λ u A=>C u A λ y M=>o y (by rw [Tr.tags];exact .tail _ (iH A M));have q:=q;exact dg.run G [] [⟨_,TX G hT hc PC hx v w r (EY G (.mk hx v hk w B)) L s⟩] (oo 0x3214143215231212121212112 [(oo 0x32142 [])]) λ n=>c9 (jf J:e.dp+0<1000) (E [n.1 0,kn,sh,sn,(Tr.mk x j).x.1] 0x1000000000043210) (@rfl aT (gK (Cp.mk (n.1 0) (n.1 0) 0 0 0 0 0))) z D F I (λ(k:(Tr.test m (Tr.mk x j) s).fst=ah)(a:Array aj)(d:Nat)(f:Array aj)(g:Nat)i l(N:Nw)=>q.1 k a d f g i l) (λ k a d f g i l(N:Nw)=>q.2 k a d f g i l)
end
set_option backward.match.sparseCases false
noncomputable def p8:aR:=⟨#[106,111,105,110]⟩
noncomputable def E7:aR:=⟨#[112,108,97,99,101,115]⟩
noncomputable def z_:aR:=⟨#[112,108,97,99,101]⟩
noncomputable def ZR:aR:=⟨#[95,108,97,119,95,119,111,114,100,115,46,60,108,111,99,97,108,115,62,46]⟩
noncomputable def qM(p:Cp):fJ:=nu 15 ZR 98 97 p.L [(rE,p.c0)]
noncomputable def iA(p:Cp):aT:=.func (aP 15) (qM p)
noncomputable def Ru:bO:=sE (bE (aP 15) 1) 0
noncomputable def PD:bO:=xE Ru 1
noncomputable def ZS:bO:=xE PD 1
noncomputable def p9(p:Cp):aT:=.compLoop ZS 0 (.ref p.it) (.ref p.acc) (lQ ZS ZR 97 p.L p.F [(rE,p.c0)])
theorem Bh(f:α->aR){M:qx}{A:dx}{E:aa->aD->Prop}:∀(l:List α){s:aD}{Q:List aa->aD->Prop},(∀a∈l,(f a).length<=1000)->(∀d tk,bl d (l.map f)->Q d {s with toks:=tk})->bV M A (l.mapM λ a=>mkStr (f a)) Q E s:=by intro l;induction l with|nil=>intro s Q _ h;rw [List.mapM_nil];exact bc (h [] s.toks .nil)|cons a l g=>intro s Q hl h;rw [List.mapM_cons];refine aw (Ln ?_ (ai (hl a (.head _)) (by decide)));refine aw (g (λ b i=>hl b (.tail _ i)) λ d tk j=>?_);exact bc (h _ tk (.cons j))
noncomputable def E8:aR:=⟨#[79,80,84,73,77,73,90,69,68,32,78,69,87,76,79,67,65,76,83,32,86,65,82,65,82,71,83,32,86,65,82,75,69,89,87,79,82,68,83,32,78,69,83,84,69,68,32,71,69,78,69,82,65,84,79,82,32,78,79,70,82,69,69,32,67,79,82,79,85,84,73,78,69,32,73,84,69,82,65,66,76,69,95,67,79,82,79,85,84,73,78,69,32,65,83,89,78,67,95,71,69,78,69,82,65,84,79,82]⟩
noncomputable def nmW:List aR:=(Zb E8 (E8.length+1)).map λ p=>vJ E8 p.1 p.2
theorem PE:nmW=(eI 10).map pY:=by decide+kernel
noncomputable def PF{b:Bs}:Ok b:=⟨gD "str.split" [.st] [] λ x f=>⟨[],λ f f f K=>x=E8/\∀sl a,bl a ((eI 10).map pY)->K 0 (.ok (.ret (.ref sl))) [] [(sl,lO a 0)]⟩,bF λ x t=>.mk λ A s rest K R h i Rd k=>by obtain⟨rfl,g⟩:=h;refine bL (b:=cK.«str.split») (by decide+kernel) (aL (by kernel_rfl)) ?_;rw [PySem.split_space_tree];refine aw (lM ?_);rw [if_neg (by decide+kernel)];refine aw (Bh (λ p:Nat×Nat=>vJ E8 p.1 p.2) _ (by decide+kernel) λ a tk d=>?_);have d:bl a ((eI 10).map pY):=PE▸d;exact aw (ia (bc (k 0 _ _ _ _ (g s.heap.objs.size a d) (Trans.new (s:=s) (o:=lO a 0) rfl tk))) (by show a.toArray.size<=lN;rw [b6,d.len];decide))⟩
theorem E9(h:bl zs ws):bE ws i=ab w->∃t,bE zs i=ab (.str w t):=by induction h generalizing i with|nil=>intro e;injection e|@cons x t vs ts h a=>intro e;induction i with|zero=>exact⟨t,congrArg ab (congrArg (cW · t) (bw e))⟩|succ i=>exact a e
theorem PG{p:Nat}(h:10<=p)(a:p<=40):mL (.ofNat ((2:Int).toNat^(p:Int).toNat))=pY p:=by
 have:∀p,p<41->10<=p->(yV kN wO ((2^p:Nat):Int)).isNone=ah:=by decide+kernel
 have:=Option.isNone_iff_eq_none.mp (this p (lg a) h);show mL ((2^p:Nat):Int)=ZO _ (yV kN wO ((2^p:Nat):Int));rw [this];rfl
noncomputable def o8(ps:List Nat):List Int:=ps.map bp
noncomputable def PH:Bool->List Kd|ah=>[.dc [],.it,.ls]|af=>[.dc [z_],.it,.ls]
noncomputable def E_:List Kd:=[.dc [z_],.ls]
noncomputable def ZT(l0 c0:ae)(xs:List aa)(ps:List Nat)(p:Cp)(l:ae)(i:Int)(ys:List aa):Ct:=⟨[p.L,p.it,p.acc],λ d u f=>[p.c0=c0,l=l0,tJ xs i (o8 ps),ys.length+ps.length<=50],λ K=>∀v a,bl a (ps.map pY)->K 0 (.ok .next) [(p.L,.fr [v]),(p.acc,.ls (ys++a))] []⟩
noncomputable def XM(l0 c0:ae)(xs:List aa)(ps:List Nat)(p:Cp)(v:aa):=ZT l0 c0 xs ps p
noncomputable def Mx(l0 c0:ae)(xs:List aa)(ps:List Nat):Sp:=gb (.of fo p9) [.fr [],.it,.ls] (PH ah) (k1 E_) (ZT l0 c0 xs ps)
noncomputable def My(l0 c0:ae)(xs:List aa)(ps:List Nat):Sp:=gb (.of fo p9) [.fr [.an],.it,.ls] (PH af) (k1 E_) (XM l0 c0 xs ps)
section
variable{b:Bs}(G:Good b){l0 c0 nm:ae}{xs ws:List aa}{ep ew:Nat}(hl:bN b l0 (lO xs ep))(hc:bN b c0 (iF (ab (.ref nm))))(hn:bN b nm (lO ws ew))(hw:bl ws ((eI 10).map pY))
include G hl hc hn hw
theorem E'{e:Ev}{K:Kv}{k:Nat}{ps:List Nat}{p:Cp}(u:k<=40)(D:bj b (My l0 c0 xs ps))(f:Bool){r:List aa}(F:mv f r)(L:p.c0=c0)(M:tJ xs i (o8 (k::ps)))(x:ys.length+(k::ps).length<=50)(N:∀v a,bl a ((k::ps).map pY)->K 0 (.ok .next) [(p.L,.fr [v]),(p.acc,.ls (ys++a))] []):dg b e (p9 p) (PH f) [(p.L,.fr r),(p.it,.it l0 i),(p.acc,.ls ys)] (k1 E_) K:=by
 have g:∀v t a,bl a (ps.map pY)->K 0 (.ok .next) [(p.L,.fr [v]),(p.acc,.ls (snoc ys (.str (pY k) t)++a))] []:=λ v t a y=>by rw [fu];exact N v _ (.cons y)
 have m:ys.length<=1048576:=ai (ai (bX _ _) x) (by decide);obtain⟨H,⟨I,J⟩,o⟩:=M;subst L;have z:ws.length<=1048576:=by rw [hw.len];decide
 by_cases hk:k<10;.have d:(k:Int)<10:=e_.mpr hk;obtain⟨s,j⟩:=E9 (i:=k) (w:=pY k) hw (by rw [dH];simp [hk]);have j:bE ws (k:Int).toNat=ab (.str (pY k) s):=j;have A:(0:Int)<=k:=aS k;induction f<;>rcases r with _|⟨v,_|⟨_,_⟩⟩<;>induction F;all_goals exact dg.run G [⟨_,_,hl⟩,⟨_,_,hc⟩,⟨_,_,hn⟩] [fc hl (.int k I),tC ah,e8 hn (.str (pY k) s),dP,⟨_,D⟩] (oo 0x21311234173216611157177745114142422134141 []) λ n=>c4 (E [p.3] 0x1000) (@rfl ae l0) (c2 H J) (λ(O:Nw)=>c3 (E [p.1] 0x1000) d (λ(P:Nw)=>c4 (E [nm,p.1,p.5] 0x1210000) (@rfl ae nm) (c3 A z j) (λ(Q:Nw)=>c3 (E [p.4] 0x100) m (λ(B:Nat)(R:Nw)=>c7 (E [p.1,p.3,p.4] 0x1210) (@rfl aT (p9 p)) (@rfl ae p.5) (@rfl ae l0) o (iz _ x:(snoc ys (cW (pY k) s)).length+ps.length<=50) (λ(l:aa)(a:List aa)(h:bl a (cF pY ps))(S:Nw)=>g l s a h)))))
 .have d:¬(k:Int)<10:=λ h=>hk (e_.mp h);have C:10<=k:=Nat.le_of_not_lt hk;have T:(1:Int)<=k:=by lia
  have U:(k:Int)<=64:=by exact li 0x4020354028203111 [k] rfl u
  have V:(0:Int)<=.ofNat ((2:Int).toNat^(k:Int).toNat):=aS _;have X:(mL (.ofNat ((2:Int).toNat^(k:Int).toNat))).length<=1000:=ai (hex_len (EO (lg u))) (by decide);have Y:∀v t a,bl a (ps.map pY)->K 0 (.ok .next) [(p.L,.fr [v]),(p.acc,.ls (snoc ys (.str (mL (.ofNat ((2:Int).toNat^(k:Int).toNat))) t)++a))] []:=λ v t a y=>by rw [PG C u];exact g v t a y
  induction f<;>rcases r with _|⟨v,_|⟨_,_⟩⟩<;>induction F;all_goals exact dg.run G [⟨_,_,hl⟩,⟨_,_,hc⟩,⟨_,_,hn⟩] [fc hl (.int k I),tC af,Sl,O9,dP,⟨_,D⟩] (oo 0x213112341832176111611151411114142422134141 []) λ n=>c4 (E [p.3] 0x1000) (@rfl ae l0) (c2 H J) (λ(O:Nw)=>c3 (E [p.1] 0x1000) d (λ(P:Nw)=>c3 (E [p.1] 0x10) (c4 ((by decide:(2:Int)<=2)) ((by decide:(2:Int)<=64)) T U) (λ(t:aX)(Q:Nw)=>c2 (c2 V X) (λ(q:aX)(R:Nw)=>c3 (E [p.4] 0x100) m (λ(B:Nat)(S:Nw)=>c7 (E [p.1,p.3,p.4] 0x1210) (@rfl aT (p9 p)) (@rfl ae p.5) (@rfl ae l0) o (iz _ x:(snoc ys (cW (mL (bp (iZ 2^(↑k:Int).toNat))) q)).length+ps.length<=50) (λ(l:aa)(a:List aa)(h:bl a (cF pY ps))(Z:Nw)=>Y l q a h))))))
theorem PI:∀ps:List Nat,(∀k∈ps,k<=40)->bj b (My l0 c0 xs ps):=by intro ps;induction ps with|nil=>intro _;exact ct λ p v l i ys e rest K g hi a j d=>by cases hi;exact dg.run G [⟨_,_,hl⟩] [fN hl] (oo 0x3231822134141 []) λ n=>c4 (E [p.3] 0x1000) (@rfl ae l0) a (λ(f:ae)(D:Array aa)(q:Nw)=>c2 (E [f] 0x10) (aA ys▸d v [] .nil))|cons k ps m=>intro h;exact ct λ p v l i ys e rest K g hi a j d=>by induction hi;exact E' G hl hc hn hw (h k (.head _)) (m λ k o=>h k (.tail _ o)) af trivial g a j d
theorem PJ(k:Nat)(ps:List Nat)(h:∀j∈k::ps,j<=40):bj b (Mx l0 c0 xs (k::ps)):=ct λ p l i ys e rest K a hi d f g=>by induction hi;exact E' G hl hc hn hw (h k (.head _)) (PI G hl hc hn hw ps λ k m=>h k (.tail _ m)) ah trivial a d f g
end
section
variable{b:Bs}{e:Ev}{c:aT}{ks:List Kd}{vs:List eK}{ks':Nat->List Kd}{K:Kv}{env:fJ}
theorem DT.TZ(G:Good b)(q:e.un+c.cUnits<9900)(y:∀H s,Ready b s (d' H kj ot)->∃ep,s.heap.get? bT=ab (lO xs ep))(hl:DE b e c l env ks vs (k1 kj) (eM (.ref bT) ot)):DT b e c (.Compare l [.NotEq] [.List [] pos'] pos) env ks vs (k1 kj) (eM (.bool !xs.isEmpty) ot):=λ H s0 C0 s a=>by refine my rfl (hl.then a λ h i k=>?_);have z:Ready b i []:=k.R.sub (cH _);refine aQ (DE.nil (c:=c) (env:=env) (pos:=pos') G (λ f r vs tl=>∃a,r=.ok (.ret (.ref a))/\vs=[(a,.ls [])]/\tl=[]) (λ a=>⟨a,rfl,rfl,rfl⟩) h i [] i (At.start z)) (λ v n o=>o.out λ j f f A g t=>?_) λ x n o=>o.out λ j f f A g t=>g.elim λ m g=>(by injection g.1);obtain⟨m,B,rfl,rfl⟩:=g;cases B;have T:Trans i n (d' h kj ot) _:=Trans.eA (C:=[]) k.R t.T;have p:=k.to T;obtain⟨ep,d⟩:=y h n (p.R.sub (dQ _ _));have u:=p.sub (dQ _ (d' h kj ot));have w:=p.R.own (m,lO [] _) (.head _);induction xs with|nil=>exact uF (items:=#[]) (items2:=#[]) (e:=λ f=>ah) ⟨_,d,rfl,_,rfl⟩ ⟨_,w,rfl,_,rfl⟩ rfl q (λ j D=>absurd D (cQ _)) _ _ _ _ ⟨_,rfl,u.Mv⟩|cons x xs=>exact Wi ⟨_,d,rfl,_,rfl⟩ ⟨_,w,rfl,_,rfl⟩ (by simp) q _ _ _ _ ⟨_,rfl,u.Mv⟩
theorem DE.Fb{t x y:bO}{p:Aw}(v:Bool){d:List Kd}{f:List eK}(g:DT b e c t env ks vs (k1 d) (eM (.bool v) f))(h:DE b e c (if v then x else y) env d f ks' K):DE b e c (.IfExp t x y p) env ks vs ks' K:=λ H s0 C0 s a=>by
 show a_ _ _ _ (eP t env (dh t env)>>=λ t=>if t=ah then dh x env else dh y env) _ _ _;refine au (DT.mN g a λ i j k=>?_);have q:(if v=ah then dh x env else dh y env)=dh (if v=ah then x else y) env:=by induction v<;>rfl
 rw [q];exact h i s0 C0 j k
theorem DS.JG{o x:bO}{d pos l:Aw}{rest:List ea}{g:aR}{kk:Nat->List Kd}{pl:nh Bool}(p:dh (.Call (.Attribute o p8 d) [x] [] pos) env=(dh o env>>=λ m=>eR d.atName>>=λ n=>gh [m] (getMethod m p8 pl)>>=λ r=>Lo pos r.1 r.2 [(af,dh x env)] []))(q:DE b e c o env ks vs (k1 ks) (iS λ n v f=>(∃t,v=.str g t)/\f=vs))(u:DE b e c x env ks vs kk (iS λ j v h=>∀t,dg b (e.in c) (.call (.builtin "str.join") ⟨[.str g t,v],[]⟩) (kk j) h ks' λ j r vs tl=>∃v,r=.ok (.ret v)/\K j (.ok (.ret v)) vs tl)):DS b e c (.Return (ab (.Call (.Attribute o p8 d) [x] [] pos)) l::rest) env ks vs ks' K:=λ H s0 C0 s a=>by rw [gP];refine au ?_;show a_ _ _ _ (eR l>>=λ n=>(dh (.Call (.Attribute o p8 d) [x] [] pos) env>>=λ v=>pure (nO v))) _ _ _;refine au (bU (bI ?_));rw [p];refine au (au (q.val a λ j v f F I i w=>?_));obtain⟨⟨t,rfl⟩,rfl⟩:=i;refine au (bU (bI (au (dz (bU ?_)))));rw [show p8=("join":aR)by decide];refine GM.join (sx (u.val w λ j v f y z i A=>bU (yT (dj (i t y s0 C0 z A) λ r J B=>B.out λ j vs tl C k D=>?_))));obtain⟨v,rfl,k⟩:=k;exact bG (bG ⟨j,vs,tl,C,k,D⟩)
end
noncomputable def PK:bO:=xE PD 0
noncomputable def yl:List aR:=[E7]
noncomputable def gp:List Nat->aR|[]=>nK [mL 0]|p::ps=>nK ((p::ps).map pY)
theorem Fd:aC 1 (aP 15)=.Return (ab (.Call (.Attribute (xE (xE Ru 0) 0) p8 (aY (xE Ru 0))) [.IfExp (.Compare (xE PK 0) [.NotEq] [.List [] (aY (xE PK 1))] (aY PK)) (xE PD 1) (xE PD 2) (aY PD)] [] (aY Ru))) (kP (bE (aP 15) 1))::[]:=by kernel_rfl
section
variable{b:Bs}{e:Ev}{c:aT}{ks:List Kd}{vs:List eK}{ks':Nat->List Kd}{K:Kv}{env:fJ}{ss:List ea}
theorem DS.T3(n:Nat){kk:Nat->List Kd}(G:Good b)(h:DS b e c (ss.take n) env ks vs kk λ j r vs tl=>r=.ok .next/\∀d,Good d->Ext b d->(∀p∈tl,iN d p.1 p.2)->DS d e c (ss.drop n) env (kk j) vs ks' K):DS b e c ss env ks vs ks' K:=λ H s0 C0 s a=>by rw [<-eD n ss,gX];refine au (aQ (h H s0 C0 s a) (λ f o k=>k.out λ j m tl q g i=>?_) λ x o k=>k.out λ j m tl q g i=>(by injection g.1));obtain⟨t,g⟩:=g;cases(cA t:f=.next);obtain⟨d,u,X,w,y⟩:=rebase G i.R;have z:=g d u X (λ p hp=>⟨y p hp,G.oH i.R (aq _ hp)⟩) q s0 C0 o ⟨w,(i.sub (a9 _ _)).T⟩;rw [X.prog,X.w]at z;exact aQ z (λ v s h=>h.ext X) λ x s h=>h.ext X
theorem DS.all(G:Good b)(h:∀d H,Good d->Ext b d->(∀p∈d' H ks vs,iN d p.1 p.2)->DS d e c ss env [] [] ks' K):DS b e c ss env ks vs ks' K:=λ H s0 C0 s a=>by obtain⟨d,g,X,i,j⟩:=rebase (cs:=[]) G a.R;have z:=h d H g X (λ p hp=>⟨j p hp,G.oH a.R hp⟩) (λ f=>⟨λ f=>0,λ f=>0,0⟩) s0 C0 s ⟨i,(a.sub (cH _)).T⟩;rw [X.prog,X.w]at z;exact aQ z (λ v s h=>h.ext X) λ x s h=>h.ext X
end
section
variable{b:Bs}(G:Good b){e:Ev}{K:Kv}{p:Cp}{l nm:ae}{xs ws zs:List aa}{ep ew:Nat}{h:Ht}
include G
theorem JH{c0:Option aa}(a:∀nm ws,bl ws ((eI 10).map pY)->K 0 (.ok .next) [(p.L,.fr [.ref l]),(p.c0,.cl (ab (.ref nm)))] [(nm,lO ws 0)]):DS b e (iA p) (cj 1 (aP 15)) (qM p) [.fr yl,.cl] [(p.L,.fr [.ref l]),(p.c0,.cl c0)] (k1 [.fr yl,.cl]) K:=DS.run G [] [PF] (oo 0x32141241131 []) λ n=>c2 (@rfl aR (fb (bY [79,80,84,73,77,73,90,69,68,32,78,69,87,76,79,67,65,76,83,32,86,65,82,65,82,71,83,32,86,65,82,75,69,89,87,79,82,68,83,32,78,69,83,84,69,68,32,71,69,78,69,82,65,84,79,82,32,78,79,70,82,69,69,32,67,79,82,79,85,84,73,78,69,32,73,84,69,82,65,66,76,69,95,67,79,82,79,85,84,73,78,69,32,65,83,89,78,67,95,71,69,78,69,82,65,84,79,82]))) (λ(sl:ae)(zs:List aa)(h:bl zs (cF pY (eI 10)))(d:Nw)=>c2 (E [p.5] 0x100) (a sl zs h))
theorem JI(a:bN b p.L (Hc yl [.ref l] h)):DE b e (iA p) (xE PK 0) (qM p) [] [] (k1 []) (eM (.ref l) []):=DE.run G [⟨_,_,a⟩] [] (oo 0x113 []) λ n=>c2 (E [p.1] 0x10) ((iG (.ref l) []))
theorem JJ:DE b e (iA p) (xE (xE Ru 0) 0) (qM p) [] [] (k1 []) (iS λ d v a=>(∃t,v=.str ⟨#[44,32]⟩ t)/\a=[]):=DE.run G [] [] (oo 0x11 []) λ n=>(⟨_,rfl,rfl,⟨n.tk 0,rfl⟩,rfl⟩:iS (λ d v a=>(∃t,v=.str ⟨#[44,32]⟩ t)/\a=[]) 0 (.ok (.ret (.str ⟨#[44,32]⟩ (n.tk 0)))) [] [])
theorem JK(g:bN b p.L (Hc yl [.ref l] h))(hl:bN b l (lO xs ep))(i:bj b (Mx l p.c0 xs (k::ps)))(j:tJ xs 0 (o8 (k::ps)))(hn:(k::ps).length<=45)(m:∀f zs,bl zs ((k::ps).map pY)->D 0 (.ref f) [(f,.ls zs)]):DE b e (iA p) (xE PD 1) (qM p) [] [] (k1 [.ls]) (iS D):=by have a:([]:List aa).length+(k::ps).length<=50:=ai (cR (cN _)) (ai hn (by decide));exact DE.run G [⟨_,_,g⟩,⟨_,_,hl⟩] [⟨_,i⟩] (oo 0x221122231413622151553 []) λ n=>c7 (E [n.1 2,n.1 0,n.1 1,l,p.1] 0x1433311210) (@rfl aT (p9 (Cp.mk (n.1 2) p.1 (n.1 0) (n.1 1) p.5 0 0))) (@rfl ae p.5) (@rfl ae l) j a (λ(v:aa)(zs:List aa)(d:bl zs (cF pY (k::ps)))(o:Nw)=>c2 (E [n.1 2] 0x1000) ((⟨_,rfl,rfl,m (n.ad 1) zs d⟩:iS D 0 (.ok (.ret (.ref (n.ad 1)))) [(n.ad 1,.ls zs)] [])))
theorem JL(d:∀a t,D 0 (.ref a) [(a,.ls [.str ⟨#[48,120,48]⟩ t])]):DE b e (iA p) (xE PD 2) (qM p) [] [] (k1 [.ls]) (iS D):=DE.run G [] [] (oo 0x121 []) λ n=>(⟨_,rfl,rfl,d (n.ad 0) (n.tk 0)⟩:iS D 0 (.ok (.ret (.ref (n.ad 0)))) [(n.ad 0,.ls [.str ⟨#[48,120,48]⟩ (n.tk 0)])] [])
theorem JM{a:ae}{t:aX}{r:aR}(f:nF ⟨#[44,32]⟩ zs r)(g:∀t,K 0 (.ok (.ret (.str r t))) [] []):dg b e (.call (.builtin "str.join") ⟨[.str ⟨#[44,32]⟩ t,.ref a],[]⟩) [.ls] [(a,.ls zs)] (k1 []) K:=dg.run G [] [wy r] (oo 0x1112131 []) λ n=>c3 (E [a] 0x10) f (λ(d:aX)(i:Nw)=>g d)
end
noncomputable def XN(ps:List Nat)(p:Cp)(c0:Option aa):Ct:=⟨[p.L,p.c0],λ d u a=>[d+40<900,u+20<9900],λ K=>∀t,K 0 (.ok (.ret (.str (gp ps) t))) [] []⟩
noncomputable def T4(l:ae)(ps:List Nat):Sp:=gb (.of fo iA) [.fr [.rq l],.cl] [.fr yl,.cl] (k1 []) (XN ps)
noncomputable def XO(ps:List Nat):Ct:=⟨[],λ d u a=>[d+50<900,u+30<9900],λ K=>∀t,K 0 (.ok (.ret (.str (gp ps) t))) [] []⟩
noncomputable def XP(l:ae)(ps:List Nat):Sp:=gb (.call 98 [.rq l]) [] [] (k1 []) (XO ps)
section
variable(G:Good b)(hl:bN b l (lO xs ep))(hi:aV xs (o8 ps))(hp:∀p∈ps,p<=40)(hn:ps.length<=45)
include G hl hi hp hn
theorem PL:bj b (T4 l ps):=ct λ p c0 e rest K T D F=>by
 refine dg.fn (DS.T3 (kk:=k1 [.fr yl,.cl]) 1 G (JH G λ nm ws I=>⟨rfl,λ U J L n=>DS.all J λ f H d A g=>DS.text Fd ?_⟩));have o:bN f nm (lO ws 0):=(n _ (.head _)).1.ext A;have B:bN f p.L (Hc yl [.ref l] (H 0)):=(g _ (.head _)).1;have M:bN f p.c0 (iF (ab (.ref nm))):=(g _ (.tail _ (.head _))).1;have a:=(hl.ext L).ext A;have u:e.un+(iA p).cUnits<9900:=by have:(iA p).cUnits<=5:=cu (by kernel_rfl);exact li 0x126ac40431305104111126ac40142031111 [e.2,(iA p).cUnits] rfl D this
 have N:tJ xs 0 (o8 ps):=lu (ys:=[]) hi;refine DS.JG (kk:=k1 [.ls]) (pl:=do return(<-importBound (xE (xE Ru 0) 0) (qM p)).getD ah) (by kernel_rfl) (JJ d) ?_;have C:DT f e (iA p) (.Compare (xE PK 0) [.NotEq] [.List [] (aY (xE PK 1))] (aY PK)) (qM p) [] [] (k1 []) (eM (.bool !xs.isEmpty) []):=DT.TZ d u (λ H s R=>⟨_,R.jq _ _ a.1 a.2⟩) (JI d B);have i:∀{t zs w m},bl zs w->w.length<=50->(∀x∈w,x.length<=30)->nK w=gp ps->dg f (e.in (iA p)) (.call (.builtin "str.join") ⟨[.str ⟨#[44,32]⟩ t,.ref m],[]⟩) [.ls] [(m,.ls zs)] (k1 []) λ j r vs tl=>∃v,r=.ok (.ret v)/\l3 K j (.ok (.ret v)) vs tl:=λ y O P Q=>JM d (sA y O P) λ t=>⟨_,rfl,Q▸F t⟩
 induction ps with
  |nil=>induction xs with|cons _ _=>exact hi.elim|nil=>exact DE.Fb af C (JL d λ m t' t=>i (w:=[mL 0]) (show bl [.str (mL 0) t'] _ from .cons .nil) (by decide) (λ x z=>by rw [ay.mp z];exact ai (hex_len (by decide)) (by decide)) rfl)
  |cons k ps=>induction xs with|nil=>exact hi.elim|cons x xs=>exact DE.Fb ah C (JK d B a (PJ d a M o I k ps hp) N hn λ m zs y t=>i y (by rw [aM];exact li 0x32203302d203111 [(k::ps).length] rfl hn) (λ x z=>by obtain⟨q,S,rfl⟩:=ba.mp z;exact EN q (lg (hp q S))) rfl)
theorem Mz:bj b (XP l ps):=ct λ e rest K a d f=>by exact dg.run G [] [⟨_,PL G hl hi hp hn⟩] (oo 0x111231324112 []) λ n=>c6 (jf a:e.dp+0<1000) (E [n.1 0,n.1 1,l] 0x100210) (@rfl aT (iA (Cp.mk (n.1 0) (n.1 0) 0 0 (n.1 1) 0 0))) (fj a:e.dp+0+40<900) ((by exact li 0x126ac401420003113126ac401e2031111 [e.2] rfl d:e.un+0+20<9900)) (λ(t:aX)(g:Nw)=>f t)
end
theorem JN(ns:List Int):∀k,k<=ns.length->preSum (λ i=>ns.getD i 0) k=(ns.take k).sum:=by intro k;induction k with|zero=>intro _;exact rfl|succ k a=>intro h;show preSum _ k+ns.getD k 0=_;rw [a (Hq h),i8,cL,aJ h];exact((Lu ..).trans (congrArg _ (List.sum_singleton ..))).symm
theorem PM{vs:List aa}{ns:List Int}{i:Nat}:aV vs ns->vs[i]?=ab v->∃t,v=.int (ns.getD i 0) t:=by induction vs generalizing ns i with|nil=>intro _ e;injection e|cons x vs a=>intro h e;induction ns with|nil=>exact h.elim|cons m ns=>induction i with|zero=>cases e;exact h.1|succ i=>exact a (i:=i) h.2 e
noncomputable def Fe{b:Bs}(ns:List Int):Ok b:=⟨gD "sum.loop" [.re,.re,.it,.it] [.it,.ls,.ls] λ I S j q r u l i m c xs d=>⟨[I,S,l],λ x x x K=>((j=0/\q=0/\r=0/\u=0/\i=0/\∃t,m=[.int 0 t])/\aV xs ns)/\∀t,K 0 (.ok (.ret (.int ns.sum t))) [(l,lO xs d)] []⟩,bF λ I S j q r u l i m c xs d=>.mk λ A s rest K R h F Rd k=>by
 obtain⟨⟨⟨rfl,rfl,rfl,rfl,rfl,t,rfl⟩,y⟩,H⟩:=h;have J:=Rd.own (I,nU l 0) (.head _);have os:=Rd.own (S,lO [.int 0 t] c) (.tail _ (.head _));have z:=Rd.own (l,lO xs d) (.tail _ (.tail _ (.head _)));have B:¬I=l:=Rd.ne (.cons_cons _ (.cons _ (.cons_cons _ (cH _))));have L:¬I=S:=Rd.ne (.cons_cons _ (.cons_cons _ (cH _)));have C:¬S=l:=Rd.ne (.cons _ (.cons_cons _ (.cons_cons _ (cH _))));refine codeAny_sum_loopG (n:=xs.toArray.size) (Walks.list (w:=b.w) (A:=A.in1) F I l (Ne.symm B) xs.toArray) (λ i=>ns.getD i 0) (λ i v M=>PM y (by rwa [eC]at M)) S (λ f=>?_) _ 0 s t c 0 (.inl rfl) rfl (bJ _) ⟨⟨_,J,rfl,rfl⟩,⟨_,z,rfl,_,rfl⟩⟩ os λ N tk t' O=>?_
 .rcases aF.mp f with e|f;.exact L e.symm
  .exact C (ay.mp f)
 .rw [b6,y.len,JN ns _ (bt _),fY];have a:∀b o,b≠I->b≠S->s.heap.get? b=ab o->N.get? b=ab o:=λ b o c d e=>O b o (λ f=>c (ay.mp f)) d e;exact k 0 _ _ _ _ (H t') ⟨λ b o e D=>a b o (λ e=>D (e▸.head _)) (λ e=>D (e▸.tail _ (.head _))) e,λ p g=>by rw [ay.mp g];exact a l _ (Ne.symm B) (Ne.symm C) z,bM.mpr ⟨ax,.nil⟩,λ p g=>.inl (by rw [ay.mp g];exact .tail _ (.tail _ (.head _))),⟨rfl,rfl⟩⟩⟩
theorem w5{xs:List aa}{a hi st:Option Int}{v:aa}(h:v∈fe xs a hi st):v∈xs:=by unfold fe vG at h;simp only [List.mem_filterMap]at h;obtain⟨i,_,hi⟩:=h;have:=xB hi;simpa using this
theorem mP{xs:List aa}{a hi st:Option Int}:(fe xs a hi st).length<=xs.length:=by have:=RG xs.toArray a hi st;unfold fe;simpa using this
theorem JO:∀{xs:List aa},(∀v∈xs,∃n t,v=.int n t)->∃ns,aV xs ns:=by intro xs;induction xs with|nil=>intro _;exact⟨[],trivial⟩|cons v xs a=>intro h;obtain⟨n,t,e⟩:=h v (.head _);obtain⟨ns,c⟩:=a λ v d=>h v (.tail _ d);exact⟨n::ns,⟨t,e⟩,c⟩
theorem aV.bE{xs:List aa}{ns:List Int}{k:Nat}:aV xs ns->Lean.bE ns k=ab n->∃t,Lean.bE xs k=ab (.int n t):=by
 induction xs generalizing ns k with
  |nil=>intro h e;induction ns with|nil=>injection e|cons _ _=>exact h.elim
  |cons x xs a=>intro h e;induction ns with|nil=>exact h.elim|cons m ns=>induction k with|zero=>cases e;exact h.1.elim λ t h=>⟨t,congrArg ab h⟩|succ k=>exact a h.2 e
noncomputable def q0:aR:=⟨#[108,97,119,46,60,108,111,99,97,108,115,62,46]⟩
noncomputable def sF:aR:=⟨#[115,99,114,105,112,116]⟩
noncomputable def Ff:aR:=⟨#[116,97,112,101]⟩
noncomputable def Fg:aR:=⟨#[116,97,103,115]⟩
noncomputable def vg:aR:=⟨#[97,103,97,105,110]⟩
noncomputable def ym:aR:=⟨#[98,97,115,101]⟩
noncomputable def Fh:aR:=⟨#[99,101,108,108]⟩
structure LA where
 L:ae
 cs:ae
 cc:ae
 ct:ae
 cg:ae
 ce:ae
 ca:ae
 cb:ae
 ck:ae
noncomputable def LA.en(g:LA):fJ:=nu 23 q0 144 143 g.L [(lG,g.ck),(ym,g.cb),(vg,g.ca),(i',g.ce),(Fg,g.cg),(Ff,g.ct),(oV,g.cc),(sF,g.cs)]
noncomputable def bK(g:LA):aT:=.func (aP 23) g.en
noncomputable def aE:bO:=sE (bE (aP 23) 0) 0
noncomputable def Fj(cs:ae)(p:Cp):aT:=.compLoop aE 0 (.ref p.it) (.ref p.acc) (lQ aE q0 143 p.L p.F [(sF,cs)])
noncomputable def ZU:bO:=xE (xE (wb aE) 1) 1
noncomputable def codeIn(p:Cp):aT:=.compLoop ZU 0 (.ref p.it) (.ref p.acc) (x1 ZU q0 143 p.L p.F)
theorem T5:tN aE 0:=⟨by kernel_rfl,by kernel_rfl,by kernel_rfl,xE (kD aE 0).target 0::[xE (kD aE 0).target 1],0,aY (kD aE 0).target,by kernel_rfl⟩
noncomputable def m6(x:Int):Int:=BS x 1000000
noncomputable def T6:Ok b:=Rh "int.__mod__" (λ x y=>y=1000000) BS (by decide+kernel) (aL (by kernel_rfl)) λ x y t u h=>ow x t y u (by subst h;decide)
noncomputable def PN:Bool->List Kd|ah=>[.dc [],.it,.ls,.ls]|af=>[.dc [VJ],.it,.ls,.ls]
noncomputable def Fl:Nat->List Kd|0=>[.dc [VJ],.ls]|_=>[.dc [],.ls]
structure JP(xs:List aa)(i:Int)(os:List Int)(ys:List aa):Prop where
 a:tJ xs i os
 l:ys.length+os.length<=1000
noncomputable def cIn(os:List Int)(p:Cp)(l:ae)(i:Int)(xs ys:List aa):Ct:=⟨[p.L,p.it,l,p.acc],λ d u c=>[d+10<900,JP xs i os ys],λ K=>(¬os=[]->∀v a,aV a (os.map m6)->K 0 (.ok .next) [(p.L,.fr [v]),(p.acc,.ls (ys++a))] [])/\(os=[]->K 1 (.ok .next) [(p.L,.fr []),(p.acc,.ls ys)] [])⟩
noncomputable def XQ(os:List Int)(p:Cp)(v:aa)(l:ae)(i:Int)(xs ys:List aa):Ct:=⟨[p.L,p.it,l,p.acc],λ d u c=>[d+10<900,JP xs i os ys],λ K=>∀v a,aV a (os.map m6)->K 0 (.ok .next) [(p.L,.fr [v]),(p.acc,.ls (ys++a))] []⟩
noncomputable def T7(os:List Int):Sp:=gb (.of fo codeIn) [.fr [],.it,.ls,.ls] (PN ah) Fl (cIn os)
noncomputable def MA(os:List Int):Sp:=gb (.of fo codeIn) [.fr [.an],.it,.ls,.ls] (PN af) Fl (XQ os)
section
variable{b:Bs}(G:Good b)
include G
theorem Fm{e:Ev}{K:Kv}{o:Int}{os:List Int}{p:Cp}{l:ae}{i:Int}{xs ys:List aa}(q:bj b (MA os))(r:e.dp+10<900)(f:Bool){d:List aa}(s:mv f d)(h:JP xs i (o::os) ys)(u:∀v a,aV a ((o::os).map m6)->K 0 (.ok .next) [(p.L,.fr [v]),(p.acc,.ls (ys++a))] []):dg b e (codeIn p) (PN f) [(p.L,.fr d),(p.it,.it l i),(l,.ls xs),(p.acc,.ls ys)] Fl K:=by
 obtain⟨⟨w,⟨t,x⟩,y⟩,m⟩:=h;have g:∀v t a,aV a (os.map m6)->K 0 (.ok .next) [(p.L,.fr [v]),(p.acc,.ls (snoc ys (.int (BS o 1000000) t)++a))] []:=λ v t a z=>by rw [fu];exact u v _ ⟨⟨t,rfl⟩,z⟩
 have j:ys.length<=1048576:=ai (ai (bX _ _) m) (by decide);have A:∀v,JP xs (i+1) os (snoc ys v):=λ v=>⟨y,iz _ m⟩;induction f<;>rcases d with _|⟨v,_|⟨_,_⟩⟩<;>induction s;all_goals exact dg.run G [] [jN (.int o t),T6,dP,⟨_,q⟩] (oo 0x213113245164215811141636323134141 []) λ n=>c3 (E [p.3,l] 0x10010) (c2 w x) (λ(C:Nw)=>c3 (E [p.1] 0x1000) (@rfl Int 1000000) (λ(c:aX)(D:Nw)=>c3 (E [p.4] 0x100) j (λ(B:Nat)(F:Nw)=>c5 (E [p.1,p.3,l,p.4] 0x13210) (@rfl aT (codeIn p)) r (A (.int (o.fmod 1000000) c)) (λ(k:aa)(a:List aa)(h:aV a (cF m6 os))(H:Nw)=>g k c a h))))
theorem PO:∀os,bj b (MA os):=by intro os;induction os with|nil=>exact ct λ p v l i xs ys e rest K d h a=>by have f:=h.a;exact dg.run G [] [kF] (oo 0x4331a323134141 []) λ n=>c3 (E [p.3,l] 0x10010) f (λ(c:ae)(D:Array aa)(j:Nw)=>c2 (E [c] 0x10) (aA ys▸a v [] trivial))|cons _ os g=>exact ct λ p v l i xs ys e rest K d h a=>Fm G g d af trivial h a
theorem PQ:∀os,bj b (T7 os):=by intro os;induction os with|nil=>exact ct λ p l i xs ys e rest K d h a=>by have f:=h.a;have a:=a.2 rfl;exact dg.run G [] [kF] (oo 0x4332a323134141 []) λ n=>c3 (E [p.3,l] 0x10010) f (λ(c:ae)(D:Array aa)(g:Nw)=>c2 (E [c] 0x10) a)|cons o os=>exact ct λ p l i xs ys e rest K d h a=>Fm G (PO G os) d ah trivial h (a.1 λ h=>(by injection h))
end
noncomputable def XR(cs:ae)(p:Cp):fJ:=lQ aE q0 143 p.L p.F [(sF,cs)]
noncomputable def JQ:Bool->List Kd|ah=>[.dc [],.ls]|af=>[.dc [si,Fh],.ls]
noncomputable def Bi:Bool->List aa->Prop|ah,[]=>True|af,[_,_]=>True|_,_=>False
noncomputable def PR(ns:List Int):Prop:=∀n∈ns,0<=n/\n<=64000000
noncomputable def XS(xs:List aa)(k:Int):List aa:=fe (fe xs az (ab 60) az) (ab k) az (ab 11)
section
variable{b:Bs}(G:Good b){cs ls:ae}{xs:List aa}{ep:Nat}(hc:bN b cs (iF (ab (.ref ls))))(hl:bN b ls (lO xs ep))
include G hc hl
theorem PS{e:Ev}{K:Kv}{p:Cp}{g:ae}{k n:Int}{t s:aX}{ys:List aa}{os:List Int}{z:Nat}(A:e.dp+20<900)(u:xs.length<=1000)(B:bN b g (tO [.int k t,.int n s] z))(f:Bool){j:List aa}(C:Bi f j)(D:ys.length<=100)(i:aV (XS xs k) os)(w:∀F,K 0 (.ok .next) [(p.L,.fr [.int k t,.int n s]),(p.acc,.ls (snoc ys (.int (n+(os.map m6).sum) F)))] []):DQ b e (Fj cs p) aE 0 (.ref p.acc) (.ref g) (XR cs p) (JQ f) [(p.L,.fr j),(p.acc,.ls ys)] (k1 (JQ af)) K:=by have x:xs.length<=1048576:=ai u (by decide);have H:(fe xs az (ab 60) az).length<=1048576:=ai mP x;have y:ys.length<=1048576:=ai D (by decide);have I:JP (XS xs k) 0 os []:=⟨lu (ys:=[]) i,by rw [<-i.len];exact ai (cR (cN _)) (ai mP (ai mP u))⟩;have J:os=[]->aV [] (os.map m6):=λ h=>h▸trivial;induction f<;>rcases j with _|⟨v,_|⟨P,_|⟨_,_⟩⟩⟩<;>induction C;all_goals exact DQ.run G [⟨_,_,B⟩,⟨_,_,hc⟩,⟨_,_,hl⟩] [kg hl,pO,⟨_,PQ G os⟩,Fe (os.map m6),dP] (oo 0x1a31a21714f111412416214144111222c31525622112f112f12f11831410f110f10f10fa1213717775118484821232212121232212121232212122131333 [(oo 0x1a31a21714f111412416214144112 [])]) λ n=>c3 (E [n.1 3,ls,cs,p.1,n.1 2,n.1 0,g] 0x166665555565555556555555655433333211110) (c3 (@rfl ae ls) ((nofun:¬(az:Option Int)=ab 0)) x) (λ(a:ae)(L:Nw)=>c3 (E [a,L.1 0,p.1] 0x12000010) (c2 (((by decide):¬(ab 11:Option Int)=ab 0)) H) (λ(l:ae)(c:Nw)=>c6 (E [c.1 2,c.1 0,l,c.1 1] 0x1222113210) (@rfl aT (codeIn (Cp.mk (c.1 2) p.2 (c.1 0) (c.1 1) 0 0 0))) (fj A:e.dp+0+10<900) I (λ(h:¬os=[])(M:aa)(N:List aa)(m:aV N (cF m6 os))(d:Nw)=>c3 (E [d.1 0,d.1 1,c.1 1,c.1 2] 0x13332220210) (c2 (c6 (@rfl Int 0) (@rfl aX 0) (@rfl Int 0) (@rfl aX 0) (@rfl Int 0) (⟨_,rfl⟩:∃(t:aX),[ak 0 (d.tk 0)]=[ak 0 t])) m) (λ(o:aX)(q:Nw)=>c3 (E [p.4] 0x100) y (λ(r:Nat)(O:Nw)=>w (q.tk 0)))) (λ(h:os=[])(d:Nw)=>c3 (E [d.1 0,d.1 1,c.1 1,c.1 2] 0x132220210) (c2 (c6 (@rfl Int 0) (@rfl aX 0) (@rfl Int 0) (@rfl aX 0) (@rfl Int 0) (⟨_,rfl⟩:∃(t:aX),[ak 0 (d.tk 0)]=[ak 0 t])) (J h)) (λ(o:aX)(q:Nw)=>c3 (E [p.4] 0x100) y (λ(r:Nat)(O:Nw)=>w (q.tk 0))))))
end
noncomputable def MB:List Int:=[5,2,4095,253,27,26,10,19,43,31,13016]
theorem T8(x:Int):0<=m6 x/\m6 x<1000000:=⟨eb x (by decide),gv x (by decide)⟩
theorem PT:∀os:List Int,0<=(os.map m6).sum/\(os.map m6).sum<=1000000*os.length:=by intro os;induction os with|nil=>exact⟨aN _,aN _⟩|cons o os d=>have a:=T8 o;have c:=d;rw [bu,gC,eH];exact⟨lj 0x76100407001120600112 [] [m6 o,(cF m6 os).sum] rfl a.1 c.1,lj 0x110315f4240527614035f42405271121f4240506112 [os.length] [m6 o,(cF m6 os).sum] rfl a.2 c.2⟩
theorem aV.snoc(h:aV xs l)(n:Int)(t:aX):aV (snoc xs (.int n t)) (l++[n]):=h.app ⟨⟨t,rfl⟩,trivial⟩
structure CaS(p:Cp)(f:Bool)(k:Nat)(vs:List eK):Prop where
 h:∃dv ys ns,vs=[(p.L,.fr dv),(p.acc,.ls ys)]/\Bi f dv/\aV ys ns/\ns.length=k/\PR ns
 f:f=ah->k=0
noncomputable def T9(f:Bool):List Kd:=[.fl "enumerate",.it,.ls]++JQ f
noncomputable def cCa(a:ae)(q:Cp)(bf:Bool)(it:ae)(i:Int)(e:aX)(f:aa)(l:ae)(j:Int)(ks ys:List aa):Ct:=⟨[q.it,it,l,q.L,q.acc],λ d u m=>[d+30<900,q.c0=a,(bf=af/\i=0/\e=0/\j=0/\ys=[])/\aV ks MB],λ K=>∀h k c ns,aV c ns->ns.length=11->PR ns->K 0 (.ok .next) [(l,.ls ks),(q.L,.fr [h,k]),(q.acc,.ls c)] []⟩
noncomputable def z'(q:Cp):aT:=Fj q.c0 q
noncomputable def PU(a:ae):Sp:=gb (.of fo z') [.fr [.no,.bo,.re,.it,.no,.an],.it,.ls,.fr [],.ls] (T9 ah) (k1 [.ls,.dc [si,Fh],.ls]) (cCa a)
theorem T_(G:Good b){cs ls:ae}{xs:List aa}(hc:bN b cs (iF (ab (.ref ls))))(hl:bN b ls (lO xs ep))(C:∀v∈xs,∃n t,v=.int n t)(m:xs.length<=63):bj b (PU cs):=ct λ q bf it i Q s l j ks ys e rest K D F h H=>by
 obtain⟨⟨rfl,rfl,rfl,rfl,rfl⟩,c⟩:=h;refine zN G T5 JQ (S:=CaS q) (λ R I X f k v g t p vs o u J=>?_) (λ f vs u=>?_) ks.length 0 (cN _) ah _ s ⟨⟨[],[],[],rfl,trivial,trivial,rfl,λ n m=>(absurd m ax)⟩,λ T=>rfl⟩
 .obtain⟨⟨z,ys,ns,rfl,d,r,rfl,w⟩,A⟩:=u;have a:ns.length<MB.length:=by rw [<-c.len];rw [dH]at o;exact(bz.mp o).1
  have x:bE MB ns.length=ab (MB[ns.length]):=by rw [dH];exact aJ a
  obtain⟨U,L⟩:=c.bE x;cases bw (o.symm.trans L);obtain⟨os,B⟩:=JO (xs:=XS xs (ns.length:Int)) λ v o=>C v (w5 (w5 o));have M:os.length<=63:=by rw [<-B.len];exact ai mP (ai mP m)
  have a:ns.length<11:=a;have N:0<=MB[ns.length]/\MB[ns.length]<=20000:=(by decide:∀n∈MB,0<=n/\n<=20000) _ (ib _);have V:=PT os;refine PS I (F▸hc.ext X) (hl.ext X) (li 0x13843014203131384301e2031111 [e.1] rfl D) (li 0x3e8303303f203111 [xs.length] rfl m) J f d (by rw [r.len];exact li 0x6420331b103111 [ns.length] rfl a) B λ O=>⟨rfl,⟨_,_,_,rfl,trivial,r.snoc _ O,bh,λ n m=>(aO.mp m).elim (w n) λ h=>?_⟩,λ h=>(by injection h)⟩;rw [ay.mp h];lia
 .obtain⟨⟨z,ys,ns,rfl,d,r,hl,w⟩,A⟩:=u;have y:ks.length=11:=c.len;induction f with|true=>exact absurd (A rfl) (by lia)|false=>rcases z with _|⟨v,_|⟨P,_|⟨_,_⟩⟩⟩<;>induction d;exact⟨rfl,H v P ys ns r (hl.trans y) w⟩
noncomputable def PV:List Kd:=[.fr [],.cl,.cl,.cl,.cl,.cl,.cl,.cl,.tb,.tb,.tb]
noncomputable def LA.v0(g:LA):List eK:=[(g.L,.fr []),(g.cc,.cl az),(g.ct,.cl az),(g.cg,.cl az),(g.ce,.cl az),(g.ca,.cl az),(g.cb,.cl az),(g.ck,.cl az),(100,.fr []),(136,.fr []),(141,.fr [])]
noncomputable def Ua:List Kd:=[.fr [],.ls,.cl,.cl,.cl,.cl,.cl,.cl,.tb,.tb,.tb]
noncomputable def LA.v1(g:LA)(l:ae)(a:List aa):List eK:=[(g.L,.fr []),(l,.ls a),(g.ct,.cl az),(g.cg,.cl az),(g.ce,.cl az),(g.ca,.cl az),(g.cb,.cl az),(g.ck,.cl az),(100,.fr []),(136,.fr []),(141,.fr [])]
section
variable{b:Bs}(G:Good b){g:LA}{ls:ae}{xs:List aa}{ep:Nat}
include G
theorem Fn{e:Ev}{K:Kv}(j:e.dp+100<900)(hc:bj b (PU g.cs))(k:∀l c ns,aV c ns->ns.length=11->PR ns->K 0 (.ok .next) (g.v1 l c) [(g.cc,iF (ab (.ref l)))]):DS b e (bK g) (cj 1 (aP 23)) g.en PV g.v0 (k1 Ua) K:=DS.run G [] [DD,⟨_,hc⟩] (oo 0x5edcba987634d15a24424421310f0ff6141ef21af11af11af1af1af11af11af1af121311111 []) λ n=>c3 (E [n.1 0] 0x10) (@rfl String ("enumerate")) (λ(it:ae)(i:ae)(a:Nw)=>c6 (E [i,it,n.1 0,a.1 1,a.1 0] 0x100000000043210) (@rfl aT (z' (Cp.mk (a.1 1) g.1 i (a.1 0) g.2 0 0))) (fj j:e.dp+1+30<900) (@rfl ae g.2) (c2 (c5 (@rfl Bool af) (@rfl Int 0) (@rfl aX 0) (@rfl Int 0) (@rfl (List aa) ([]))) (⟨⟨_,rfl⟩,⟨_,rfl⟩,⟨_,rfl⟩,⟨_,rfl⟩,⟨_,rfl⟩,⟨_,rfl⟩,⟨_,rfl⟩,⟨_,rfl⟩,⟨_,rfl⟩,⟨_,rfl⟩,⟨_,rfl⟩,trivial⟩:aV [ak 5 (n.tk 0),ak 2 (n.tk 1),ak 4095 (n.tk 2),ak 253 (n.tk 3),ak 27 (n.tk 4),ak 26 (n.tk 5),ak 10 (n.tk 6),ak 19 (n.tk 7),ak 43 (n.tk 8),ak 31 (n.tk 9),ak 13016 (n.tk 10)] MB)) (λ(m:aa)(o:aa)(c:List aa)(ns:List Int)(h:aV c ns)(d:ns.length=11)(f:PR ns)(p:Nw)=>c2 (E [g.3,a.1 1] 0x111111100) (k (a.ad 0) c ns h d f)))
end
set_option backward.match.sparseCases true
noncomputable def uk(op:CmpOp)(A:dx)(s:aD)(v u:aa)(w:Bool):Prop:=∀(prog:d7)(a:cP)(Q:aa->aD->Prop)(E:aa->aD->Prop),Q (.bool w) s->bV (aW prog a) A (fA op v u) Q E s
theorem DT.yn{b:Bs}{e:Ev}{c:aT}{ks:List Kd}{vs:List eK}{K:Kv}(hm:i3 op r=af)(hl:DE b e c l env ks vs kA (iS λ j v f=>DE b e c r env (kA j) f kB (iS λ g u d=>∃w:Bool,(∀H s,Ready b s (d' H (kB g) d)->uk op (e.ar.under c) s v u w)/\K g (.ok (.ret (.bool w))) d []))):DT b e c (.Compare l [op] [r] p) env ks vs kB K:=λ H s0 C0 s a=>my hm (hl.val a λ j v f x y n o=>n.val o λ g u d i q t k=>t.elim λ w h=>h.1 i q k.R _ _ _ _ ⟨w,rfl,g,d,[],i,h.2,by rw [aA];exact k⟩)
theorem DE.yn{b:Bs}{e:Ev}{c:aT}{ks:List Kd}{vs:List eK}{K:Kv}(hm:i3 op r=af)(hl:DE b e c l env ks vs kA (iS λ j v f=>DE b e c r env (kA j) f kB (iS λ g u d=>∃w:Bool,(∀H s,Ready b s (d' H (kB g) d)->uk op (e.ar.under c) s v u w)/\K g (.ok (.ret (.bool w))) d []))):DE b e c (.Compare l [op] [r] p) env ks vs kB K:=λ H s0 C0 s a=>uX hm (hl.val a λ j v f x y n o=>n.val o λ g u d i q t k=>t.elim λ w h=>h.1 i q k.R _ _ _ _ ⟨g,d,[],i,h.2,by rw [aA];exact k⟩)
noncomputable def iT:List aa->List aa->Prop|[],[]=>True|v::vs,u::us=>qK v u/\iT vs us|_,_=>False
theorem iT.len:∀{xs ys:List aa},iT xs ys->xs.length=ys.length|[],[],_=>rfl|_::_,_::_,h=>congrArg (·+1) (iT.len h.2)|[],_::_,h=>h.elim|_::_,[],h=>h.elim
theorem iT.at:iT xs ys->∀j(h1:j<xs.length)(h2:j<ys.length),qK xs[j] ys[j]:=by induction xs generalizing ys with|nil=>intro _ j h1;exact absurd h1 (cQ j)|cons x xs a=>intro h j h1 h2;induction ys with|nil=>exact h.elim|cons y ys=>induction j with|zero=>exact h.1|succ j=>exact a h.2 j (b8 h1) (b8 h2)
theorem iT.ints{xs ys:List aa}{ns:List Int}:aV xs ns->aV ys ns->iT xs ys:=by
 induction xs generalizing ys ns with
  |nil=>
   intro h k
   induction ns with
    |nil=>induction ys with|nil=>trivial|cons _ _=>exact k.elim
    |cons _ _=>exact h.elim
  |cons x xs a=>intro h k;induction ns with|nil=>exact h.elim|cons n ns=>induction ys with|nil=>exact k.elim|cons y ys=>exact⟨h.1.elim λ t e=>k.1.elim λ u b=>.inl ⟨_,t,u,e,b⟩,a h.2 k.2⟩
theorem iT.tags(h:bl xs ts):bl ys ts->iT xs ys:=by induction h generalizing ys with|nil=>intro k;cases k;trivial|cons h a=>intro k;cases k with|cons k=>exact⟨.inr ⟨_,_,_,rfl,rfl⟩,a k⟩
section
variable{A:dx}{s:aD}{l m:ae}{xs ys:List aa}{e1 e2:Nat}(hl:s.heap.get? l=ab (lO xs e1))(hm:s.heap.get? m=ab (lO ys e2))(hu:A.units<9900)(hn:xs.length=ys.length)(h:∀j(h1:j<xs.length)(h2:j<ys.length),Vn A.in1 s xs[j] ys[j] ah)
include hl hm hu hn h
theorem sG:SeqAt.RcAt A s (.ref l) (.ref m) ah:=by have:=aab ⟨_,hl,rfl,_,rfl⟩ ⟨_,hm,rfl,_,rfl⟩ (by simpa using hn) hu λ j h1 h2=>h j (by simpa using h1) (by simpa using h2);rwa [rQ.mpr λ a a=>rfl]at this
theorem Fo:uk .Eq A s (.ref l) (.ref m) ah:=λ prog w Q E a=>sG hl hm hu hn h prog w E Q a
theorem w6:uk .NotEq A s (.ref l) (.ref m) af:=λ prog w Q E a=>by have:=uF ⟨_,hl,rfl,_,rfl⟩ ⟨_,hm,rfl,_,rfl⟩ (by simpa using hn) hu (λ j h1 h2=>h j (by simpa using h1) (by simpa using h2)) prog w E Q;rw [rQ.mpr λ b b=>rfl]at this;exact this a
end
theorem rH(hl:s.heap.get? l=ab (lO xs e1))(hm:s.heap.get? m=ab (lO ys e2))(hu:A.units<9900)(h:iT xs ys):uk .NotEq A s (.ref l) (.ref m) af:=w6 hl hm hu h.len λ j h1 h2=>(h.at j h1 h2).at
theorem JR(hl:s.heap.get? l=ab (lO xs e1))(hm:s.heap.get? m=ab (lO ys e2))(hu:A.units<9900)(h:iT xs ys):uk .Eq A s (.ref l) (.ref m) ah:=Fo hl hm hu h.len λ j h1 h2=>(h.at j h1 h2).at
theorem DT.ZV{b:Bs}{e:Ev}{c:aT}{ks:List Kd}{vs:List eK}{K:Kv}(o:DT b e c x env ks vs kA λ j r d tl=>r=.ok (.ret (.bool af))/\tl=[]/\DT b e c y env (kA j) d kB K):DT b e c (.BoolOp .Or [x,y] p) env ks vs kB K:=λ H s0 C0 s a=>by show a_ _ _ _ (eP x env (dh x env)>>=λ t=>match j1,t with|.And,af=>pure af|.Or,ah=>pure ah|_,_=>t9 .Or [y] env) _ _ _;refine au (aQ (o H s0 C0 s a) (λ t k h1=>h1.out λ j d tl n f g=>?_) λ x k h1=>h1.out λ j d tl n f g=>(by injection f.1));obtain⟨e1,rfl,q⟩:=f;cases(jB (eU (cA e1)):t=af);rw [aA]at g;show a_ _ _ _ (eP y env (dh y env)>>=λ t=>match j1,t with|.And,af=>pure af|.Or,ah=>pure ah|_,_=>pure (j1==.And)) _ _ _;refine au (aQ (q n s0 C0 k g) (λ t u h2=>?_) λ x u h2=>h2);induction t<;>exact λ i i i i=>h2
theorem DS.VR{b:Bs}{e:Ev}{c:aT}{ks:List Kd}{vs:List eK}{ks' kk:Nat->List Kd}{K:Kv}{env:fJ}(h:DT b e c t env ks vs kk λ j r d tl=>r=.ok (.ret (.bool af))/\tl=[]/\DS b e c rest env (kk j) d ks' K):DS b e c (.If t body [] pos::rest) env ks vs ks' K:=λ H s0 C0 s a=>by rw [uW];refine au (bU (bI (au (aQ (h H s0 C0 s a) (λ t i h1=>h1.out λ j d tl k f g=>?_) λ x i h1=>h1.out λ j d tl k f g=>(by injection f.1)))));obtain⟨e1,rfl,n⟩:=f;cases(jB (eU (cA e1)):t=af);rw [aA]at g;exact n k s0 C0 i g
theorem DS.keep{b:Bs}{e:Ev}{c:aT}{ks Rv:List Kd}{vs Rw:List eK}{ks':Nat->List Kd}{K:Kv}{env:fJ}{f:List ea}{D:Hs->Cells}(G:Good b)(q:∀H,∃i,(d' H ks vs).Perm (d' i Rv Rw++D H))(h:∀d H,Good d->Ext b d->(∀p∈D H,iN d p.1 p.2)->DS d e c f env Rv Rw ks' K):DS b e c f env ks vs ks' K:=λ H s0 C0 s a=>by obtain⟨k,q⟩:=q H;have a:=a.perm q;obtain⟨d,n,X,o,r⟩:=rebase G a.R;have z:=h d H n X (λ p g=>⟨r p g,G.oH a.R (aq _ g)⟩) k s0 C0 s ⟨o,(a.sub (a9 _ _)).T⟩;rw [X.prog,X.w]at z;exact aQ z (λ v s h=>h.ext X) λ x s h=>h.ext X
theorem DS.MC{b:Bs}{e:Ev}{c:aT}{ks Rv:List Kd}{vs Rw:List eK}{ks':Nat->List Kd}{K:Kv}{env:fJ}{k:List ea}{D:Hs->Cells}(G:Good b)(q:∀H,∃g,(d' H ks vs).Perm (d' g Rv Rw++D H))(h:∀d H,Good d->Ext b d->(∀p∈D H,iN d p.1 p.2)->DS d e c k env Rv Rw ks' (l3 λ j r vs tl=>K j r vs (tl++D H))):DS b e c k env ks vs ks' (l3 K):=λ H s0 C0 s a=>by obtain⟨w,q⟩:=q H;refine Do.take G (a.perm q) (λ d o X t=>h d H o X t) (λ j v f tl g u i n=>⟨j,f,tl++D H,g,?_,by rw [<-bb];exact n⟩) λ j x f tl g u i n=>i.elim;induction v<;>exact i
theorem w8(h:D j v vs):iS D j (.ok (.ret v)) vs []:=⟨v,rfl,rfl,h⟩
set_option backward.match.sparseCases false
noncomputable def JS:aR:=⟨#[111,99,116,101,116]⟩
noncomputable def tE:bO:=xE (sE (bE (aP 23) 1) 0) 1
theorem Ub:tN tE 0:=⟨by kernel_rfl,by kernel_rfl,by kernel_rfl,xE (kD tE 0).target 0::[xE (kD tE 0).target 1],0,aY (kD tE 0).target,by kernel_rfl⟩
noncomputable def yo(p:Cp):aT:=.compLoop tE 0 (.ref p.it) (.ref p.acc) (x1 tE q0 143 p.L p.F)
noncomputable def p_(p:Cp):aT:=.compLoop tE 1 (.ref p.it) (.ref p.acc) (x1 tE q0 143 p.L p.F)
noncomputable def JT:Bool->List aR|ah=>[si,kR]|af=>[si,kR,JS]
noncomputable def PX(f:Bool):List Kd:=[.dc (JT f),.it,.ls,.ls]
noncomputable def Fq:List Kd:=[.dc (JT af),.ls]
noncomputable def ZW(os:List Int)(p:Cp)(a c:aa)(l:ae)(i:Int)(xs ys:List aa):Ct:=⟨[p.L,p.it,l,p.acc],λ d u f=>[d+10<900,JP xs i os ys],λ K=>∀e zs,aV zs os->K 0 (.ok .next) [(p.L,.fr [a,c,e]),(p.acc,.ls (ys++zs))] []⟩
noncomputable def XT(os:List Int)(p:Cp)(a c d:aa):=ZW os p a c
noncomputable def MD(os:List Int):Sp:=gb (.of fo p_) [.fr [.an,.an],.it,.ls,.ls] (PX ah) (k1 Fq) (ZW os)
noncomputable def Fs(os:List Int):Sp:=gb (.of fo p_) [.fr [.an,.an,.an],.it,.ls,.ls] (PX af) (k1 Fq) (XT os)
section
variable{b:Bs}(G:Good b)
include G
theorem Ft{e:Ev}{K:Kv}{o:Int}{os:List Int}{p:Cp}{l:ae}{i:Int}{xs ys:List aa}{a c:aa}(q:bj b (Fs os))(r:e.dp+10<900)(f:Bool){d:List aa}(s:mv f d)(h:JP xs i (o::os) ys)(u:∀j zs,aV zs (o::os)->K 0 (.ok .next) [(p.L,.fr [a,c,j]),(p.acc,.ls (ys++zs))] []):dg b e (p_ p) (PX f) [(p.L,.fr (a::c::d)),(p.it,.it l i),(l,.ls xs),(p.acc,.ls ys)] (k1 Fq) K:=by
 obtain⟨⟨w,⟨t,x⟩,y⟩,m⟩:=h;have g:∀v zs,aV zs os->K 0 (.ok .next) [(p.L,.fr [a,c,v]),(p.acc,.ls (snoc ys (.int o t)++zs))] []:=λ v zs z=>by rw [fu];exact u v _ ⟨⟨t,rfl⟩,z⟩
 have k:ys.length<=1048576:=ai (ai (bX _ _) m) (by decide);have A:∀v,JP xs (i+1) os (snoc ys v):=λ v=>⟨y,iz _ m⟩;induction f<;>rcases d with _|⟨v,_|⟨_,_⟩⟩<;>induction s;all_goals exact dg.run G [] [jN (.int o t),dP,⟨_,q⟩] (oo 0x21311324515421481636323134141 []) λ n=>c3 (E [p.3,l] 0x10010) (c2 w x) (λ(C:Nw)=>c3 (E [p.4,p.1] 0x111100) k (λ(B:Nat)(D:Nw)=>c5 (E [p.1,p.3,l,p.4] 0x13210) (@rfl aT (p_ p)) r (A (.int o t)) (λ(j:aa)(zs:List aa)(h:aV zs os)(F:Nw)=>g j zs h)))
theorem Fu:∀os,bj b (Fs os):=by intro os;induction os with|nil=>exact ct λ p j k d l i xs ys e rest K f h a=>by have m:=h.a;exact dg.run G [] [kF] (oo 0x4331a323134141 []) λ n=>c3 (E [p.3,l] 0x10010) m (λ(c:ae)(D:Array aa)(q:Nw)=>c2 (E [c] 0x10) (aA ys▸a d [] trivial))|cons _ os o=>exact ct λ p j k d l i xs ys e rest K f h a=>Ft G o f af trivial h a
theorem PY(o:Int)(os:List Int):bj b (MD (o::os)):=ct λ p d f l i xs ys e rest K a h c=>Ft G (Fu G os) a ah trivial h c
noncomputable def Uc:Bool->List Int->Sp|ah,os=>MD os|af,os=>Fs os
omit G in theorem Fv(G:Good b)(f:Bool)(o:Int)(os:List Int):bj b (Uc f (o::os)):=by
 induction f;.exact Fu G _
 .exact PY G o os
end
noncomputable def jA:Nat->List Int->List Int|_,[]=>[]|k,n::ns=>oct n (Z.modQ (k:Int) 2)++jA (k+1) ns
theorem yp(n:Int):∀(ns:List Int)(k:Nat),jA k (ns++[n])=jA k ns++oct n (Z.modQ ((k+ns.length:Nat):Int) 2):=by intro ns;induction ns with|nil=>intro k;exact aA _|cons m ns a=>intro k;show oct m _++jA (k+1) (ns++[n])=_;rw [a (k+1),<-bb,gG,il 1];rfl
theorem Bj:∀(ns:List Int)(k:Nat),(jA k ns).length<=6*ns.length:=by intro ns;induction ns with|nil=>intro _;exact bt _|cons n ns a=>intro k;have c:=lr n (Z.modQ (k:Int) 2);have d:=a (k+1);show(oct n _++jA (k+1) ns).length<=6*(ns.length+1);rw [bh];exact li 0x11051612431305612411106103111 [(oct n (Z.modQ (↑k) 2)).length,(jA (k+1) ns).length,ns.length] rfl c d
noncomputable def JU:Bool->List Kd|ah=>[.dc [],.ls]|af=>[.dc (JT af),.ls]
noncomputable def Ud:Bool->List aa->Prop|ah,[]=>True|af,[_,_,_]=>True|_,_=>False
section
variable{b:Bs}(G:Good b)
include G
theorem PZ{e:Ev}{K:Kv}{p:Cp}{g:ae}{k m:Int}{t s:aX}{ys:List aa}{x:Nat}{o:Int}{os:List Int}(d:e.dp+70<900)(u:bN b g (tO [.int k t,.int m s] x))(f:Bool){i:List aa}(y:Ud f i)(z:ys.length<=100)(j:oct m (Z.modQ k 2)=o::os)(q:∀v zs,aV zs (oct m (Z.modQ k 2))->K 0 (.ok .next) [(p.L,.fr [.int k t,.int m s,v]),(p.acc,.ls (ys++zs))] []):DQ b e (yo p) tE 0 (.ref p.acc) (.ref g) (x1 tE q0 143 p.L p.F) (JU f) [(p.L,.fr i),(p.acc,.ls ys)] (k1 (JU af)) K:=by
 have w:∀{xs},aV xs (oct m (Z.modQ k 2))->JP xs 0 (o::os) ys:=λ h=>⟨lu (ys:=[]) (j▸h),by have:=lr m (Z.modQ k 2);rw [j]at this;exact li 0x3e830431306104111064203111 [ys.length,(o::os).length] rfl z this⟩;rw [j]at q;induction f<;>rcases i with _|⟨v,_|⟨C,_|⟨A,_|⟨_,_⟩⟩⟩⟩<;>induction y;.exact DQ.run G [⟨_,_,u⟩] [⟨_,zl G⟩,⟨_,Fv G af o os⟩] (oo 0x2131721651422212122113111881484821232212121232212121232212122131333 []) λ n=>c3 (E [p.1,n.1 2,n.1 0,g] 0x1333322222322222232222223221000000) (fj d:e.dp+0+40<900) (λ(l:ae)(xs:List aa)(h:aV xs (oct m (Z.modQ k 2)))(c:Nw)=>c5 (E [p.1,c.1 0,l,p.4] 0x1222113210) (@rfl aT (p_ (Cp.mk p.1 p.2 (c.1 0) p.4 0 0 0))) (fj d:e.dp+0+10<900) (w h) (λ(r:aa)(zs:List aa)(a:aV zs (o::os))(B:Nw)=>q r zs a))
 .exact DQ.run G [⟨_,_,u⟩] [⟨_,zl G⟩,⟨_,Fv G ah o os⟩] (oo 0x2131721651422212122113111881484821232212121232212121232212122131333 []) λ n=>c3 (E [p.1,n.1 2,n.1 0,g] 0x1333322222322222232222223221000000) (fj d:e.dp+0+40<900) (λ(l:ae)(xs:List aa)(h:aV xs (oct m (Z.modQ k 2)))(c:Nw)=>c5 (E [p.1,c.1 0,l,p.4] 0x1222113210) (@rfl aT (p_ (Cp.mk p.1 p.2 (c.1 0) p.4 0 0 0))) (fj d:e.dp+0+10<900) (w h) (λ(r:aa)(zs:List aa)(a:aV zs (o::os))(B:Nw)=>q r zs a))
end
structure TpS(p:Cp)(ns:List Int)(f:Bool)(k:Nat)(vs:List eK):Prop where
 h:∃dv ys,vs=[(p.L,.fr dv),(p.acc,.ls ys)]/\Ud f dv/\aV ys (jA 0 (ns.take k))
 f:f=ah->k=0
noncomputable def Ue(f:Bool):List Kd:=[.fl "enumerate",.it,.ls]++JU f
noncomputable def cTp(ns:List Int)(q:Cp)(bf:Bool)(it:ae)(i:Int)(a:aX)(c:aa)(l:ae)(j:Int)(ks ys:List aa):Ct:=⟨[q.it,it,l,q.L,q.acc],λ d u k=>[d+70<900,(bf=af/\i=0/\a=0/\j=0/\ys=[]),aV ks ns,ns.length=11],λ K=>∀e f h zs,aV zs (jA 0 ns)->K 0 (.ok .next) [(l,.ls ks),(q.L,.fr [e,f,h]),(q.acc,.ls zs)] []⟩
noncomputable def XU(ns:List Int):Sp:=gb (.of fo yo) [.fr [.no,.bo,.re,.it,.no,.an],.it,.ls,.fr [],.ls] (Ue ah) (k1 [.ls,.dc (JT af),.ls]) (cTp ns)
theorem ints_get{vs:List aa}{ns:List Int}:aV vs ns->bE vs k=ab v->∃n t,ns[k]?=ab n/\v=.int n t:=by induction vs generalizing ns k with|nil=>intro _ e;injection e|cons a vs c=>intro h e;induction ns with|nil=>exact h.elim|cons n ns=>induction k with|zero=>cases e;exact h.1.elim λ t h=>⟨_,t,rfl,h⟩|succ k=>exact c (k:=k) h.2 e
theorem Ug{b:Bs}(G:Good b)(ns:List Int):bj b (XU ns):=ct λ q bf it i N m l j ks ys e rest K B h c C D=>by
 obtain⟨rfl,rfl,rfl,rfl,rfl⟩:=h;have r:=c.len;refine zN G Ub JU (S:=TpS q ns) (λ O F X f k v g t p vs H s I=>?_) (λ f vs s=>?_) ks.length 0 (cN _) ah _ m ⟨⟨[],[],rfl,trivial,trivial⟩,λ P=>rfl⟩;.obtain⟨⟨x,ys,rfl,a,d⟩,y⟩:=s;obtain⟨n,Q,z,rfl⟩:=ints_get c H;obtain⟨o,os,J⟩:=oQ n (Z.modQ (k:Int) 2);have u:=(bz.mp z).1;have A:=Bj (ns.take k) 0;rw [eG,<-d.len]at A;refine PZ F B I f a (li 0x6420430356110561241112b103611 [ns.length,ys.length,min k ns.length] rfl C A (fh k ns.length)) J λ v zs L=>⟨rfl,⟨_,_,rfl,trivial,?_⟩,λ h=>(by injection h)⟩;rw [i8,z];show aV _ (jA 0 (ns.take k++[n]));rw [yp,cN,eG,tX (yI u)];exact d.app L
 .obtain⟨⟨x,ys,rfl,a,d⟩,y⟩:=s;induction f with|true=>exact absurd (y rfl) (by lia)|false=>rcases x with _|⟨v,_|⟨M,_|⟨w,_|⟨_,_⟩⟩⟩⟩<;>induction a;rw [r,fY]at d;exact⟨rfl,D v M w ys d⟩
noncomputable def P0:List Kd:=[.fr [],.ls,.it,.ls,.cl,.cl,.cl,.cl,.cl,.tb,.tb,.tb]
noncomputable def LA.v2(g:LA)(l tp tl:ae)(zs xs:List aa):List eK:=[(g.L,.fr []),(l,.ls zs),(tp,.it tl 0),(tl,.ls xs),(g.cg,.cl az),(g.ce,.cl az),(g.ca,.cl az),(g.cb,.cl az),(g.ck,.cl az),(100,.fr []),(136,.fr []),(141,.fr [])]
section
variable{b:Bs}(G:Good b){g:LA}{l:ae}{zs:List aa}{ns:List Int}(hc:bN b g.cc (iF (ab (.ref l))))
include G hc
theorem Fw{e:Ev}{K:Kv}(i:e.dp+100<900)(j:aV zs ns)(k:ns.length=11)(m:∀tp tl xs,aV xs (jA 0 ns)->K 0 (.ok .next) (g.v2 l tp tl zs xs) [(g.ct,iF (ab (.ref tp)))]):DS b e (bK g) (cj 1 (aC 1 (aP 23))) g.en Ua (g.v1 l zs) (k1 P0) K:=DS.run G [⟨_,_,hc⟩] [DD,⟨_,Ug G ns⟩] (oo 0x6edcba9874125e16c216166112442442442130ffe6141cf218f118f118f18f18f118f118f18f221311131111 []) λ n=>c3 (E [l,g.3] 0x110) (@rfl String ("enumerate")) (λ(it:ae)(d:ae)(c:Nw)=>c7 (E [d,it,l,c.1 1,c.1 0] 0x100000000043210) (@rfl aT (yo (Cp.mk (c.1 1) g.1 d (c.1 0) 0 0 0))) (fj i:e.dp+1+70<900) (c5 (@rfl Bool af) (@rfl Int 0) (@rfl aX 0) (@rfl Int 0) (@rfl (List aa) ([]))) j k (λ(o:aa)(p:aa)(q:aa)(a:List aa)(h:aV a (jA 0 ns))(f:Nw)=>c2 (E [g.4,f.1 0,c.1 0,c.1 1] 0x1333333333222100) (m (f.ad 0) (c.ad 0) a h)))
end
noncomputable def VS:bO:=sE (bE (aP 23) 2) 0
noncomputable def VU:bO:=xE VS 0
noncomputable def sH(p:Cp):aT:=.compLoop VU 0 (.ref p.it) (.ref p.acc) (lQ VU q0 143 p.L p.F [(Ff,p.c0)])
noncomputable def P1:Bool->List Kd|ah=>[.dc [],.it,.ls,.ls,.it,.ls]|af=>[.dc [kR],.it,.ls,.ls,.it,.ls]
noncomputable def Fy:List Kd:=[.dc [kR],.ls,.ls]
theorem tJ.cut:∀{os:List Int}{i:Int},tJ xs i (os++rest)->Rl xs i os/\tJ xs (fwd i os) rest:=by intro os;induction os with|nil=>intro _ h;exact⟨by induction rest<;>exact h.1,h⟩|cons _ _ a=>intro _ h;exact⟨⟨h.1,h.2.1,(a h.2.2).1⟩,(a h.2.2).2⟩
structure VV(ks:List aa)(i:Int)(ns:List Int)(ys xs:List aa)(j:Int)(k:Nat):Prop where
 a:tJ ks i ns
 t:tJ xs j (jA k ns)
 b:PR ns
 l:ys.length+ns.length<=100
noncomputable def ZX(tc tp tl:ae)(ns:List Int)(k:Nat)(p:Cp)(l:ae)(i:Int)(ks ys:List aa)(a:ae)(j:Int)(xs:List aa):Ct:=⟨[p.L,p.it,l,p.acc,tp,tl],λ d u c=>[d+80<900,p.c0=tc,a=tl,VV ks i ns ys xs j k],λ K=>∀v zs,aV zs ns->K 0 (.ok .next) [(p.L,.fr [v]),(l,.ls ks),(p.acc,.ls (ys++zs))] []⟩
noncomputable def XW(tc tp tl:ae)(ns:List Int)(k:Nat)(p:Cp)(v:aa):=ZX tc tp tl ns k p
noncomputable def Uh(tc tp tl:ae)(ns:List Int)(k:Nat):Sp:=gb (.of fo sH) [.fr [],.it,.ls,.ls,.it,.ls] (P1 ah) (k1 Fy) (ZX tc tp tl ns k)
noncomputable def ME(tc tp tl:ae)(ns:List Int)(k:Nat):Sp:=gb (.of fo sH) [.fr [.an],.it,.ls,.ls,.it,.ls] (P1 af) (k1 Fy) (XW tc tp tl ns k)
section
variable{b:Bs}(G:Good b){tc tp tl:ae}(hc:bN b tc (iF (ab (.ref tp))))
include G hc
theorem Fz{e:Ev}{K:Kv}{m:Int}{ns:List Int}{k:Nat}{p:Cp}{l:ae}{i:Int}{ks ys xs:List aa}{j:Int}(B:bj b (ME tc tp tl ns (k+1)))(w:e.dp+80<900)(f:Bool){d:List aa}(C:mv f d)(D:p.c0=tc)(h:VV ks i (m::ns) ys xs j k)(F:∀v zs,aV zs (m::ns)->K 0 (.ok .next) [(p.L,.fr [v]),(l,.ls ks),(p.acc,.ls (ys++zs))] []):dg b e (sH p) (P1 f) [(p.L,.fr d),(p.it,.it l i),(l,.ls ks),(p.acc,.ls ys),(tp,.it tl j),(tl,.ls xs)] (k1 Fy) K:=by
 subst D;obtain⟨⟨H,⟨t,I⟩,J⟩,c,x,z⟩:=h;have A:=x m (.head _);obtain⟨o,os,L,M,_⟩:=ED ⟨A.1,qz A.2 (by decide)⟩ (Z.modQ (k:Int) 2);have c:tJ xs j (oct m (Z.modQ (k:Int) 2)++jA (k+1) ns):=c;rw [L]at c;obtain⟨q,r⟩:=tJ.cut c;have g:∀v t zs,aV zs ns->K 0 (.ok .next) [(p.L,.fr [v]),(l,.ls ks),(p.acc,.ls (snoc ys (.int m t)++zs))] []:=λ v t zs N=>by rw [fu];exact F v _ ⟨⟨t,rfl⟩,N⟩
 have s:ys.length<=1048576:=ai (ai (bX _ _) z) (by decide);have O:∀v,VV ks (i+1) ns (snoc ys v) xs (fwd j (o::os)) (k+1):=λ v=>⟨J,r,λ y P=>x y (.tail _ P),iz _ z⟩;induction f<;>rcases d with _|⟨v,_|⟨_,_⟩⟩<;>induction C;all_goals exact dg.run G [⟨_,_,hc⟩] [jN (.int m t),⟨_,LU G o os m⟩,dP,⟨_,B⟩] (oo 0x321413215467166215c16531413136323134141 []) λ n=>c3 (E [p.3,l] 0x10010) (c2 H I) (λ(R:Nw)=>c5 (E [tp,tl,p.5,p.1] 0x133210) (fj w:e.dp+0+60<900) M q (λ(a:aX)(S:Nw)=>c3 (E [p.4] 0x100) s (λ(Q:Nat)(T:Nw)=>c7 (E [p.1,p.3,l,p.4,tp,tl] 0x1543210) (@rfl aT (sH p)) w (@rfl ae p.5) (@rfl ae tl) (O (.int m a)) (λ(u:aa)(zs:List aa)(h:aV zs ns)(U:Nw)=>g u a zs h))))
theorem P2:∀ns k,bj b (ME tc tp tl ns k):=by intro ns;induction ns with|nil=>intro k;exact ct λ p v l i ks ys a j xs e rest K f m o h c=>by have q:=h.a;exact dg.run G [⟨_,_,hc⟩] [kF] (oo 0x42341e323134141 []) λ n=>c3 (E [p.3,l] 0x10010) q (λ(d:ae)(D:Array aa)(s:Nw)=>c2 (E [d] 0x10) (aA ys▸c v [] trivial))|cons _ ns r=>intro k;exact ct λ p v l i ks ys a j xs e rest K f m o h c=>by obtain rfl:=o.symm;exact Fz G hc (r (k+1)) f af trivial m h c
theorem P4(n:Int)(ns:List Int)(k:Nat):bj b (Uh tc tp tl (n::ns) k):=ct λ p l i ks ys a j xs e rest K c d f h m=>by obtain rfl:=f.symm;exact Fz G hc (P2 G hc ns (k+1)) c ah trivial d h m
end
theorem FA(g:LA):(bK g).cUnits=3:=by kernel_rfl
theorem JV:aC 2 (aP 23)=.If (.Compare VU [.NotEq] [xE VS 1] (aY VS)) (sB (bE (aP 23) 2) 0) [] (kP (bE (aP 23) 2))::aC 3 (aP 23):=by kernel_rfl
noncomputable def JW:List Kd:=[.fr [],.ls,.cl,.cl,.cl,.cl,.cl,.tb,.tb,.tb]
noncomputable def LA.v3(g:LA)(l:ae)(zs:List aa):List eK:=[(g.L,.fr []),(l,.ls zs),(g.cg,.cl az),(g.ce,.cl az),(g.ca,.cl az),(g.cb,.cl az),(g.ck,.cl az),(100,.fr []),(136,.fr []),(141,.fr [])]
noncomputable def Ui:List aR:=[oW,kH]
noncomputable def JX:List Kd:=[.fr Ui,.cl,.cl,.cl,.cl,.cl,.tb,.tb]
noncomputable def LA.v4(g:LA)(rw:ae):List eK:=[(g.L,.fr [.ref rw,.bool ah]),(g.cg,.cl az),(g.ce,.cl az),(g.ca,.cl az),(g.cb,.cl az),(g.ck,.cl az),(136,.fr []),(141,.fr [])]
section
variable{b:Bs}(G:Good b){g:LA}{l tp tl:ae}{zs xs:List aa}{m:Int}{ns:List Int}
include G
theorem JY{e:Ev}{D:Nat->aa->List eK->Prop}(f:bN b g.cc (iF (ab (.ref l))))(c:bN b g.ct (iF (ab (.ref tp))))(i:e.dp+100<900)(j:aV zs (m::ns))(k:PR (m::ns))(o:(m::ns).length=11)(p:aV xs (jA 0 (m::ns)))(q:∀d us,aV us (m::ns)->D 0 (.ref d) (g.v3 l zs++[(d,.ls us)])):DE b e (bK g) VU g.en P0 (g.v2 l tp tl zs xs) (k1 (JW++[.ls])) (iS D):=by have r:VV zs 0 (m::ns) [] xs 0 0:=⟨lu (ys:=[]) j,lu (ys:=[]) p,k,by rw [o];decide⟩;exact DE.run G [⟨_,_,c⟩,⟨_,_,f⟩] [⟨_,P4 (tl:=tl) G c m ns 0⟩] (oo 0x3cba9876524c1122762531713622141445 []) λ n=>c7 (E [n.1 2,n.1 0,l,n.1 1,tp,tl,g.3] 0x1622211543210) (@rfl aT (sH (Cp.mk (n.1 2) g.1 (n.1 0) (n.1 1) g.4 0 0))) (fj i:e.dp+1+80<900) (@rfl ae g.4) (@rfl ae tl) r (λ(v:aa)(a:List aa)(h:aV a (m::ns))(s:Nw)=>c2 (E [n.1 2] 0x1000) (w8 (q (n.ad 1) a h)))
theorem JZ(a:bN b g.cc (iF (ab (.ref l)))):DE b e (bK g) (xE VS 1) g.en [] [] (k1 []) (eM (.ref l) []):=by exact DE.run G [⟨_,_,a⟩] [] (oo 0x113 []) λ n=>c2 (E [g.3] 0x10) (iG (.ref l) [])
theorem FC{e:Ev}{K:Kv}(o:bN b g.cc (iF (ab (.ref l))))(f:e.dp+330<900)(p:e.un+130<9900)(j:aV zs ns)(q:ns.length=11)(r:∀s u v w rw a k1 D,oX b.w rw a k1 D->K 0 (.ok .next) ([s,u,v,w]++[(l,.ls zs),(100,.fr (eE a k1))]++g.v4 rw) D):DS b e (bK g) (cj 1 (aC 3 (aP 23))) g.en JW (g.v3 l zs) (k1 ([.ob,.ob,.ob,.tp,.ls,.tb]++JX)) K:=by have d:mJ zs:=⟨j.len.trans q,λ i hi=>(j.bE (k:=i) (n:=ns[i]) ((dH _ _).trans (aJ _))).elim λ t h=>⟨_,t,h⟩⟩;exact DS.run G [⟨_,_,o⟩] [⟨_,S8 G⟩] (oo 0xfbf217e7e2124221212124221212124221212212122293141312112131 []) λ n=>c7 (jf f:e.dp+1<1000) (E [n.1 0,l,100,g.3] 0x1300210) (@rfl aT (eN (Cp.mk (n.1 0) (n.1 0) 0 0 0 0 0))) (fj f:e.dp+1+310<900) ((by exact li 0x126ac4078203103113126ac40822031111 [e.2] rfl p):e.un+3+120<9900) d (λ(t:ae)(rw:ae)(a:ae)(k1:ae)(D:Cells)(h:oX b.w rw a k1 D)(c:Nw)=>c2 (E [g.1,c.1 2,c.1 0,t] 0x13333222223222222322222232210000) (r _ _ _ _ rw a k1 D h:K 0 (fy j8) [(c.ad 2,Dv.ob (s6 (dZ "StopIteration") az (k6 (bY [ao (c.ad 1),fi,fi,fi,d3 af,fi])) (bY []))),(c.ad 1,Dv.ob (s6 (dZ "tuple") az (Data.seq (bY [])) (bY []))),(c.ad 0,Dv.ob (s6 (dZ "tuple_iterator") az (k6 (bY [fi,ak 2 0])) (bY []))),(t,Dv.ls [ao rw,d3 ah]),(l,Dv.ls zs),(100,Dv.fr [ak 97 0,ak 10 0,ao a,ak 105 0,ak 19 0,ao k1]),(g.L,Dv.fr [ao rw,d3 ah]),(g.cg,Dv.cl az),(g.ce,Dv.cl az),(g.ca,Dv.cl az),(g.cb,Dv.cl az),(g.ck,Dv.cl az),(136,Dv.fr []),(141,Dv.fr [])] D))
omit G in theorem sI{e:Ev}(a:e.un+130<9900):(e.ar.under (bK g)).units<9900:=by show e.un+(bK g).cUnits<9900;rw [FA];exact li 0x126ac40310313126ac40822031111 [e.2] rfl a
omit G in theorem XX{e:Ev}{K:Kv}(G:Good b)(h:e.dp+330<900)(i:e.un+130<9900)(d:bN b g.cc (iF (ab (.ref l))))(j:bN b g.ct (iF (ab (.ref tp))))(f:aV zs (m::ns))(k:PR (m::ns))(n:(m::ns).length=11)(o:aV xs (jA 0 (m::ns)))(p:∀a,Good a->Ext b a->DS a e (bK g) (aC 3 (aP 23)) g.en JW (g.v3 l zs) (k1 []) (l3 K)):DS b e (bK g) (aC 2 (aP 23)) g.en P0 (g.v2 l tp tl zs xs) (k1 []) (l3 K):=DS.text JV (DS.VR (DT.yn (by kernel_rfl) (JY G d j (by exact li 0x138430642031313843014a3031111 [e.1] rfl h) f k n o λ q us r=>(DE.look G λ a c X H t=>JZ c (d.ext X)).iG ⟨af,λ H s R=>rH (R.own _ (b7 10 rfl:(q,lO us (H 10).e)∈_)) (R.own _ (b7 1 rfl:(l,lO zs (H 1).e)∈_)) (sI i) (iT.ints r f),rfl,rfl,DS.keep G (λ H=>⟨H,.refl _⟩) λ a H c X t=>p a c X⟩)))
end
noncomputable def Tr.V(t:Tr):Int:=Tr.worth (λ x=>x.n) t
mutual noncomputable def Tr.nodes:Tr->List Tr|.mk x ks=>.mk x ks::Tr.p' ks noncomputable def Tr.p':List Tr->List Tr|[]=>[]|t::ts=>Tr.nodes t++Tr.p' ts end
theorem dm(t:Tr):t∈t.nodes:=by cases t;rw [Tr.nodes];exact .head _
theorem um(h:u∈Tr.p' ts):∃k∈ts,u∈k.nodes:=by induction ts with|nil=>cases h|cons a ts b=>exact(aO.mp h).elim (λ h=>⟨a,.head _,h⟩) λ h=>(b h).elim λ k h=>⟨k,.tail _ h.1,h.2⟩
theorem oa(h:t∈ts)(a:u∈t.nodes):u∈Tr.p' ts:=by induction h with|head _=>exact aI _ a|tail _ _ b=>exact aq _ b
theorem gg(h:t∈ks)(a:u∈t.nodes):u∈(Tr.mk x ks).nodes:=by rw [Tr.nodes];exact .tail _ (oa h a)
theorem vh{b:Type}{p:b->Prop}{a:b}{l:List b}:(∃x∈a::l,p x)↔p a\/∃x∈l,p x:=by simp
theorem vi{m:Int}:∀(l:List Int)(a:Int),m<=l.foldl max a↔m<=a\/∃y∈l,m<=y:=by
 intro l
 induction l with
  |nil=>intro a;simp
  |cons b l c=>
   intro a;rw [tf,c,vh];constructor
   .rintro(h|h)
    .by_cases h1:m<=a;.exact .inl h1
     .exact .inr (.inl (by lia))
    .exact .inr (.inr h)
   .rintro(h|h|h);.exact .inl (bk h (j0 a b))
    .exact .inl (bk h (jx a b))
    .exact .inr h
theorem vj:∀(l:List Int)(a:Int),m<=l.foldl min a↔m<=a/\∀y∈l,m<=y:=by
 intro l
 induction l with
  |nil=>intro a;simp
  |cons b l c=>
   intro a;rw [tf,c,dJ];constructor;.rintro⟨h,d⟩;exact⟨by exact bk h (iP a b),by exact bk h (iq a b),d⟩
   .rintro⟨h,f,e⟩;exact⟨by lia,e⟩
theorem ig{f:El->Int}:m<=Tr.worth f (.mk x (k::ks))↔if x.most then∃t∈k::ks,m<=Tr.worth f t else∀t∈k::ks,m<=Tr.worth f t:=by
 have e:Tr.worth f (.mk x (k::ks))=if x.most then(ks.map (Tr.worth f)).foldl max (Tr.worth f k)else(ks.map (Tr.worth f)).foldl min (Tr.worth f k):=by show(if x.most then(Tr.pP f ks).foldl max _ else(Tr.pP f ks).foldl min _)=_;rw [ue]
 rw [e];split;.rw [vi,vh];refine or_congr Iff.rfl ⟨λ y=>y.elim λ y y=>y.elim λ b h=>?_,λ y=>y.elim λ t y=>y.elim λ a h=>⟨_,aK a,h⟩⟩;obtain⟨t,a,rfl⟩:=ba.mp b;exact⟨t,a,h⟩
 .rw [vj,dJ];simp
theorem gL(t:Tr):(∀u∈t.nodes,u.kids=[]->m<=f u.x->m<=g u.x)->m<=Tr.worth f t->m<=Tr.worth g t:=by
 induction t using Tr.oN with
  |h x ks e=>
   intro h a
   induction ks with
    |nil=>exact h _ (dm _) rfl a
    |cons k ks=>
     have d:∀t∈k::ks,m<=Tr.worth f t->m<=Tr.worth g t:=λ t b=>e t b λ u i=>h u (gg b i);rw [ig]at a⊢;split at a;.rename_i c;rw [if_pos c];exact a.elim λ t y=>⟨t,y.1,d t y.1 y.2⟩
     .rename_i c;rw [if_neg c];exact λ t b=>d t b (a t b)
theorem qc(t:Tr)(h:∀u∈t.nodes,m<=f u.x->m<=g u.x):m<=Tr.worth f t->m<=Tr.worth g t:=gL t λ u a b=>h u a
structure Inv(W:aR->Int)(s:TS):Prop where
 kn:∀k v,s.known k=ab v->v=W k
 sh:∀k v,s.shown k=ab v->v<=W k
noncomputable def vk(W:aR->Int)(t:Tr):Prop:=∀u∈t.nodes,W u.x.tag=u.V
theorem vk.i4(h:vk W (.mk x ks))(a:t∈ks):vk W t:=λ u b=>h u (gg a b)
theorem iU:put f k v k=ab v:=if_pos rfl
theorem lJ(h:¬x=k):put f k v x=f x:=if_neg h
theorem Inv.putK(h:Inv W s)(b:v=W k):Inv W ⟨put s.known k v,s.shown,l⟩:=by
 refine⟨λ x y a=>?_,h.sh⟩;by_cases hx:x=k;.subst hx;have:put s.known x v x=ab y:=a;rw [iU]at this;cases this;exact b
 .have:put s.known k v x=ab y:=a;rw [lJ hx]at this;exact h.kn x y this
theorem Inv.J0(h:Inv W s)(b:v<=W k):Inv W {s with shown:=put s.shown k v}:=by
 refine⟨h.kn,λ x y a=>?_⟩;by_cases hx:x=k;.subst hx;have:put s.shown x v x=ab y:=a;rw [iU]at this;cases this;exact b
 .have:put s.shown k v x=ab y:=a;rw [lJ hx]at this;exact h.sh x y this
theorem FD(b:∀k v,f k=ab v->f' k=ab v)(h:∀o,Tr.worth (eV f o) t<m):∀o,Tr.worth (eV f' o) t<m:=by
 intro o;by_cases hc:Tr.worth (eV f' o) t<m;.exact hc
 .exfalso;have c:=qc (g:=eV f (max o m)) t (λ u i a=>by unfold eV at a⊢;induction e:f u.x.tag with|none=>show m<=max o m;exact(jx o m)|some v=>rw [b _ _ e]at a;exact a) ((b_.mp hc));have d:=h (max o m);exact lj 0x167112076112 [] [m,Tr.worth (eV f (max o m)) t] rfl c d
structure Aa(W:aR->Int)(m:Int)(t:Tr)(s:TS)(b:Bool)(s':TS):Prop where
 ex:b=ah↔m<=t.V
 inv:Inv W s'
 gr:∀k v,s.known k=ab v->s'.known k=ab v
 low:b=af->∀o,Tr.worth (eV s'.known o) t<m
 sh:b=ah->∃v,s'.shown t.x.tag=ab v/\m<=v
 out:∀k,k∉t.tags->s'.known k=s.known k/\s'.shown k=s.shown k
 FE:∃ls,s'.seen=s.seen++ls/\(∀k∈ls,s.known k=az/\s'.known k≠az/\k∈t.tags)/\ls.Nodup/\∀lo hi,lo<m->m<=hi->∀k∈ls,k∈(Tr.fX t lo hi).2
structure Ab(W:aR->Int)(m:Int)(ts:List Tr)(s s':TS):Prop where
 inv:Inv W s'
 gr:∀k v,s.known k=ab v->s'.known k=ab v
 out:∀k,k∉Tr.gx ts->s'.known k=s.known k/\s'.shown k=s.shown k
theorem Aa.same(d:Inv W s)(e:b=ah↔m<=t.V)(c:b=af->∀o,Tr.worth (eV s.known o) t<m)(sh:b=ah->∃v,s.shown t.x.tag=ab v/\m<=v):Aa W m t s b s:=⟨e,d,λ a a h=>h,c,sh,λ a a=>⟨rfl,rfl⟩,[],by simp,λ a h=>(absurd h ax),.nil,λ a a a a a h=>(absurd h ax)⟩
theorem gN:Tr.gx (t::ts)=t.tags++Tr.gx ts:=by rw [Tr.gx]
theorem gY:(Tr.mk x ks).tags=x.tag::Tr.gx ks:=by rw [Tr.tags]
theorem oe:(Tr.mk x []).V=x.n:=iB
structure MF(t:Tr)(lo hi:Int):Prop where
 clip:∀c,lo<c->c<=hi->(c<=(Tr.fX t lo hi).1↔c<=t.V)
structure FF(most:Bool)(ts:List Tr)(lo hi:Int):Prop where
 l0:lo<=(Tr.d4 most ts lo hi).1
 h0:(Tr.d4 most ts lo hi).2.1<=hi
 mx:most=ah->(Tr.d4 most ts lo hi).2.1=hi/\∀c,lo<c->c<=hi->(c<=(Tr.d4 most ts lo hi).1↔∃t∈ts,c<=t.V)
 mn:most=af->(Tr.d4 most ts lo hi).1=lo/\∀c,lo<c->c<=hi->(c<=(Tr.d4 most ts lo hi).2.1↔∀t∈ts,c<=t.V)
theorem og{most:Bool}{ts:List Tr}{a hi:Int}:FF most ts a hi↔(a<=(Tr.d4 most ts a hi).1/\(Tr.d4 most ts a hi).2.1<=hi/\(most=ah->(Tr.d4 most ts a hi).2.1=hi/\∀c,a<c->c<=hi->(c<=(Tr.d4 most ts a hi).1↔∃t∈ts,c<=t.V))/\(most=af->(Tr.d4 most ts a hi).1=a/\∀c,a<c->c<=hi->(c<=(Tr.d4 most ts a hi).2.1↔∀t∈ts,c<=t.V))):=⟨λ h=>⟨h.l0,h.h0,h.mx,h.mn⟩,λ h=>⟨h.1,h.2.1,h.2.2.1,h.2.2.2⟩⟩
theorem Bk{most:Bool}{ts:List Tr}{a hi:Int}(h:¬a<hi):Tr.d4 most ts a hi=(a,hi,[]):=by induction ts with|nil=>rfl|cons t ts b=>exact(rG h).trans b
theorem J1{ts:List Tr}(k:∀t∈ts,∀a hi:Int,a<hi->MF t a hi):∀(most:Bool)(a hi:Int),FF most ts a hi:=by
 induction ts with
  |nil=>
   intro most a hi;have e:Tr.d4 most [] a hi=(a,hi,[]):=wR;refine⟨by rw [e];exact aN _,by rw [e];exact aN _,λ g=>⟨by rw [e],λ c b d=>?_⟩,λ g=>⟨by rw [e],λ c b d=>?_⟩⟩
   .rw [e];constructor;.intro h;have h:c<=a:=h;exact(lj 0x67112176112 [] [a,c] rfl b h).elim
    .rintro⟨_,h,_⟩;cases h
   .rw [e];exact⟨λ g g h=>(absurd h ax),λ g=>d⟩
  |cons t ts i=>
   intro most a hi;have i:=i λ t j=>k t (.tail _ j);by_cases h:a<hi
   .have j:=k t (.head _) a hi h
    induction most with
     |true=>
      have f:=i ah (max a (Tr.fX t a hi).1) hi;rw [og,p3 h];refine⟨?_,f.h0,λ g=>⟨(f.mx rfl).1,λ c b d=>?_⟩,λ e=>(by injection e)⟩;.have:=f.l0;show a<=(Tr.d4 ah ts (max a (Tr.fX t a hi).1) hi).1;exact bk (j0 a (t.fX a hi).fst) this
      .show c<=(Tr.d4 ah ts (max a (Tr.fX t a hi).1) hi).1↔_;rw [vh,<-j.clip c b d];by_cases h3:c<=(Tr.fX t a hi).1;.have:=f.l0;exact⟨λ g=>.inl h3,λ g=>by exact lj 0x964087112098112076112 [] [c,(t.fX a hi).1,max a (t.fX a hi).fst,(Tr.d4 ah ts (max a (t.fX a hi).fst) hi).1] rfl h3 this (jx a (t.fX a hi).fst)⟩
       .rw [(f.mx rfl).2 c (by lia) d];exact⟨.inr,λ h=>h.resolve_left h3⟩
     |false=>
      have f:=i af a (min hi (Tr.fX t a hi).1);rw [og,p4 h];refine⟨f.l0,?_,λ e=>(by injection e),λ g=>⟨(f.mn rfl).1,λ c b d=>?_⟩⟩;.have:=f.h0;show(Tr.d4 af ts a (min hi (Tr.fX t a hi).1)).2.1<=hi;exact bk this (iP hi (t.fX a hi).fst)
      .show c<=(Tr.d4 af ts a (min hi (Tr.fX t a hi).1)).2.1↔_;rw [dJ,<-j.clip c b d];by_cases h3:c<=(Tr.fX t a hi).1;.rw [(f.mn rfl).2 c b (by lia)];exact⟨λ h=>⟨h3,h⟩,λ h=>h.2⟩
       .have:=f.h0;exact⟨λ h=>by exact⟨lj 0x984097112068112076112 [] [(Tr.d4 af ts a (min hi (t.fX a hi).fst)).snd.1,min hi (t.fX a hi).fst,c,(t.fX a hi).1] rfl this h (iq hi (t.fX a hi).fst),(lj 0x69112087112098112176112 [] [(t.fX a hi).1,c,(Tr.d4 af ts a (min hi (t.fX a hi).fst)).snd.1,min hi (t.fX a hi).fst] rfl (eW.mp h3) this h (iq hi (t.fX a hi).fst)).elim⟩,λ h=>absurd h.1 h3⟩
   .rw [og,Bk h];refine⟨aN _,aN _,λ g=>⟨rfl,λ c b d=>?_⟩,λ g=>⟨rfl,λ c b d=>?_⟩⟩;.exact(lj 0x68112187112076112 [] [hi,a,c] rfl (b_.mp h) b d).elim
    .exact(lj 0x68112187112076112 [] [hi,a,c] rfl (b_.mp h) b d).elim
theorem yq(t:Tr):∀(a hi:Int),a<hi->MF t a hi:=by induction t using Tr.oN with|h x ks g=>intro a hi h;induction ks with|nil=>exact⟨λ c i i=>Iff.rfl⟩|cons k ks=>refine⟨λ c d e=>?_⟩;rw [o5];have b:=J1 g x.most a hi;unfold Tr.V;rw [ig];induction f:x.most with|true=>rw [f]at b;rw [if_pos rfl,if_pos rfl];exact(b.mx rfl).2 c d e|false=>rw [f]at b;rw [if_neg (by decide),if_neg (by decide)];exact(b.mn rfl).2 c d e
set_option tactic.hygienic true in theorem qd(a:vk W t)(b:Inv W s)(h:m<=t.V):m<=Tr.worth (eV s.known m) t:=by
 refine gL t (λ u c d f=>?_) h;unfold eV
 induction e:s.known u.x.tag with
  |none=>exact aN m
  |some v=>
   show m<=v;rw [b.kn _ _ e,a u c];have:u=.mk u.x []:=by cases u;rename_i x ks;have:ks=[]:=d;rw [this];rfl
   rw [this,oe];exact f
structure Looks(W:aR->Int)(m:Int)(T:List aR)(s s':TS)(seen:Int->Int->List aR)(ls:List aR):Prop where
 eq:s'.seen=s.seen++ls
 kn:∀k∈ls,s.known k=az/\s'.known k≠az/\k∈T
 nd:ls.Nodup
 B5:∀lo hi,lo<m->m<=hi->∀k∈ls,k∈seen lo hi
noncomputable def ZY(W:aR->Int)(m:Int)(t:Tr):Prop:=∀s:TS,vk W t->Inv W s->Aa W m t s (Tr.test m t s).1 (Tr.test m t s).2
theorem uo(Q:0<=m)(J:∀t∈ts,ZY W m t):∀(s:TS),(∀t∈ts,vk W t)->Inv W s->Ab W m ts s (Tr.tests m ah ts af s).2/\((Tr.tests m ah ts af s).1=ah↔∃t∈ts,m<=t.V)/\((Tr.tests m ah ts af s).1=af->∀t∈ts,∀o,Tr.worth (eV (Tr.tests m ah ts af s).2.known o) t<m)/\∃ls,Looks W m (Tr.gx ts) s (Tr.tests m ah ts af s).2 (λ p hi=>(Tr.d4 ah ts p hi).2.2) ls:=by
 induction ts with
  |nil=>intro s C D;have e:Tr.tests m ah [] af s=(af,s):=rfl;rw [e];exact⟨⟨D,λ d d h=>h,λ d d=>⟨rfl,rfl⟩⟩,⟨λ e=>(by injection e),λ y=>y.elim λ d y=>y.elim λ h d=>(absurd h ax)⟩,λ d d h=>(absurd h ax),[],by simp,λ d h=>(absurd h ax),.nil,λ d d d d d h=>(absurd h ax)⟩
  |cons t ts F=>
   intro s C D;have F:=F λ t f=>J t (.tail _ f);rw [jR (by decide)];have f:=J t (.head _) s (C t (.head _)) D;generalize Tr.test m t s=r at f;obtain⟨b,G⟩:=r;dsimp only at f⊢;obtain⟨z,K,k1,L,M⟩:=f.FE;have H:=yq t
   induction b with
    |true=>
     rw [lD];refine⟨⟨f.inv,f.gr,λ y c=>f.out y λ h=>c (by rw [gN];exact aI _ h)⟩,⟨λ d=>⟨t,.head _,f.ex.mp rfl⟩,λ d=>rfl⟩,λ e=>(by injection e),z,K,λ y c=>?_,L,λ p hi n i y c=>?_⟩;.obtain⟨w,A,B⟩:=k1 y c;exact⟨w,A,by rw [gN];exact aI _ B⟩
     .rw [p3 (dK n i)];exact aI _ (M p hi n i y c)
    |false=>
     have N:¬m<=t.V:=λ h=>by have:=f.ex.mpr h;cases this
     obtain⟨q,x,j,I,g⟩:=F G (λ u l=>C u (.tail _ l)) f.inv;generalize Tr.tests m ah ts af G=r2 at q x j g⊢;obtain⟨R,S⟩:=r2;dsimp only at q x j g⊢;refine⟨⟨q.inv,λ k v h=>q.gr k v (f.gr k v h),λ y c=>?_⟩,⟨λ h=>?_,λ h=>x.mpr ?_⟩,λ e u l o=>?_,z++I,?_,λ y c=>?_,?_,λ p hi n i y c=>?_⟩;.rw [gN]at c;have n:=f.out y λ h=>c (aI _ h);have i:=q.out y λ h=>c (aq _ h);exact⟨i.1.trans n.1,i.2.trans n.2⟩
     .obtain⟨u,l,h⟩:=x.mp h;exact⟨u,.tail _ l,h⟩
     .obtain⟨u,l,h⟩:=h;rcases aF.mp l with e|l;.rw [e]at h;exact absurd h N
      .exact⟨u,l,h⟩
     .rcases aF.mp l with O|l;.rw [O];exact FD q.gr (f.low rfl) o
      .exact j e u l o
     .rw [g.eq,K,bb]
     .rw [gN];rcases aO.mp c with c|c;.obtain⟨w,A,B⟩:=k1 y c;refine⟨w,?_,aI _ B⟩;induction e:G.known y with|none=>exact absurd e A|some v=>rw [q.gr y v e];exact λ h=>(by injection h)
      .obtain⟨w,A,B⟩:=g.kn y c;refine⟨?_,A,aq _ B⟩;induction e:s.known y with|none=>rfl|some v=>rw [f.gr y v e]at w;cases w
     .refine bH.mpr ⟨L,g.nd,λ a P b x e=>?_⟩;subst e;exact(k1 a P).2.1 (g.kn a x).1
     .rw [p3 (dK n i)];rcases aO.mp c with c|c;.exact aI _ (M p hi n i y c)
      .refine aq _ (g.B5 _ hi ?_ i y c);have:=(H p hi (dK n i)).clip m n i;have:¬m<=(Tr.fX t p hi).1:=λ h=>N (this.mp h);lia
theorem uq(P:0<=m)(K:∀t∈ts,ZY W m t):∀(s:TS),(∀t∈ts,vk W t)->Inv W s->Ab W m ts s (Tr.tests m af ts ah s).2/\((Tr.tests m af ts ah s).1=ah↔∀t∈ts,m<=t.V)/\((Tr.tests m af ts ah s).1=af->∃t∈ts,∀o,Tr.worth (eV (Tr.tests m af ts ah s).2.known o) t<m)/\∃ls,Looks W m (Tr.gx ts) s (Tr.tests m af ts ah s).2 (λ p hi=>(Tr.d4 af ts p hi).2.2) ls:=by
 induction ts with
  |nil=>intro s D F;have e:Tr.tests m af [] ah s=(ah,s):=rfl;rw [e];exact⟨⟨F,λ g g h=>h,λ g g=>⟨rfl,rfl⟩⟩,⟨λ g g h=>(absurd h ax),λ g=>rfl⟩,λ e=>(by injection e),[],by simp,λ g h=>(absurd h ax),.nil,λ g g g g g h=>(absurd h ax)⟩
  |cons t ts G=>
   intro s D F;have G:=G λ t d=>K t (.tail _ d);rw [jR (by decide)];have d:=K t (.head _) s (D t (.head _)) F;generalize Tr.test m t s=r at d;obtain⟨b,H⟩:=r;dsimp only at d⊢;obtain⟨z,L,k1,M,N⟩:=d.FE;have I:=yq t
   induction b with
    |false=>
     rw [lD];have C:¬m<=t.V:=λ h=>by have:=d.ex.mpr h;cases this
     refine⟨⟨d.inv,d.gr,λ y c=>d.out y λ h=>c (by rw [gN];exact aI _ h)⟩,⟨λ e=>(by injection e),λ h=>absurd (h t (.head _)) C⟩,λ g=>⟨t,.head _,d.low rfl⟩,z,L,λ y c=>?_,M,λ p hi i l y c=>?_⟩;.obtain⟨q,A,B⟩:=k1 y c;exact⟨q,A,by rw [gN];exact aI _ B⟩
     .rw [p4 (dK i l)];exact aI _ (N p hi i l y c)
    |true=>
     have C:m<=t.V:=d.ex.mp rfl;obtain⟨w,x,j,J,f⟩:=G H (λ u n=>D u (.tail _ n)) d.inv;generalize Tr.tests m af ts ah H=r2 at w x j f⊢;obtain⟨Q,R⟩:=r2;dsimp only at w x j f⊢;refine⟨⟨w.inv,λ k v h=>w.gr k v (d.gr k v h),λ y c=>?_⟩,⟨λ h u n=>?_,λ h=>x.mpr λ u n=>h u (.tail _ n)⟩,λ e=>?_,z++J,?_,λ y c=>?_,?_,λ p hi i l y c=>?_⟩;.rw [gN]at c;have i:=d.out y λ h=>c (aI _ h);have l:=w.out y λ h=>c (aq _ h);exact⟨l.1.trans i.1,l.2.trans i.2⟩
     .rcases aF.mp n with e|n;.rw [e];exact C
      .exact x.mp h u n
     .obtain⟨u,n,h⟩:=j e;exact⟨u,.tail _ n,h⟩
     .rw [f.eq,L,bb]
     .rw [gN];rcases aO.mp c with c|c;.obtain⟨q,A,B⟩:=k1 y c;refine⟨q,?_,aI _ B⟩;induction e:H.known y with|none=>exact absurd e A|some v=>rw [w.gr y v e];exact λ h=>(by injection h)
      .obtain⟨q,A,B⟩:=f.kn y c;refine⟨?_,A,aq _ B⟩;induction e:s.known y with|none=>rfl|some v=>rw [d.gr y v e]at q;cases q
     .refine bH.mpr ⟨M,f.nd,λ a O b x e=>?_⟩;subst e;exact(k1 a O).2.1 (f.kn a x).1
     .rw [p4 (dK i l)];rcases aO.mp c with c|c;.exact aI _ (N p hi i l y c)
      .refine aq _ (f.B5 p _ i ?_ y c);have:=(I p hi (dK i l)).clip m i l;have:m<=(Tr.fX t p hi).1:=this.mpr C;lia
theorem o9(Q:0<=m)(t:Tr):∀s:TS,vk W t->Inv W s->Aa W m t s (Tr.test m t s).1 (Tr.test m t s).2:=by
 induction t using Tr.oN with
  |h x ks V=>
   intro s K D;by_cases p:m<=(s.shown x.tag).getD (-1);.rw [lE p];induction e:s.shown x.tag with|none=>rw [e]at p;have p:m<=-1:=p;exact(lj 0x110461120600112 [] [m] rfl Q p).elim|some v=>rw [e]at p;have p:m<=v:=p;have q:=D.sh _ _ e;have F:=K _ (dm _);have F:W x.tag=(Tr.mk x ks).V:=F;exact .same D ⟨λ c=>by exact lj 0x964298112087112076112 [] [m,v,W x.tag,(Tr.mk x ks).V] rfl p q F,λ c=>rfl⟩ (λ e=>(by injection e)) λ c=>⟨v,e,p⟩
   by_cases q:Tr.worth (eV s.known m) (.mk x ks)<m
   .rw [oZ p q]
    have d:∀o,Tr.worth (eV s.known o) (.mk x ks)<m:=by
     intro o;by_cases hc:Tr.worth (eV s.known o) (.mk x ks)<m;.exact hc
     .exfalso;have:=qc (g:=eV s.known m) (.mk x ks) (λ u c R=>by unfold eV at R⊢;induction e:s.known u.x.tag with|none=>exact aN m|some v=>rw [e]at R;exact R) ((b_.mp hc));exact lj 0x67112176112 [] [Tr.worth (eV s.known m) (Tr.mk x ks),m] rfl q this
    refine .same D ⟨λ e=>(by injection e),λ h=>?_⟩ (λ c=>d) λ e=>(by injection e);have:=qd K D h;exact(lj 0x67112176112 [] [Tr.worth (eV s.known m) (Tr.mk x ks),m] rfl q this).elim
   induction ks with
    |nil=>
     rw [kX p q];have G:W x.tag=x.n:=by have:=K _ (dm _);rw [oe]at this;exact this
     induction e:s.known x.tag with
      |some v=>
       have X:=D.kn _ _ e;rw [G]at X;subst X;dsimp only;by_cases Bl:m<=x.n;.rw [if_pos Bl];refine⟨⟨λ c=>by rw [oe];exact Bl,λ c=>rfl⟩,D.J0 (lj 0x784068112276112 [] [x.13,W x.tag,m] rfl G.symm Bl),λ c c h=>h,λ e=>(by injection e),λ c=>⟨m,iU,aN m⟩,λ k w=>⟨rfl,lJ λ e=>w (by rw [e,gY];exact .head _)⟩,[],by simp,λ c h=>(absurd h ax),.nil,λ c c c c c h=>(absurd h ax)⟩
       .rw [if_neg Bl];refine .same D ⟨λ e=>(by injection e),λ h=>?_⟩ (λ c o=>?_) λ e=>(by injection e);.rw [oe]at h;exact(lj 0x67112176112 [] [x.13,m] rfl (eW.mp Bl) h).elim
        .rw [iB];unfold eV;rw [e];show x.n<m;exact(eW.mp Bl)
      |none=>
       dsimp only
       have N:∀k v,s.known k=ab v->put s.known x.tag x.n k=ab v:=λ k v h=>by
        rw [lJ];.exact h
        .intro Y;rw [Y,e]at h;cases h
       have A:∀k,k∉(Tr.mk x []).tags->¬k=x.tag:=λ k w e=>w (by rw [e,gY];exact .head _);have O:∀k∈[x.tag],s.known k=az/\put s.known x.tag x.n k≠az/\k∈(Tr.mk x []).tags:=λ k w=>by rw [ay]at w;subst w;exact⟨e,by rw [iU];exact λ h=>(by injection h),by rw [gY];exact .head _⟩
       have f:∀z hi,z<m->m<=hi->∀k∈[x.tag],k∈(Tr.fX (.mk x []) z hi).2:=λ z hi c c k w=>by rw [wU];exact w
       have P:Inv W ⟨put s.known x.tag x.n,s.shown,s.seen++[x.tag]⟩:=D.putK G.symm;by_cases Bl:m<=x.n;.rw [if_pos Bl];refine⟨⟨λ c=>by rw [oe];exact Bl,λ c=>rfl⟩,P.J0 (lj 0x784068112276112 [] [x.13,W x.tag,m] rfl G.symm Bl),N,λ e=>(by injection e),λ c=>⟨m,iU,aN m⟩,λ k w=>⟨lJ (A k w),lJ (A k w)⟩,[x.tag],rfl,O,by simp,f⟩
       .rw [if_neg Bl];refine⟨⟨λ e=>(by injection e),λ h=>?_⟩,P,N,λ c o=>?_,λ e=>(by injection e),λ k w=>⟨lJ (A k w),rfl⟩,[x.tag],rfl,O,by simp,f⟩;.rw [oe]at h;exact(lj 0x67112176112 [] [x.13,m] rfl (eW.mp Bl) h).elim
        .rw [iB];unfold eV;dsimp only;rw [iU];show x.n<m;exact(eW.mp Bl)
    |cons k ks=>
     rw [jS p q];have B:W x.tag=(Tr.mk x (k::ks)).V:=K _ (dm _);have L:m<=(Tr.mk x (k::ks)).V↔if x.most then∃t∈k::ks,m<=t.V else∀t∈k::ks,m<=t.V:=ig;have l:∀y,y∉(Tr.mk x (k::ks)).tags->y∉Tr.gx (k::ks)/\¬y=x.tag:=λ y i=>by rw [gY]at i;exact⟨λ h=>i (.tail _ h),λ h=>i (by rw [h];exact .head _)⟩
     induction M:x.most with
      |true=>
       rw [M,if_pos rfl]at L;obtain⟨j,H,d,ls,a⟩:=uo Q V s (λ t I=>K.i4 I) D;simp only [Q9];generalize Tr.tests m ah (k::ks) af s=r at j H d a⊢;obtain⟨b,J⟩:=r;dsimp only at j H d a⊢;have f:∀z hi,z<m->m<=hi->∀y∈ls,y∈(Tr.fX (.mk x (k::ks)) z hi).2:=λ z hi q F y i=>by rw [o5,M];exact a.B5 z hi q F y i
       have n:∀y∈ls,s.known y=az/\J.known y≠az/\y∈(Tr.mk x (k::ks)).tags:=λ y i=>by obtain⟨S,T,U⟩:=a.kn y i;exact⟨S,T,by rw [gY];exact .tail _ U⟩
       induction b with
        |true=>rw [if_pos rfl];have C:m<=(Tr.mk x (k::ks)).V:=L.mpr (H.mp rfl);exact⟨⟨λ c=>C,λ c=>rfl⟩,j.inv.J0 (lj 0x784068112276112 [] [(Tr.mk x (k::ks)).V,W x.tag,m] rfl B.symm C),j.gr,λ e=>(by injection e),λ c=>⟨m,iU,aN m⟩,λ y i=>⟨(j.out y (l y i).1).1,(lJ (l y i).2).trans (j.out y (l y i).1).2⟩,ls,a.eq,n,a.nd,f⟩
        |false=>
         rw [if_neg (by decide)];refine⟨⟨λ e=>(by injection e),λ h=>H.mpr (L.mp h)⟩,j.inv,j.gr,λ c o=>?_,λ e=>(by injection e),λ y i=>j.out y (l y i).1,ls,a.eq,n,a.nd,f⟩;rcases rh (Tr.worth (eV J.known o) (.mk x (k::ks))) m with h|h;.exact h
         .rw [ig,M,if_pos rfl]at h;obtain⟨t,I,h⟩:=h;have:=d rfl t I o;exact(lj 0x167112076112 [] [m,Tr.worth (eV J.known o) t] rfl h this).elim
      |false=>
       rw [M,if_neg (by decide)]at L;obtain⟨j,H,d,ls,a⟩:=uq Q V s (λ t I=>K.i4 I) D;simp only [Np];generalize Tr.tests m af (k::ks) ah s=r at j H d a⊢;obtain⟨b,J⟩:=r;dsimp only at j H d a⊢;have f:∀z hi,z<m->m<=hi->∀y∈ls,y∈(Tr.fX (.mk x (k::ks)) z hi).2:=λ z hi q F y i=>by rw [o5,M];exact a.B5 z hi q F y i
       have n:∀y∈ls,s.known y=az/\J.known y≠az/\y∈(Tr.mk x (k::ks)).tags:=λ y i=>by obtain⟨S,T,U⟩:=a.kn y i;exact⟨S,T,by rw [gY];exact .tail _ U⟩
       induction b with
        |true=>rw [if_pos rfl];have C:m<=(Tr.mk x (k::ks)).V:=L.mpr (H.mp rfl);exact⟨⟨λ c=>C,λ c=>rfl⟩,j.inv.J0 (lj 0x784068112276112 [] [(Tr.mk x (k::ks)).V,W x.tag,m] rfl B.symm C),j.gr,λ e=>(by injection e),λ c=>⟨m,iU,aN m⟩,λ y i=>⟨(j.out y (l y i).1).1,(lJ (l y i).2).trans (j.out y (l y i).1).2⟩,ls,a.eq,n,a.nd,f⟩
        |false=>
         rw [if_neg (by decide)];refine⟨⟨λ e=>(by injection e),λ h=>H.mpr (L.mp h)⟩,j.inv,j.gr,λ c o=>?_,λ e=>(by injection e),λ y i=>j.out y (l y i).1,ls,a.eq,n,a.nd,f⟩;rcases rh (Tr.worth (eV J.known o) (.mk x (k::ks))) m with h|h;.exact h
         .rw [ig,M,if_neg (by decide)]at h;obtain⟨t,I,Z⟩:=d rfl;have q:=h t I;have F:=Z o;exact(lj 0x167112076112 [] [m,Tr.worth (eV J.known o) t] rfl q F).elim
theorem ur(a:0<=m)(ts:List Tr)(s:TS):(∀t∈ts,vk W t)->Inv W s->Ab W m ts s (Tr.tests m ah ts af s).2/\((Tr.tests m ah ts af s).1=ah↔∃t∈ts,m<=t.V)/\((Tr.tests m ah ts af s).1=af->∀t∈ts,∀o,Tr.worth (eV (Tr.tests m ah ts af s).2.known o) t<m)/\∃ls,Looks W m (Tr.gx ts) s (Tr.tests m ah ts af s).2 (λ b hi=>(Tr.d4 ah ts b hi).2.2) ls:=uo a (λ t c=>o9 a t) s
theorem qe(a:0<=m)(ts:List Tr)(s:TS):(∀t∈ts,vk W t)->Inv W s->Ab W m ts s (Tr.tests m af ts ah s).2/\((Tr.tests m af ts ah s).1=ah↔∀t∈ts,m<=t.V)/\((Tr.tests m af ts ah s).1=af->∃t∈ts,∀o,Tr.worth (eV (Tr.tests m af ts ah s).2.known o) t<m)/\∃ls,Looks W m (Tr.gx ts) s (Tr.tests m af ts ah s).2 (λ b hi=>(Tr.d4 af ts b hi).2.2) ls:=uq a (λ t c=>o9 a t) s
noncomputable def tg(t:Tr):List Nat:=t.x.tag.cps.toList
inductive cq:Tr->Prop|mk{x:El}{ks:List Tr}:(∀(i:Nat)k,ks[i]?=ab k->tg k=x.tag.cps.toList++[97+i])->(∀k∈ks,cq k)->cq (.mk x ks)
theorem cq.i4(h:cq (.mk x ks))(a:k∈ks):cq k:=match h with|.mk _ b=>b k a
theorem cq.tag(h:cq (.mk x ks))(a:ks[i]?=ab k):tg k=x.tag.cps.toList++[97+i]:=match h with|.mk b _=>b i k a
theorem FG:∀{a b:List Nat},a<b->¬a<+:b->∀y,a++y<b
 |[],b,_,h,y=>absurd List.nil_prefix h|x::a,[],h,_,_=>absurd h (List.not_lt_nil _)
 |x::a,z::b,h,c,y=>by
  rw [nj]at h;rw [fZ,nj];rcases h with h|⟨rfl,h⟩;.exact .inl h
  .exact .inr ⟨rfl,FG h (λ d=>c ((List.cons_prefix_cons).mpr ⟨rfl,d⟩)) y⟩
theorem vl{a y z:List Nat}(h:i<j):a++i::y<a++j::z:=List.append_left_lt (by rw [nj];exact .inl h)
theorem uu(a:List Nat):¬a<a:=List.lt_irrefl a
theorem FH{a b c:List Nat}(h:a<b)(d:b<c):a<c:=List.lt_trans h d
theorem o_{a b:List Nat}(h:a<b):¬b<a:=List.lt_asymm h
theorem P5(a b:List Nat):a<b\/a=b\/b<a:=by
 by_cases h:a<b;.exact .inl h
 .have h:b<=a:=h;rcases List.le_iff_lt_or_eq.mp h with h|h;.exact .inr (.inr h)
  .exact .inr (.inl h.symm)
theorem pb(h:i≠j):¬(a++[i])<+:(a++[j])++y:=by rintro⟨z,e⟩;rw [bb,bb,List.append_cancel_left_eq]at e;injection e with e _;exact h e
theorem jV(t:Tr):cq t->∀y∈t.tags,tg t<+:y.cps.toList:=by
 induction t using Tr.oN with
  |h x ks d=>
   intro h y b;rcases aF.mp b with rfl|b;.exact lX _
   .obtain⟨k,c,a⟩:=sC b;have a:=d k c (h.i4 c) y a;obtain⟨i,hi⟩:=aZ c;rw [h.tag hi]at a;exact(gm _ _).trans a
theorem qf(ts:List Tr)(h:∀t∈ts,cq t)(y:aR)(a:y∈Tr.gx ts):∃t∈ts,tg t<+:y.cps.toList:=(sC a).elim λ t q=>⟨t,q.1,jV t (h t q.1) y q.2⟩
theorem e4(t:Tr):t.x.tag∈t.tags:=by cases t;rw [gY];exact .head _
theorem jh(t:Tr):∀{u:Tr},u∈t.nodes->∀y∈u.tags,y∈t.tags:=by
 induction t using Tr.oN with
  |h x ks c=>
   intro u a y b;rcases aF.mp a with rfl|a;.exact b
   .exact(um a).elim λ k q=>.tail _ (iH q.1 (c k q.1 q.2 y b))
theorem pd(h:cq (.mk x ks)){i j:Nat}{t u:Tr}(hi:ks[i]?=ab t)(d:ks[j]?=ab u)(a:i≠j){y:aR}(g:y∈t.tags):y∉u.tags:=by intro b;have c:=jV t (h.i4 (aB hi)) y g;have f:=jV u (h.i4 (aB d)) y b;rw [h.tag hi]at c;rw [h.tag d]at f;obtain⟨z,k⟩:=f;rw [<-k]at c;exact pb (λ e=>a (a7 (li 0x4332461201361201111 [i,j] rfl e) (li 0x4332461201361201111 [j,i] rfl e.symm))) c
structure Sq where
 mu:Int
 t:Tr
 so:Bool
noncomputable def q3(p q:Sq):Prop:=q.mu<p.mu\/(p.mu=q.mu/\tg p.t<tg q.t)
noncomputable def vO(r:List Sq):Prop:=r.Pairwise q3
theorem q3.asymm{p q:Sq}(h:q3 p q):¬q3 q p:=by
 rintro(a|⟨b,a⟩)<;>rcases h with h|⟨e,h⟩;.lia
 .exact lj 0x267112176112 [] [p.1,q.1] rfl a e.symm
 .exact lj 0x167112276112 [] [p.1,q.1] rfl b.symm h
 .exact o_ h a
theorem kY(i:vO row)(b:row.Perm (q::C))(h:∀c∈C,q3 q c):∃r,row=q::r/\r.Perm C/\vO r/\∀c∈r,q3 q c:=by
 induction row with
  |nil=>exact absurd b.length_eq (by simp)
  |cons p r=>
   have a:=bA.mp i;by_cases XY:p=q;.subst XY;have g:=List.Perm.cons_inv b;exact⟨r,rfl,g,a.2,λ c j=>h c (g.mem_iff.mp j)⟩
   .exfalso
    have d:p∈C:=by
     rcases aF.mp (b.mem_iff.mp (.head _))with e|h;.exact absurd e XY
     .exact h
    have f:q∈r:=by
     rcases aF.mp (b.mem_iff.mpr (.head _))with e|h;.exact absurd e.symm XY
     .exact h
    exact q3.asymm (h p d) (a.1 q f)
theorem Bm{p:Sq}:∀{r:List Sq},vO r->(∀q∈r,q3 q p\/q3 p q)->∃d a,r=d++a/\(∀q∈d,q3 q p)/\∀q∈a,q3 p q:=by
 intro r
 induction r with
  |nil=>intro _ _;exact⟨[],[],rfl,λ k h=>(absurd h ax),λ k h=>(absurd h ax)⟩
  |cons q r l=>
   intro m h;have i:=bA.mp m;rcases h q (.head _)with b|b
   .obtain⟨d,a,rfl,f,n⟩:=l i.2 λ c g=>h c (.tail _ g);refine⟨q::d,a,rfl,λ c g=>?_,n⟩;rcases aF.mp g with rfl|g;.exact b
    .exact f c g
   .refine⟨[],q::r,rfl,λ k h=>(absurd h ax),λ c g=>?_⟩;rcases aF.mp g with rfl|g;.exact b
    .have f:=i.1 c g;unfold q3 at b f⊢;rcases b with b|⟨e,b⟩<;>rcases f with f|⟨j,f⟩;.left;exact yL f b
     .left;exact lj 0x1784268112176112 [] [q.1,p.1,c.1] rfl b j.symm
     .left;exact lj 0x1784168112276112 [] [q.1,p.1,c.1] rfl e.symm f
     .right;exact⟨by exact bg (lj 0x864287112276112 [] [p.1,q.1,c.1] rfl e j) (lj 0x784268112276112 [] [q.1,p.1,c.1] rfl e.symm j.symm),FH b f⟩
theorem J2(e:vO (pre++post))(f:∀q∈pre,q3 q p)(g:∀q∈post,q3 p q):vO (pre++p::post):=by
 obtain⟨h,i,j⟩:=dt.mp e;refine dt.mpr ⟨h,bA.mpr ⟨g,i⟩,λ a d b c=>?_⟩;rcases aF.mp c with rfl|c;.exact f a d
 .exact j a d b c
inductive Step(R:Tr):List Sq->List aR->List Sq->List aR->Prop|mx{m:Int}{x:El}{k:Tr}{ks:List Tr}{r:List Sq}{sn:List aR}:Tr.mk x (k::ks)∈R.nodes->x.most=ah->(∀q∈r,q.mu<=m)->Step R (⟨m,.mk x (k::ks),af⟩::r) sn ((k::ks).map (λ t=>⟨m,t,af⟩)++r) sn|mn{m:Int}{x:El}{k:Tr}{ks:List Tr}{r:List Sq}{sn:List aR}:Tr.mk x (k::ks)∈R.nodes->x.most=af->(∀q∈r,q.mu<=m)->Step R (⟨m,.mk x (k::ks),af⟩::r) sn (⟨m,k,af⟩::r) sn|lt{m:Int}{x:El}{r:List Sq}{sn:List aR}:Tr.mk x []∈R.nodes->m<=x.n->(∀q∈r,q.mu<=m)->Step R (⟨m,.mk x [],af⟩::r) sn (⟨m,.mk x [],ah⟩::r) (sn++[x.tag])|lf{m:Int}{x:El}{pre post:List Sq}{sn:List aR}:Tr.mk x []∈R.nodes->x.n<m->(∀q∈pre,q3 q ⟨x.n,.mk x [],ah⟩)->(∀q∈post,q3 ⟨x.n,.mk x [],ah⟩ q)->vO (pre++post)->(∀q∈pre++post,q.mu<=m)->Step R (⟨m,.mk x [],af⟩::(pre++post)) sn (pre++⟨x.n,.mk x [],ah⟩::post) (sn++[x.tag])|nx{m:Int}{x:El}{pre post:List Tr}{t k:Tr}{r:List Sq}{sn:List aR}:Tr.mk x (pre++t::k::post)∈R.nodes->x.most=af->(∀q∈r,q.mu<=m)->Step R (⟨m,t,ah⟩::r) sn (⟨m,k,af⟩::r) sn|up{m:Int}{x:El}{ks:List Tr}{t:Tr}{r:List Sq}{sn:List aR}:Tr.mk x ks∈R.nodes->t∈ks->(x.most=af->∃pre,ks=pre++[t])->(∀q∈r,q.mu<=m)->Step R (⟨m,t,ah⟩::r) sn (⟨m,.mk x ks,ah⟩::r.filter (λ q=>!(x.tag.cps.toList.isPrefixOf (tg q.t)))) sn
inductive g8(R:Tr):List Sq->List aR->List Sq->List aR->Prop|refl{r:List Sq}{sn:List aR}:g8 R r sn r sn|step{r r1 r2:List Sq}{s s1 s2:List aR}:Step R r s r1 s1->g8 R r1 s1 r2 s2->g8 R r s r2 s2
theorem g8.trans(h:g8 R r s r1 s1)(b:g8 R r1 s1 r2 s2):g8 R r s r2 s2:=by induction h with|refl=>exact b|step a _ c=>exact .step a (c b)
theorem g8.one(h:Step R r s r1 s1):g8 R r s r1 s1:=.step h .refl
noncomputable def kZ(s:TS)(t:Tr):Prop:=∀y∈t.tags,s.known y=az/\s.shown y=az
inductive Old(m:Int)(s:TS):Tr->List Sq->Prop|leaf{x:El}:s.known x.tag=ab x.n->s.shown x.tag=az->x.n<=m->Old m s (.mk x []) [⟨x.n,.mk x [],ah⟩]|max{x:El}{k:Tr}{ks:List Tr}{Ls:List (List Sq)}:x.most=ah->s.shown x.tag=az->Ls.length=(k::ks).length->(∀(i:Nat)t L,(k::ks)[i]?=ab t->Ls[i]?=ab L->Old m s t L)->Old m s (.mk x (k::ks)) Ls.flatten|min{x:El}{pre:List Tr}{k:Tr}{post:List Tr}{L:List Sq}:x.most=af->s.shown x.tag=az->(∀p∈pre,∃v,s.shown p.x.tag=ab v/\m<=v)->Old m s k L->(∀p∈post,kZ s p)->Old m s (.mk x (pre++k::post)) L
theorem Old.J3(h:Old m s t L):s.shown t.x.tag=az:=by induction h<;>assumption
theorem gO{a:List (List Sq)}{ts:List Tr}(d:a.length=ts.length){q:Sq}(b:q∈a.flatten):∃(i:Nat)(t:Tr)(L:List Sq),ts[i]?=ab t/\a[i]?=ab L/\q∈L:=by
 obtain⟨L,e,b⟩:=jn.mp b;obtain⟨i,hi⟩:=aZ e;have c:i<ts.length:=by rw [<-d];exact(bz.mp hi).1
 exact⟨i,ts[i],L,aJ c,hi,b⟩
theorem Old.mem{m:Int}{s:TS}(h:Old m s t L):cq t->∀q∈L,q.mu<=m/\tg t<+:tg q.t:=by
 induction h with
  |leaf n o g=>intro _ q c;rw [ay]at c;subst c;exact⟨g,lX _⟩|max n o g r j=>intro d q c;obtain⟨i,t,L,l,u,c⟩:=gO g c;obtain⟨a,b⟩:=j i t L l u (d.i4 (aB l)) q c;rw [d.tag l]at b;exact⟨a,(gm _ _).trans b⟩
  |@min x e k f L n o g r v j=>
   intro d q c;have p:(e++k::f)[e.length]?=ab k:=by simp
   obtain⟨a,b⟩:=j (d.i4 (aB p)) q c;rw [d.tag p]at b;exact⟨a,(gm _ _).trans b⟩
theorem kZ.frame(h:kZ s t)(b:∀y∈t.tags,s'.known y=s.known y/\s'.shown y=s.shown y):kZ s' t:=λ y a=>by rw [(b y a).1,(b y a).2];exact h y a
theorem Old.frame(h:Old m s t L):(∀y∈t.tags,s'.known y=s.known y/\s'.shown y=s.shown y)->Old m s' t L:=by induction h with|@leaf x d e f=>intro a;have:=a x.tag (e4 (.mk x []));exact .leaf (by rw [this.1];exact d) (by rw [this.2];exact e) f|@max x k ks v d e f q j=>intro a;exact .max d (by rw [(a x.tag (e4 (.mk x (k::ks)))).2];exact e) f λ i t L o r=>j i t L o r λ y l=>a y (by rw [gY];exact .tail _ (iH (aB o) l))|@min x n k g L d e f q u j=>intro a;have b:∀p∈n++k::g,∀y∈p.tags,s'.known y=s.known y/\s'.shown y=s.shown y:=λ p c y l=>a y (by rw [gY];exact .tail _ (iH c l));refine .min d (by rw [(a x.tag (e4 (.mk x _))).2];exact e) (λ p c=>?_) (j (b k (by simp))) λ p c=>(u p c).frame (b p (by simp [c]));rw [(b p (by simp [c]) p.x.tag (e4 p)).2];exact f p c
theorem Old.down(g:m'<=m)(h:Old m s t L):(∀q∈L,q.mu<=m')->Old m' s t L:=by induction h with|leaf a b c=>exact λ h=>.leaf a b (h _ (.head _))|max a b c j d=>exact λ h=>.max a b c λ i t L k f=>d i t L k f λ q l=>h q (jn.mpr ⟨L,aB f,l⟩)|min a b c j n d=>exact λ h=>.min a b (λ p o=>(c p o).elim λ v y=>y.elim λ e r=>⟨v,e,by exact bk g r⟩) (d h) n
theorem iI(t:Tr):kZ s t->Tr.worth (eV s.known o) t=o:=by
 induction t using Tr.oN with
  |h x ks e=>
   intro h
   induction ks with
    |nil=>rw [iB];unfold eV;rw [(h x.tag (e4 (.mk x []))).1];rfl
    |cons k ks=>
     have a:∀t∈k::ks,Tr.worth (eV s.known o) t=o:=λ t b=>e t b λ y f=>h y (by rw [gY];exact .tail _ (iH b f))
     have d:∀c,c<=Tr.worth (eV s.known o) (.mk x (k::ks))↔c<=o:=by
      intro c;rw [ig];split;.exact⟨λ y=>y.elim λ t y=>a t y.1▸y.2,λ h=>⟨k,.head _,(a k (.head _)).symm▸h⟩⟩
      .exact⟨λ h=>a k (.head _)▸h k (.head _),λ h t b=>(a t b).symm▸h⟩
     exact bg ((d _).mp (aN _)) ((d o).mpr (aN _))
theorem yr(b:vk W t)(c:Inv W s)(d:m<=o)(h:m<=t.V):m<=Tr.worth (eV s.known o) t:=qc t (λ u f a=>by unfold eV at a⊢;induction e:s.known u.x.tag with|none=>exact d|some v=>rw [e]at a;exact a) (qd b c h)
theorem Old.low{W:aR->Int}{m:Int}(z:Inv W s)(h:Old m s t L):vk W t->(Tr.worth (eV s.known m) t<m↔∀q∈L,q.mu<m):=by
 induction h with
  |@leaf x f A g=>intro _;rw [iB];unfold eV;rw [f];simp
  |@max x k ks B f A g D u=>
   intro d;rw [<-eW,ig,if_pos f];constructor
   .intro w q j;obtain⟨i,t,L,b,F,j⟩:=gO g j;have c:=aB b;refine(u i t L b F (d.i4 c)).mp ?_ q j;rcases rh (Tr.worth (eV s.known m) t) m with h|h;.exact h
    .exact absurd ⟨t,c,h⟩ w
   .rintro l⟨t,b,G⟩;obtain⟨i,hi⟩:=aZ b;have n:i<B.length:=by rw [g];exact(bz.mp hi).1
    have:=(u i t B[i] hi (aJ n) (d.i4 b)).mpr λ q j=>l q (jn.mpr ⟨_,ib n,j⟩);exact lj 0x167112076112 [] [m,Tr.worth (eV s.known m) t] rfl G this
  |@min x o k p L f A g D H u=>
   intro d;have e:∃a y,o++k::p=a::y:=by induction o with|nil=>exact⟨_,_,rfl⟩|cons a y=>exact⟨_,_,rfl⟩
   obtain⟨a,y,e⟩:=e;rw [<-u (d.i4 (by simp)),<-eW,<-eW];refine not_congr ?_;rw [e,ig,if_neg (by rw [f];decide),<-e];constructor;.exact λ h=>h k (by simp)
   .intro h t b;rcases aO.mp b with r|r;.obtain⟨v,I,J⟩:=g t r;have C:=z.sh _ _ I;rw [(d.i4 b) t (dm t)]at C;exact qd (d.i4 b) z (bk J C)
    .rcases aF.mp r with rfl|r;.exact h
     .rw [iI t (H t r)];exact aN m
theorem Old.top{W:aR->Int}{m o:Int}(H:Inv W s)(I:m<=o)(h:Old m s t L):vk W t->(∀q∈L,q.mu<m)->(∀q∈L,q.mu<=Tr.worth (eV s.known o) t)/\∃q∈L,q.mu=Tr.worth (eV s.known o) t:=by
 induction h with
  |@leaf x n J p=>intro _ _;rw [iB];unfold eV;rw [n];simp
  |@max x k ks D n J p M F=>
   intro r d;have f:∀c,c<=Tr.worth (eV s.known o) (.mk x (k::ks))↔∃t∈k::ks,c<=Tr.worth (eV s.known o) t:=λ c=>by rw [ig,if_pos n]
   have u:∀(i:Nat)t L,(k::ks)[i]?=ab t->D[i]?=ab L->(∀q∈L,q.mu<=Tr.worth (eV s.known o) t)/\∃q∈L,q.mu=Tr.worth (eV s.known o) t:=λ i t L j A=>F i t L j A (r.i4 (aB j)) λ q l=>d q (jn.mpr ⟨L,aB A,l⟩);refine⟨λ q l=>?_,?_⟩;.obtain⟨i,t,L,j,A,l⟩:=gO p l;exact(f _).mpr ⟨t,aB j,(u i t L j A).1 q l⟩
   .obtain⟨t,j,N⟩:=(f _).mp (aN _);obtain⟨i,hi⟩:=aZ j;have w:i<D.length:=by rw [p];exact(bz.mp hi).1
    obtain⟨q,l,e⟩:=(u i t D[i] hi (aJ w)).2;refine⟨q,jn.mpr ⟨_,ib w,l⟩,?_⟩;have:=(f q.mu).mpr ⟨t,j,by exact b0 e⟩;exact bg this (lj 0x864287112076112 [] [Tr.worth (eV s.known o) (Tr.mk x (k::ks)),Tr.worth (eV s.known o) t,q.1] rfl N e.symm)
  |@min x g k b L n J p M O F=>
   intro r d;have e:∃a G,g++k::b=a::G:=by induction g with|nil=>exact⟨_,_,rfl⟩|cons a G=>exact⟨_,_,rfl⟩
   obtain⟨a,G,e⟩:=e;obtain⟨P,q,l,B⟩:=F (r.i4 (by simp)) d;have y:=d q l;have f:∀c,c<=Tr.worth (eV s.known o) (.mk x (g++k::b))↔∀t∈g++k::b,c<=Tr.worth (eV s.known o) t:=λ c=>by rw [e,ig,if_neg (by rw [n];decide)]
   have C:=(f _).mp (aN _) k (by simp)
   have K:=(f (Tr.worth (eV s.known o) k)).mpr λ t j=>by
    rcases aO.mp j with z|z;.obtain⟨v,Q,R⟩:=p t z;have C:=H.sh _ _ Q;rw [(r.i4 j) t (dm t)]at C;have:=yr (r.i4 j) H I (bk R C);exact lj 0x964098112187112276112 [] [Tr.worth (eV s.known o) k,q.1,m,Tr.worth (eV s.known o) t] rfl B.symm y this
    .rcases aF.mp z with rfl|z;.exact aN _
     .rw [iI t (O t z)];exact lj 0x784169112298112076112 [] [m,o,Tr.worth (eV s.known o) k,q.1] rfl I B.symm y
   refine⟨λ q l=>?_,q,l,by exact bg (lj 0x864087112276112 [] [q.1,Tr.worth (eV s.known o) k,Tr.worth (eV s.known o) (Tr.mk x (g++k::b))] rfl B K) (lj 0x784068112276112 [] [Tr.worth (eV s.known o) k,q.1,Tr.worth (eV s.known o) (Tr.mk x (g++k::b))] rfl B.symm C)⟩;have:=P q l;exact bk this K
noncomputable def Ctx(m:Int)(t:Tr)(C:List Sq):Prop:=∀c∈C,c.mu<=m/\(c.mu=m->tg t<tg c.t)/\¬tg t<+:tg c.t
noncomputable def KS(m:Int)(s:TS)(t:Tr)(L:List Sq):Prop:=(L=[⟨m,t,af⟩]/\kZ s t)\/Old m s t L
theorem KS.mem(h:KS m s t L)(b:cq t):∀q∈L,q.mu<=m/\tg t<+:tg q.t:=by
 rcases h with⟨rfl,_⟩|h;.intro q a;rw [ay]at a;subst a;exact⟨aN _,lX _⟩
 .exact h.mem b
theorem KS.frame(h:KS m s t L)(a:∀y∈t.tags,s'.known y=s.known y/\s'.shown y=s.shown y):KS m s' t L:=by
 rcases h with⟨rfl,h⟩|h;.exact .inl ⟨rfl,h.frame a⟩
 .exact .inr (h.frame a)
theorem Ctx.lt{m:Int}{t:Tr}{C:List Sq}(h:Ctx m t C)(b:Bool):∀c∈C,q3 ⟨m,t,b⟩ c:=λ c a=>by
 obtain⟨f,d,_⟩:=h c a;by_cases e:c.mu=m;.exact .inr ⟨e.symm,d e⟩
 .exact .inl (by show c.mu<m;lia)
theorem Ctx.i4(h:Ctx m (.mk x ks) C)(d:cq (.mk x ks))(f:t∈ks):Ctx m t C:=λ c g=>by
 obtain⟨j,k,a⟩:=h c g;obtain⟨i,hi⟩:=aZ f;have e:=d.tag hi;refine⟨j,λ l=>?_,λ b=>a ?_⟩;.rw [e];exact FG (k l) a _
 .rw [e]at b;exact(gm x.tag.cps.toList [97+i]).trans b
theorem FI(R:Tr):∀{t u:Tr},t∈R.nodes->u∈t.nodes->u∈R.nodes:=by
 induction R using Tr.oN with
  |h x ks c=>
   intro t u a b;rcases aF.mp a with rfl|a;.exact b
   .exact(um a).elim λ k q=>.tail _ (oa q.1 (c k q.1 q.2 b))
theorem mQ{R t u:Tr}(a:t∈R.nodes)(b:u∈t.nodes):u∈R.nodes:=FI R a b
theorem iV{R:Tr}{x:El}(h:Tr.mk x ks∈R.nodes){t:Tr}(a:t∈ks):t∈R.nodes:=mQ h (gg a (dm t))
theorem Ac{m:Int}{x:El}{ks:List Tr}(a:cq (.mk x ks)){i j:Nat}{t u:Tr}(hi:ks[i]?=ab t)(d:ks[j]?=ab u){q:Sq}(f:q.mu<=m)(b:tg u<+:tg q.t)(h:i<j\/(i≠j/\q.mu<m)):q.mu<=m/\(q.mu=m->tg t<tg q.t)/\¬tg t<+:tg q.t:=by
 have g:i≠j:=by lia
 rw [a.tag hi];rw [a.tag d]at b;obtain⟨z,c⟩:=b;refine⟨f,λ e=>?_,?_⟩;.rw [<-c,bb];exact vl (by lia)
 .rw [<-c];exact pb (by lia)
theorem sJ{x:El}{J C:List Sq}{r:List Sq}(b:r.Perm (J++C))(d:∀j∈J,x.tag.cps.toList<+:tg j.t)(f:∀c∈C,¬x.tag.cps.toList<+:tg c.t):(r.filter (λ q=>!(x.tag.cps.toList.isPrefixOf (tg q.t)))).Perm C:=by
 have a:=b.filter (λ q:Sq=>!(x.tag.cps.toList.isPrefixOf (tg q.t)));rw [iQ]at a;have g:J.filter (λ q:Sq=>!(x.tag.cps.toList.isPrefixOf (tg q.t)))=[]:=by rw [xD];intro j h;rw [hH.mpr (d j h)];decide
 have i:C.filter (λ q:Sq=>!(x.tag.cps.toList.isPrefixOf (tg q.t)))=C:=by rw [BW];intro c k;induction e:x.tag.cps.toList.isPrefixOf (tg c.t)with|false=>rfl|true=>exact absurd (hH.mp e) (f c k)
 rw [g,i]at a;exact a
noncomputable def FJ(R:Tr)(m:Int)(t:Tr)(s:TS)(C c:List Sq)(b:Bool)(e:TS):Prop:=∃a,g8 R c s.seen a e.seen/\vO a/\(b=ah->a.Perm (⟨m,t,ah⟩::C))/\(b=af->∃d,Old m e t d/\(∀q∈d,q.mu<m)/\a.Perm (d++C))
noncomputable def XZ(R:Tr)(m:Int)(x:El)(ts:List Tr)(s:TS)(C d:List Sq)(b:Bool)(e:TS):Prop:=∃a,g8 R d s.seen a e.seen/\vO a/\(b=ah->∃t∈ts,∃J,a.Perm (⟨m,t,ah⟩::(J++C))/\(∀j∈J,j.mu<=m/\x.tag.cps.toList<+:tg j.t)/\∀j∈J++C,q3 ⟨m,t,ah⟩ j)/\(b=af->∃c:List (List Sq),c.length=ts.length/\(∀(i:Nat)t L,ts[i]?=ab t->c[i]?=ab L->Old m e t L)/\(∀q∈c.flatten,q.mu<m)/\a.Perm (c.flatten++C))
noncomputable def X0(R:Tr)(m:Int)(ts:List Tr)(s:TS)(C f:List Sq)(b:Bool)(e:TS):Prop:=∃a,g8 R f s.seen a e.seen/\vO a/\(b=ah->∃c u,ts=c++[u]/\a.Perm (⟨m,u,ah⟩::C))/\(b=af->∃c u d g,ts=c++u::d/\(∀p∈c,∃v,e.shown p.x.tag=ab v/\m<=v)/\Old m e u g/\(∀q∈g,q.mu<m)/\(∀p∈d,kZ e p)/\a.Perm (g++C))
theorem sL(b:cq (.mk x ks)):x.tag∉Tr.gx ks:=λ h=>by obtain⟨k,a,c⟩:=qf ks (λ k a=>b.i4 a) _ h;obtain⟨i,hi⟩:=aZ a;rw [b.tag hi]at c;have:=c.length_le;simp at this;exact li 0x311031111 [x.tag.cps.size] rfl this
noncomputable def Uj(W:aR->Int)(m:Int)(R t:Tr):Prop:=∀(s:TS)(L C a:List Sq),t∈R.nodes->cq t->vk W t->Inv W s->KS m s t L->Ctx m t C->vO a->a.Perm (L++C)->FJ R m t s C a (Tr.test m t s).1 (Tr.test m t s).2
theorem X1{W:aR->Int}{m:Int}(hm:0<=m){ts:List Tr}(ih:∀t∈ts,Uj W m R t):∀(v:List Tr)(x:El)(ks:List Tr),ks=v++ts->Tr.mk x ks∈R.nodes->cq (.mk x ks)->(∀t∈ts,vk W t)->∀(s:TS)(n:List (List Sq))(C f:List Sq),Inv W s->n.length=ts.length->(∀(i:Nat)t L,ts[i]?=ab t->n[i]?=ab L->KS m s t L)->(∀t∈ts,Ctx m t C)->vO f->f.Perm (n.flatten++C)->XZ R m x ts s C f (Tr.tests m ah ts af s).1 (Tr.tests m ah ts af s).2:=by
 induction ts with
  |nil=>intro v x ks w hR k U s n C f hI g hK hC hs hp;have e:Tr.tests m ah [] af s=(af,s):=rfl;rw [e];have:n=[]:=xt.mp g;subst this;exact⟨f,.refl,hs,λ e=>(by injection e),λ zz=>⟨[],rfl,λ i t L h=>by simp at h,λ q h=>by simp at h,hp⟩⟩
  |cons t ts IH=>
   intro v x ks w hR k U s n C f hI g hK hC hs hp;have IH:=IH λ t ht=>ih t (.tail _ ht)
   induction n with
    |nil=>simp at g
    |cons L n=>
     have g:n.length=ts.length:=by simpa using g
     have o:ks[v.length]?=ab t:=by rw [w];simp
     have l:∀(i:Nat)u,ts[i]?=ab u->ks[v.length+(i+1)]?=ab u:=λ i u h=>by rw [w,de (by exact li 0x110413133 [v.length,i] rfl)];simpa using h
     have D:t∈ks:=aB o;have hKt:=hK 0 t L rfl rfl;have K:=λ i u L h h'=>hK (i+1) u L h h'
     have V:Ctx m t (n.flatten++C):=λ c p=>by
      rcases aO.mp p with p|p;.obtain⟨i,u,L,d,H,B⟩:=gO g p;obtain⟨a,b⟩:=(K i u L d H).mem (k.i4 (aB (l i u d))) c B;exact Ac k o (l i u d) a b (.inl (li 0x1110413133 [v.length,i] rfl))
      .exact hC t (.head _) c p
     have hp':f.Perm (L++(n.flatten++C)):=by rw [k7,bb]at hp;exact hp
     obtain⟨I,F,X,M,N⟩:=ih t (.head _) s L (n.flatten++C) f (iV hR D) (k.i4 D) (U t (.head _)) hI hKt V hs hp';have Y:=o9 hm t s (U t (.head _)) hI;rw [jR (by decide)];generalize Tr.test m t s=r at F M N Y⊢;obtain⟨b,s1⟩:=r;dsimp only at F M N Y⊢
     induction b with
      |true=>rw [lD];refine⟨I,F,X,λ zz=>⟨t,.head _,n.flatten,M rfl,λ j O=>?_,V.lt ah⟩,λ e=>(by injection e)⟩;obtain⟨i,u,L,d,H,B⟩:=gO g O;obtain⟨a,b⟩:=(K i u L d H).mem (k.i4 (aB (l i u d))) j B;rw [k.tag (l i u d)]at b;exact⟨a,(gm _ _).trans b⟩
      |false=>
       obtain⟨L',hO,Z,MG⟩:=N rfl;have VW:=λ i u d y hy=>Y.out y (pd k (l i u d) o (λ q=>li 0x231104131111 [v.length,i] rfl q) hy);have X2:=MG.trans (t_ _ _ _);have A:=hO.mem (k.i4 D)
       obtain⟨P6,P,hs2,Q,S⟩:=IH (v++[t]) x ks (by rw [w,bb];rfl) hR k (λ u d=>U u (.tail _ d)) s1 n (L'++C) I Y.inv g (λ i u L d H=>(K i u L d H).frame (VW i u d)) (λ u d c p=>by
        obtain⟨i,hi⟩:=aZ d;rcases aO.mp p with p|p;.obtain⟨a,b⟩:=A c p;exact Ac k (l i u hi) o a b (.inr ⟨by exact λ q=>li 0x231104131111 [v.length,i] rfl q,Z c p⟩)
        .exact hC u (.tail _ d) c p) X X2;have T:=(ur hm ts s1 (λ u d=>U u (.tail _ d)) Y.inv).1;generalize Tr.tests m ah ts af s1=r2 at P Q S T⊢;obtain⟨b2,s2⟩:=r2;dsimp only at P Q S T⊢;refine⟨P6,F.trans P,hs2,λ e=>?_,λ e=>?_⟩
       .obtain⟨u,d,J,G,hJ,X3⟩:=Q e;refine⟨u,.tail _ d,J++L',by rw [bb];exact G,λ j O=>?_,by rw [bb];exact X3⟩;rcases aO.mp O with O|O;.exact hJ j O
        .obtain⟨a,b⟩:=A j O;rw [k.tag o]at b;exact⟨a,(gm _ _).trans b⟩
       .obtain⟨ZZ,g1,g2,g3,g4⟩:=S e;refine⟨L'::ZZ,by simp [g1],λ i u L d H=>?_,λ q B=>?_,?_⟩;.induction i with|zero=>cases d;cases H;refine hO.frame λ y hy=>T.out y λ h=>?_;obtain⟨u,d,G⟩:=qf ts (λ u d=>k.i4 (by rw [w];simp [d])) y h;obtain⟨i,hi⟩:=aZ d;have h1:=jV t (k.i4 D) y hy;rw [k.tag o]at h1;rw [k.tag (l i u hi)]at G;obtain⟨z,hz⟩:=G;rw [<-hz]at h1;exact pb (λ q=>li 0x2361201110413161201111 [v.length,i] rfl q.symm) h1|succ i=>exact g2 i u L d H
        .rw [k7]at B;rcases aO.mp B with B|B;.exact Z q B
         .exact g3 q B
        .rw [k7,bb];exact g4.trans (t_ _ _ _)
theorem X5(hm:0<=m){ts:List Tr}(ih:∀t∈ts,Uj W m R t):∀(A:List Tr)(x:El)(ks:List Tr),ks=A++ts->Tr.mk x ks∈R.nodes->x.most=af->cq (.mk x ks)->(∀t∈ts,vk W t)->∀(s:TS),Inv W s->∀(N:List Tr)(t:Tr)(rest:List Tr),ts=N++t::rest->(∀p∈N,∃v,s.shown p.x.tag=ab v/\m<=v)->(∀p∈rest,kZ s p)->∀(L C l:List Sq),KS m s t L->Ctx m (.mk x ks) C->vO l->l.Perm (L++C)->X0 R m ts s C l (Tr.tests m af ts ah s).1 (Tr.tests m af ts ah s).2:=by
 induction ts with
  |nil=>intro A x ks f hR hx o O s hI N t rest I _ _ _ _ _ _ _ _ _;simp at I
  |cons a ts IH=>
   intro A x ks f hR hx o O s hI N t rest I VX B L C l hK hC hs j;have IH:=IH λ t ht=>ih t (.tail _ ht);have P:ks[A.length]?=ab a:=by rw [f];simp
   have Z0:∀(i:Nat)u,ts[i]?=ab u->ks[A.length+(i+1)]?=ab u:=λ i u h=>by rw [f,de (by exact li 0x110413133 [A.length,i] rfl)];simpa using h
   have D:a∈ks:=aB P;have F:a.x.tag∉Tr.gx ts:=λ h=>by obtain⟨u,k,Z1⟩:=qf ts (λ u k=>o.i4 (by rw [f];simp [k])) _ h;obtain⟨i,hi⟩:=aZ k;have n:=jV a (o.i4 D) _ (e4 a);rw [o.tag P]at n;rw [o.tag (Z0 i u hi)]at Z1;obtain⟨z,hz⟩:=Z1;rw [<-hz]at n;exact pb (λ q=>li 0x2361201110413161201111 [A.length,i] rfl q.symm) n
   have J:ks=(A++[a])++ts:=by rw [f,bb];rfl
   rw [jR (by decide)]
   induction N with
    |cons d N=>
     injection I with e1 e2;subst e1;obtain⟨v,ev,hv⟩:=VX a (.head _);rw [lE (by rw [ev];exact hv)];dsimp only;obtain⟨P6,Q,S,ht2,hf2⟩:=IH (A++[a]) x ks J hR hx o (λ u k=>O u (.tail _ k)) s hI N t rest e2 (λ p j=>VX p (.tail _ j)) B L C l hK hC hs j;have K:=(qe hm ts s (λ u k=>O u (.tail _ k)) hI).1;refine⟨P6,Q,S,λ e=>?_,λ e=>?_⟩;.obtain⟨g,u,n,h2⟩:=ht2 e;exact⟨a::g,u,by rw [n];rfl,h2⟩
     .obtain⟨g,u,G,L',n,g1,g2⟩:=hf2 e;refine⟨a::g,u,G,L',by rw [n];rfl,λ p j=>?_,g2⟩;rcases aF.mp j with rfl|j;.exact⟨v,by rw [(K.out _ F).2];exact ev,hv⟩
      .exact g1 p j
    |nil=>
     injection I with e1 e2;subst e1 e2;obtain⟨M,H,T,U,V⟩:=ih a (.head _) s L C l (iV hR D) (o.i4 D) (O a (.head _)) hI hK (hC.i4 o D) hs j;have K:=o9 hm a s (O a (.head _)) hI;generalize Tr.test m a s=r at H U V K⊢;obtain⟨b,X⟩:=r;dsimp only at H U V K⊢;have Y:∀u∈ts,kZ X u:=λ u k=>by obtain⟨i,hi⟩:=aZ k;exact(B u k).frame λ y hy=>K.out y (pd o (Z0 i u hi) P (λ q=>li 0x231104131111 [A.length,i] rfl q) hy)
     induction b with
      |false=>rw [lD];obtain⟨L',n,h2,h3⟩:=V rfl;exact⟨M,H,T,λ e=>(by injection e),λ zz=>⟨[],a,ts,L',rfl,λ zz h=>(absurd h ax),n,h2,Y,h3⟩⟩
      |true=>
       have MG:=U rfl
       induction c:ts with
        |nil=>have e:Tr.tests m af [] ah X=(ah,X):=rfl;rw [e];exact⟨M,H,T,λ zz=>⟨[],a,rfl,MG⟩,λ e=>(by injection e)⟩
        |cons u Z=>
         rw [<-c];have hum:u∈ks:=by rw [f,c];simp
         obtain⟨r,rfl,hr,hsr,_⟩:=kY T MG ((hC.i4 o D).lt ah);have hle:∀q∈r,q.mu<=m:=λ q hq=>(hC q (hr.mem_iff.mp hq)).1;have Q:Step R (⟨m,a,ah⟩::r) X.seen (⟨m,u,af⟩::r) X.seen:=.nx (by rw [<-c,<-f];exact hR) hx hle;have S:vO (⟨m,u,af⟩::r):=bA.mpr ⟨λ q hq=>(hC.i4 o hum).lt af q (hr.mem_iff.mp hq),hsr⟩;have X2:(⟨m,u,af⟩::r).Perm ([⟨m,u,af⟩]++C):=hr.cons _;obtain⟨X6,st3,hs3,ht3,hf3⟩:=IH (A++[a]) x ks J hR hx o (λ u k=>O u (.tail _ k)) X K.inv [] u Z c (λ zz h=>(absurd h ax)) (λ p j=>Y p (by rw [c];exact .tail _ j)) [⟨m,u,af⟩] C _ (.inl ⟨rfl,Y u (by rw [c];exact .head _)⟩) hC S X2;have hX2:=(qe hm ts X (λ u k=>O u (.tail _ k)) K.inv).1;refine⟨X6,(H.trans (.one Q)).trans st3,hs3,λ e=>?_,λ e=>?_⟩;.obtain⟨g,w,n,h2⟩:=ht3 e;exact⟨a::g,w,by rw [n];rfl,h2⟩
         .obtain⟨g,w,G,L',n,g1,g2⟩:=hf3 e;refine⟨a::g,w,G,L',by rw [n];rfl,λ p j=>?_,g2⟩;rcases aF.mp j with rfl|j;.obtain⟨v,ev,hv⟩:=K.sh rfl;exact⟨v,by rw [(hX2.out _ F).2];exact ev,hv⟩
          .exact g1 p j
theorem sim{W:aR->Int}{m:Int}(hm:0<=m)(t:Tr):∀(s:TS)(L C n:List Sq),t∈R.nodes->cq t->vk W t->Inv W s->KS m s t L->Ctx m t C->vO n->n.Perm (L++C)->FJ R m t s C n (Tr.test m t s).1 (Tr.test m t s).2:=by
 induction t using Tr.oN with
  |h x ks ih=>
   intro s L C n hR V hW hI hK z hs X
   have Z:s.shown x.tag=az:=by
    rcases hK with⟨_,h⟩|h;.exact(h x.tag (e4 (.mk x ks))).2
    .exact h.J3
   have h0:¬m<=(s.shown x.tag).getD (-1):=by rw [Z];show¬m<=-1;exact λ q=>lj 0x110461120600112 [] [m] rfl hm q
   by_cases O:Tr.worth (eV s.known m) (.mk x ks)<m
   .rw [oZ (t:=.mk x ks) h0 O];rcases hK with⟨_,h⟩|h;.rw [iI _ h]at O;exact(lj 0x166112 [] [m] rfl O).elim
    .exact⟨n,.refl,hs,λ e=>(by injection e),λ Y=>⟨L,h,(h.low hI hW).mp O,X⟩⟩
   induction ks with
    |nil=>
     rw [kX h0 O];rcases hK with⟨rfl,h⟩|h
     .have hkn:=(h x.tag (e4 (.mk x []))).1;rw [hkn];dsimp only;obtain⟨r,rfl,A,f,Ms⟩:=kY hs X (z.lt af);have o:=λ q g=>(z q (A.mem_iff.mp g)).1;by_cases B:m<=x.n;.rw [if_pos B];exact⟨_,.one (.lt hR B o),bA.mpr ⟨λ q g=>z.lt ah q (A.mem_iff.mp g),f⟩,λ Y=>A.cons _,λ e=>(by injection e)⟩
      .rw [if_neg B]
       obtain⟨pre,post,rfl,h2,h3⟩:=Bm (p:=⟨x.n,.mk x [],ah⟩) f λ q g=>by
        obtain⟨G,g2,N⟩:=z q (A.mem_iff.mp g);rcases Int.lt_trichotomy q.mu x.n with h|h|h;.exact .inr (.inl h)
        .rcases P5 (tg q.t) (tg (.mk x []))with h'|h'|h';.exact .inl (.inr ⟨h,h'⟩)
         .exact absurd (h'▸lX _) N
         .exact .inr (.inr ⟨h.symm,h'⟩)
        .exact .inl (.inl h)
       refine⟨_,.one (.lf hR ((eW.mp B)) h2 h3 f o),J2 f h2 h3,λ e=>(by injection e),λ Y=>⟨[⟨x.n,.mk x [],ah⟩],.leaf iU Z (cp (eW.mp B)),λ q g=>?_,?_⟩⟩;.rw [ay]at g;subst g;show x.n<m;exact(eW.mp B)
       .exact(Hu).trans (A.cons _)
     .generalize H:([]:List Tr)=kk at h
      cases h with
       |leaf G g2 N=>
        rw [G];dsimp only;have B:m<=x.n:=by rw [iB]at O;unfold eV at O;rw [G]at O;have O:=O;exact(b_.mp O)
        have e:x.n=m:=by exact bg N B
        rw [if_pos B];refine⟨n,.refl,hs,λ Y=>?_,λ e=>(by injection e)⟩;rw [e]at X;exact X
       |max=>cases H|min=>simp at H
    |cons k ks=>
     rw [jS h0 O]
     induction hx:x.most with
      |true=>
       simp only [Q9]
       have D:∃Ls:List (List Sq),Ls.length=(k::ks).length/\(∀(i:Nat)t L,(k::ks)[i]?=ab t->Ls[i]?=ab L->KS m s t L)/\∃d,g8 R n s.seen d s.seen/\vO d/\d.Perm (Ls.flatten++C):=by
        rcases hK with⟨rfl,h⟩|h
        .refine⟨(k::ks).map λ t=>[⟨m,t,af⟩],by simp,λ i t L w hL=>?_,?_⟩;.rw [d9,w]at hL;cases hL;exact .inl ⟨rfl,λ y hy=>h y (by rw [gY];exact .tail _ (iH (aB w) hy))⟩
         .obtain⟨r,rfl,A,f,Ms⟩:=kY hs X (z.lt af);have o:=λ q g=>(z q (A.mem_iff.mp g)).1;have hfl:((k::ks).map λ t=>[(⟨m,t,af⟩:Sq)]).flatten=(k::ks).map λ t=>⟨m,t,af⟩:=by generalize k::ks=l;induction l with|nil=>rfl|cons a l ih=>rw [bu,k7,ih];rfl
          refine⟨_,.one (.mx hR hx o),dt.mpr ⟨?_,f,λ a ha b hb=>?_⟩,?_⟩;.rw [kO];intro i j hi hj X7;rw [lY,lY];refine .inr ⟨rfl,?_⟩;rw [aM]at hi hj;show tg ((k::ks)[i])<tg ((k::ks)[j]);rw [V.tag (aJ hi),V.tag (aJ hj)];exact vl (li 0x14612013612013143111 [i,j] rfl X7)
          .obtain⟨t,w,rfl⟩:=ba.mp ha;exact(z.i4 V w).lt af b (A.mem_iff.mp hb)
          .rw [hfl];exact A.append_left _
        .generalize H:k::ks=kk at h;cases h with|leaf=>cases H|max G g2 N g4=>injection H with e1 e2;subst e1 e2;exact⟨_,N,λ i t L w hL=>.inr (g4 i t L w hL),n,.refl,hs,X⟩|min G g2 N g4 g5=>rw [hx]at G;cases G
       obtain⟨Ls,hLs,hKs,d,P,X8,MG⟩:=D;obtain⟨Q,F,S,I,K⟩:=X1 hm ih [] x (k::ks) rfl hR V (λ t w=>hW.i4 w) s Ls C d hI hLs hKs (λ t w=>z.i4 V w) X8 MG;have hX:=ur hm (k::ks) s (λ t w=>hW.i4 w) hI;generalize Tr.tests m ah (k::ks) af s=r at F I K hX⊢;obtain⟨b,s'⟩:=r;dsimp only at F I K hX⊢;have T:=sL V
       induction b with
        |true=>
         rw [if_pos rfl];obtain⟨t,w,J,X9,hJ,Ms⟩:=I rfl;obtain⟨r,rfl,A,f,_⟩:=kY S X9 Ms
         have o:∀q∈r,q.mu<=m:=λ q g=>by
          rcases aO.mp (A.mem_iff.mp g)with h|h;.exact(hJ q h).1
          .exact(z q h).1
         have U:=sJ A (λ j hj=>(hJ j hj).2) λ c hc=>(z c hc).2.2;refine⟨_,(P.trans F).trans (.one (.up hR w (λ e=>by rw [hx]at e;cases e) o)),bA.mpr ⟨λ q g=>z.lt ah q (U.mem_iff.mp g),s7 _ f⟩,λ Y=>U.cons _,λ e=>(by injection e)⟩
        |false=>rw [if_neg (by decide)];obtain⟨ZZ,G,g2,N,g4⟩:=K rfl;exact⟨Q,P.trans F,S,λ e=>(by injection e),λ Y=>⟨_,.max hx (by rw [(hX.1.out _ T).2];exact Z) G g2,N,g4⟩⟩
      |false=>
       simp only [Np];have T:=sL V;have hX:=qe hm (k::ks) s (λ t w=>hW.i4 w) hI
       have D:∃dn t rest,k::ks=dn++t::rest/\(∀p∈dn,∃v,s.shown p.x.tag=ab v/\m<=v)/\(∀p∈rest,kZ s p)/\∃L1 d,KS m s t L1/\g8 R n s.seen d s.seen/\vO d/\d.Perm (L1++C):=by
        rcases hK with⟨rfl,h⟩|h;.have VW:∀t∈k::ks,kZ s t:=λ t w y hy=>h y (by rw [gY];exact .tail _ (iH w hy));obtain⟨r,rfl,A,f,Ms⟩:=kY hs X (z.lt af);have o:=λ q g=>(z q (A.mem_iff.mp g)).1;exact⟨[],k,ks,rfl,λ Y h=>(absurd h ax),λ p X=>VW p (.tail _ X),[⟨m,k,af⟩],_,.inl ⟨rfl,VW k (.head _)⟩,.one (.mn hR hx o),bA.mpr ⟨λ q g=>(z.i4 V (.head _)).lt af q (A.mem_iff.mp g),f⟩,A.cons _⟩
        .generalize H:k::ks=kk at h;cases h with|leaf=>cases H|max G=>rw [hx]at G;cases G|min G g2 N g4 g5=>exact⟨_,_,_,rfl,N,g5,L,n,.inr g4,.refl,hs,X⟩
       obtain⟨dn,t,rest,hks,VX,Uk,L1,d,hK1,P,X8,MG⟩:=D;obtain⟨Q,F,S,I,K⟩:=X5 hm ih [] x (k::ks) rfl hR hx V (λ t w=>hW.i4 w) s hI dn t rest hks VX Uk L1 C d hK1 z X8 MG;generalize Tr.tests m af (k::ks) ah s=r at F I K hX⊢;obtain⟨b,s'⟩:=r;dsimp only at F I K hX⊢
       induction b with
        |true=>
         rw [if_pos rfl];obtain⟨pre,u,M,X9⟩:=I rfl;have hu:u∈k::ks:=by rw [M];simp
         have hCu:=z.i4 V hu;obtain⟨r,rfl,A,f,_⟩:=kY S X9 (hCu.lt ah);have o:=λ q g=>(z q (A.mem_iff.mp g)).1;have U:=sJ (x:=x) (J:=[]) A (λ Y h=>(absurd h ax)) λ c hc=>(z c hc).2.2;exact⟨_,(P.trans F).trans (.one (.up hR hu (λ Y=>⟨pre,M⟩) o)),bA.mpr ⟨λ q g=>z.lt ah q (U.mem_iff.mp g),s7 _ f⟩,λ Y=>U.cons _,λ e=>(by injection e)⟩
        |false=>
         rw [if_neg (by decide)];obtain⟨pre,u,post,L',M,G,g2,N,g4,g5⟩:=K rfl;have hold:Old m s' (.mk x (k::ks)) L':=by rw [M];exact .min hx (by rw [(hX.1.out _ T).2];exact Z) G g2 g4
         exact⟨Q,P.trans F,S,λ e=>(by injection e),λ Y=>⟨L',hold,N,g5⟩⟩
inductive Ask(R:Tr)(top:Int):Int->TS->Int->TS->Prop|done{m:Int}{s s':TS}:Tr.test m R s=(ah,s')->Ask R top m s m s'|again{m mf:Int}{s s' sf:TS}:Tr.test m R s=(af,s')->Ask R top (Tr.worth (eV s'.known top) R) s' mf sf->Ask R top m s mf sf
noncomputable def Hh:TS:=⟨λ a=>az,λ a=>az,[]⟩
theorem vm(t:Tr):kZ Hh t:=λ a a=>⟨rfl,rfl⟩
theorem Ul{t:Tr}{c:Int}(h:∀u∈t.nodes,c<=u.x.n):c<=t.V:=by have a:=iI (o:=c) t (vm t);exact gL (f:=eV Hh.known c) (g:=λ x=>x.n) t (λ u b d d=>h u b) (b0 a.symm)
theorem X_{t:Tr}{c:Int}(h:∀u∈t.nodes,u.kids=[]->u.x.n<=c):t.V<=c:=by
 have b:=iI (o:=c) t (vm t);rcases rh c t.V with a|a;.have:=gL (m:=c+1) (f:=λ x=>x.n) (g:=eV Hh.known c) t (λ u d e i=>by have:=h u d e;exact(lj 0x671120711061112 [] [c,u.x.13] rfl i this).elim) (by show c+1<=t.V;exact lj 0x7110614176112 [] [c,t.V] rfl a);exact(lj 0x611071112276112 [] [Tr.worth (eV Hh.known c) t,c] rfl b this).elim
 .exact a
structure vn(R:Tr)(top:Int)(s:TS):Prop where
 nd:s.seen.Nodup
 kn:∀k∈s.seen,s.known k≠az
 B5:∀k∈s.seen,k∈(Tr.fX R (-1) top).2
set_option tactic.hygienic true in theorem FK{W:aR->Int}(P:cq R)(y:vk W R)(Q:∀u∈R.nodes,0<=u.x.n)(S:∀u∈R.nodes,u.kids=[]->u.x.n<=top):∀(n:Nat)(m:Int)(s:TS)(L d:List Sq),(m-R.V).toNat<n->R.V<=m->m<=top->Inv W s->KS m s R L->vO d->d.Perm L->vn R top s->∃w,Ask R top m s R.V w/\g8 R d s.seen [⟨R.V,R,ah⟩] w.seen/\vn R top w/\Inv W w
 |0,_,_,_,_,h,_,_,_,_,_,_,_=>absurd h (cQ _)
 |n+1,m,s,L,d,hn,T,o,U,hK,hs,hp,D=>by
  have F:0<=R.V:=Ul Q;have G:0<=m:=by exact bk F T
  obtain⟨l,f,H,p,r⟩:=sim G R s L [] d (dm R) P y U hK (λ zz h=>(absurd h ax)) hs (by rw [aA];exact hp);have i:=o9 G R s y U
  induction I:Tr.test m R s with
   |mk b g=>
    rw [I]at f p r i;dsimp only at f p r i;obtain⟨ls,J,k1,n1,d1⟩:=i.FE
    have z:vn R top g:=by
     refine⟨?_,λ k c=>?_,λ k c=>?_⟩;.rw [J];refine bH.mpr ⟨D.nd,n1,λ a ha b hb e=>?_⟩;subst e;exact D.kn a ha (k1 a hb).1
     .rw [J]at c;rcases aO.mp c with c|c;.have:=D.kn k c;induction e:s.known k with|none=>exact absurd e this|some v=>rw [i.gr k v e];exact λ h=>(by injection h)
      .exact(k1 k c).2.1
     .rw [J]at c;rcases aO.mp c with c|c;.exact D.B5 k c
      .exact d1 (-1) top (lj 0x16110440600112 [] [m] rfl G) o k c
    induction b with
     |true=>
      have h2:=i.ex.mp rfl;have e:m=R.V:=by exact bg h2 T
      have j:=p rfl;have A:l=[⟨m,R,ah⟩]:=List.perm_singleton.mp j;rw [A]at f;subst e;exact⟨g,.done I,f,z,i.inv⟩
     |false=>
      obtain⟨L',V,B,j⟩:=r rfl;rw [aA]at j;have hVm:¬m<=R.V:=λ h=>by have:=i.ex.mpr h;cases this
      obtain⟨g1,q,hq,K⟩:=V.top i.inv o y B;have t:=B q hq
      have C:R.V<=Tr.worth (eV g.known top) R:=gL R (λ u X Y Z=>by
       unfold eV
       induction e:g.known u.x.tag with
        |none=>exact bk Z (S u X Y)
        |some v=>
         show R.V<=v;rw [i.inv.kn _ _ e,y u X];have:u=.mk u.x []:=by cases u;rename_i x ks;have:ks=[]:=Y;rw [this];rfl
         rw [this,oe];exact Z) (aN _);obtain⟨w,hA,M,N,O⟩:=FK P y Q S n (Tr.worth (eV g.known top) R) g L' l (lj 0x14532963551120359831121871122761121110413111 [(m-R.V).toNat,n,(Tr.worth (eV g.known top) R-R.V).toNat] [Tr.worth (eV g.known top) R,q.1,m,R.V] rfl hn K.symm t (eS (m-R.V)) (bC (by exact lj 0x673004076112 [] [R.V,Tr.worth (eV g.known top) R] rfl C))) C (lj 0x784169112298112076112 [] [m,top,Tr.worth (eV g.known top) R,q.1] rfl o K.symm t) i.inv (.inr (V.down (lj 0x864187112276112 [] [Tr.worth (eV g.known top) R,q.1,m] rfl K.symm t) g1)) H j z;exact⟨w,.again I hA,f.trans M,N,O⟩
theorem ja:∀{ts:List Tr},u∈Tr.p' ts->∃(i:Nat)(k:Tr),ts[i]?=ab k/\u∈k.nodes:=by
 intro ts
 induction ts with
  |nil=>intro h;cases h
  |cons t ts a=>
   intro h;rcases aO.mp h with h|h;.exact⟨0,t,rfl,h⟩
   .obtain⟨i,k,hi,b⟩:=a h;exact⟨i+1,k,hi,b⟩
theorem mR(a:cq t)(b:u∈t.nodes):tg t<+:tg u:=jV t a _ (jh t b _ (e4 u))
theorem ng(R:Tr):cq R->∀u v:Tr,u∈R.nodes->v∈R.nodes->u.x.tag=v.x.tag->u=v:=by
 induction R using Tr.oN with
  |h x ks p=>
   intro b u v c d e;have a:∀w,w∈Tr.p' ks->¬w.x.tag=x.tag:=λ w q e=>by obtain⟨i,k,hi,o⟩:=ja q;have n:=mR (b.i4 (aB hi)) o;unfold tg at n;rw [e]at n;have g:=b.tag hi;unfold tg at g;rw [g]at n;have:=n.length_le;simp at this;exact li 0x311031111 [x.tag.cps.size] rfl this
   rcases aF.mp c with c|c<;>rcases aF.mp d with d|d;.rw [c,d]
   .rw [c]at e;exact absurd e.symm (a v d)
   .rw [d]at e;exact absurd e (a u c)
   .obtain⟨i,k,hi,l⟩:=ja c;obtain⟨j,s,h,f⟩:=ja d;by_cases X7:i=j;.subst X7;rw [hi]at h;injection h with h;rw [<-h]at f;exact p k (aB hi) (b.i4 (aB hi)) u v l f e
    .exfalso;have m:=mR (b.i4 (aB hi)) l;have g:=mR (b.i4 (aB h)) f;rw [b.tag hi]at m;rw [b.tag h]at g;unfold tg at m g;rw [e]at m;obtain⟨z,r⟩:=g;rw [<-r]at m;exact pb (by lia) m
noncomputable def Tr.W(R:Tr)(k:aR):Int:=match R.nodes.find? (λ u=>decide (u.x.tag=k))with|ab u=>u.V|az=>0
theorem Ya(c:cq R):vk R.W R:=λ u b=>by unfold Tr.W;induction h:R.nodes.find? (λ v=>decide (v.x.tag=u.x.tag))with|none=>have:=ku.mp h u b;simp at this|some v=>have a:=m5 h;have d:=iu h;have a:=of_decide_eq_true a;rw [ng R c v u d b a]
theorem FL{R:Tr}{a:Int}(j:cq R)(k:∀u∈R.nodes,0<=u.x.n)(l:∀u∈R.nodes,u.kids=[]->u.x.n<a):∃d,Ask R a a Hh R.V d/\g8 R [⟨a,R,af⟩] [] [⟨R.V,R,ah⟩] d.seen/\vn R a d/\Inv R.W d/\(Tr.fX R (-1) a).1=R.V:=by
 have c:0<=R.V:=Ul k;have b:R.V<=a-1:=X_ λ u f g=>by have:=l u f g;exact lj 0x1107364176112 [] [u.x.13,a] rfl this
 have i:∀u∈R.nodes,u.kids=[]->u.x.n<=a:=λ u f g=>by have:=l u f g;exact cp this
 obtain⟨d,n,o,p,q⟩:=FK j (Ya j) k i ((a-R.V).toNat+1) a Hh [⟨a,R,af⟩] [⟨a,R,af⟩] (li 0x11103133 [(a-R.V).toNat] rfl) (lj 0x7640110736112 [] [R.V,a] rfl b) (aN _) ⟨λ e e h=>(by injection h),λ e e h=>(by injection h)⟩ (.inl ⟨rfl,vm R⟩) (f5 _ _) (List.Perm.refl _) ⟨.nil,λ e h=>(absurd h ax),λ e h=>(absurd h ax)⟩;refine⟨d,n,o,p,q,?_⟩;have m:=(yq R (-1) a (lj 0x171104401107361120600112 [] [R.V,a] rfl c b)).clip;have r:=(m R.V (lj 0x16110440600112 [] [R.V] rfl c) (lj 0x7640110736112 [] [R.V,a] rfl b)).mpr (aN _);have s:=m (R.V+1) (lj 0x111061110440600112 [] [R.V] rfl c) (lj 0x71106140110736112 [] [R.V,a] rfl b);have:¬R.V+1<=(Tr.fX R (-1) a).1:=λ h=>by have:=s.mp h;exact lj 0x611061112 [] [R.V] rfl this
 exact bg (lj 0x7641110716112 [] [(R.fX (-1) a).1,R.V] rfl (eW.mp this)) r
theorem len_sub [DecidableEq α]:∀{l m:List α},l.Nodup->(∀x∈l,x∈m)->l.length<=m.length:=by intro l;induction l with|nil=>intro m _ _;exact bJ _|cons x l f=>intro m h a;have b:=a x (.head _);have c:=bM.mp h;have:=f (m:=m.erase x) c.2 λ y d=>(Ay λ e=>c.1 (by rw [<-e];exact d)).mpr (a y (.tail _ d));rw [vU b]at this;have g:=xy b;rw [eH];exact li 0x51103132511041111043111 [l.length,m.length-1,m.length] rfl this (aH (li 0x311031300111 [m.length] rfl g))
noncomputable def q5(R u v:Tr):Prop:=∃(x:El)(ks:List Tr)(i j:Nat)(a b:Tr),Tr.mk x ks∈R.nodes/\x.most=ah/\ks[i]?=ab a/\ks[j]?=ab b/\i≠j/\u∈a.nodes/\v∈b.nodes
theorem q5.symm(h:q5 R u v):q5 R v u:=by obtain⟨x,ks,i,j,a,b,c,d,f,g,k,l,m⟩:=h;exact⟨x,ks,j,i,b,a,c,d,g,f,λ e=>k e.symm,m,l⟩
theorem q5.down(h:q5 R u v)(c:u'∈u.nodes):q5 R u' v:=by obtain⟨x,ks,i,j,a,b,d,e,f,g,k,l,m⟩:=h;exact⟨x,ks,i,j,a,b,d,e,f,g,k,mQ l c,m⟩
theorem fR:∀(R:Tr),cq R->∀u∈R.nodes,cq u:=by
 intro R h u a
 have key:∀(n:Nat)(t:Tr),sizeOf t<n->cq t->u∈t.nodes->cq u:=by
  intro n
  induction n with
   |zero=>intro t e;exact absurd e (cQ _)
   |succ n f=>
    intro t b c a
    cases t with
     |mk x ks=>
      rw [Tr.nodes]at a;rcases aF.mp a with rfl|a;.exact c
      .obtain⟨i,k,g,a⟩:=ja a;have d:=aB g;refine f k ?_ (c.i4 d) a;have:=yW d;simp only [Tr.mk.sizeOf_spec]at b;exact li 0x16331110614511011111143111 [sizeOf k,sizeOf ks,sizeOf x,n] rfl this b
 exact key _ R (dM _) h a
theorem q5.ne(c:cq R)(h:q5 R u v):u.x.tag≠v.x.tag:=by obtain⟨x,ks,i,j,a,b,d,o,f,g,k,l,m⟩:=h;intro e;have n:=fR R c _ d;exact pd n f g k (jh a l _ (e4 u)) (e▸jh b m _ (e4 v))
theorem Ad(d:cq R)(c:a∈R.nodes)(l:Tr.mk x ks∈R.nodes)(r:t∈ks)(b:t∈a.nodes):t=a\/Tr.mk x ks∈a.nodes:=by
 have key:∀(n:Nat)(a:Tr),sizeOf a<n->a∈R.nodes->t∈a.nodes->t=a\/Tr.mk x ks∈a.nodes:=by
  intro n
  induction n with
   |zero=>intro a s;exact absurd s (cQ _)
   |succ n u=>
    intro a m c b
    cases a with
     |mk y ls=>
      have o:=b;rw [Tr.nodes]at b;rcases aF.mp b with rfl|b;.exact .inl rfl
      .obtain⟨i,k,p,v⟩:=ja b;have f:=aB p;have g:=iV c f;rcases u k (by have:=yW f;simp only [Tr.mk.sizeOf_spec]at m;exact li 0x16331110614511011111143111 [sizeOf k,sizeOf ls,sizeOf y,n] rfl this m) g v with rfl|h;.obtain⟨j,w⟩:=aZ r;have z:=(fR R d _ c).tag p;have q:=(fR R d _ l).tag w;have e:x.tag=y.tag:=l6 (iM (by rw [z]at q;exact((lV q rfl).1).symm));have:=ng R d _ _ l c e;rw [this];exact .inr (dm _)
       .exact .inr (gg f h)
 exact key _ a (dM _) c b
noncomputable def q6(R:Tr)(r:List Sq):Prop:=r.Pairwise (λ p q=>q5 R p.t q.t)/\∀q∈r,q.t∈R.nodes
theorem q6.len(a:cq R)(h:q6 R r):r.length<=R.tags.length:=by
 have b:(r.map λ q=>q.t.x.tag).Nodup:=by unfold List.Nodup;rw [gQ];exact h.1.imp λ h=>h.ne a
 have:=len_sub b λ y c=>by obtain⟨q,d,rfl⟩:=ba.mp c;exact jh R (h.2 q d) _ (e4 q.t)
 rwa [aM]at this
theorem q6.next(u:cq R)(h:q6 R r)(st:Step R r s r' s'):q6 R r':=by
 have I:∀{q:Sq}{r:List Sq},q6 R (q::r)->(∀p∈r,q5 R q.t p.t)/\q6 R r/\q.t∈R.nodes:=λ h=>⟨(bA.mp h.1).1,⟨(bA.mp h.1).2,λ q c=>h.2 q (.tail _ c)⟩,h.2 _ (.head _)⟩;have put:∀{q:Sq}{r:List Sq},q6 R r->q.t∈R.nodes->(∀p∈r,q5 R q.t p.t)->q6 R (q::r):=λ h c Z=>⟨bA.mpr ⟨Z,h.1⟩,λ p n=>(aF.mp n).elim (λ e=>e▸c) (h.2 p)⟩
 induction st with
  |@mx m x k ks r sn d J z=>
   obtain⟨l,f,A⟩:=I h;refine⟨dt.mpr ⟨?_,f.1,λ a K b B=>?_⟩,λ q c=>?_⟩;.rw [gQ];have:∀(i j:Nat)a b,(k::ks)[i]?=ab a->(k::ks)[j]?=ab b->i≠j->q5 R a b:=λ i j a b K B C=>⟨x,k::ks,i,j,a,b,d,J,K,B,C,dm a,dm b⟩;rw [kO];intro i j hi hj C;exact this i j _ _ (aJ hi) (aJ hj) (q' C)
   .obtain⟨t,v,rfl⟩:=ba.mp K;exact(l b B).down (gg v (dm t))
   .rcases aO.mp c with c|c;.obtain⟨t,v,rfl⟩:=ba.mp c;exact iV d v
    .exact f.2 q c
  |@mn m x k ks r sn d J z=>obtain⟨l,f,A⟩:=I h;exact put f (iV d (.head _)) λ p n=>(l p n).down (gg (.head _) (dm k))|lt d _ _=>obtain⟨l,f,A⟩:=I h;exact put f A l
  |@lf m x D o sn d _ _ _ _ _=>
   obtain⟨l,f,A⟩:=I h;have Q:=dt.mp f.1;refine⟨dt.mpr ⟨Q.1,bA.mpr ⟨λ p n=>l p (aq _ n),Q.2.1⟩,λ a K b B=>?_⟩,λ q c=>?_⟩
   .rcases aF.mp B with rfl|B;.exact(l a (aI _ K)).symm
    .exact Q.2.2 a K b B
   .rcases aO.mp c with c|c;.exact f.2 q (aI _ c)
    .rcases aF.mp c with rfl|c;.exact A
     .exact f.2 q (aq _ c)
  |@nx m x D o t k r sn d J z=>
   obtain⟨l,f,A⟩:=I h;have X:k∈D++t::k::o:=aq _ (.tail _ (.head _));have v:t∈D++t::k::o:=aq _ (.head _);refine put f (iV d X) λ p n=>?_;obtain⟨y,ls,i,j,a,b,w,N,F,O,S,T,P⟩:=l p n;have G:=iV w (aB F);rcases Ad u G d v T with rfl|g;.obtain⟨j',H⟩:=aZ v;have U:=(fR R u _ w).tag F;have L:=(fR R u _ d).tag H;rw [U]at L;have:=ng R u _ _ d w (l6 (iM ((lV L rfl).1).symm));injection this with this _;rw [this,N]at J;cases J
   .exact⟨y,ls,i,j,a,b,w,N,F,O,S,mQ g (gg X (dm k)),P⟩
  |@up m x ks t r sn d v J z=>
   obtain⟨l,f,A⟩:=I h;refine put ⟨f.1.filter _,λ q c=>f.2 q (c_.mp c).1⟩ d λ p n=>?_;obtain⟨n,Y⟩:=c_.mp n;obtain⟨y,ls,i,j,a,b,w,N,F,O,S,T,P⟩:=l p n;have G:=iV w (aB F);rcases Ad u G d v T with rfl|g;.exfalso;obtain⟨j',H⟩:=aZ v;have U:=(fR R u _ w).tag F;have L:=(fR R u _ d).tag H;rw [U]at L;have:=ng R u _ _ d w (l6 (iM ((lV L rfl).1).symm));have V:p.t∈(Tr.mk x ks).nodes:=this▸gg (aB O) P;have M:=mR (fR R u _ d) V;rw [i6,G8]at Y;exact Y (hH.mpr M)
   .exact⟨y,ls,i,j,a,b,w,N,F,O,S,g,P⟩
theorem Bn(h:a_ (aW prog w) A (.whileLoop test body [] env) (eP test env (dh test env)) (λ t d=>match t with|af=>R (.ok .next) d|ah=>a_ (aW prog w) A (.whileLoop test body [] env) (dU body env) (DG (aW prog w) A (.whileLoop test body [] env) R) lz d) lz s):bx (aW prog w) A (.whileLoop test body [] env) R s:=by refine fD ?_;show a_ _ A _ ((whileTurn test body [] env).onRaise _) _ _ s;refine dY ?_;unfold whileTurn;refine au (ki (aQ h (λ t d i=>?_) λ g g x=>x));induction t with|false=>exact au (bG (bG i))|true=>refine au (ki (aQ i (λ f j a=>?_) λ g g x=>x));induction f with|next=>exact bG ⟨rfl,a⟩|cont=>exact bG ⟨rfl,a⟩|brk=>exact bG a|ret v=>exact bG a
theorem Ext.trans(E:Ext b b')(d:Ext b' b''):Ext b b'':=⟨d.prog.trans E.prog,d.w.trans E.w,λ a o h=>d.h a o (E.h a o h)⟩
section
variable{b:Bs}{e:Ev}{c:aT}{ks:List Kd}{vs:List eK}{env:fJ}{ss:List ea}{s0:aD}{C0:Cells}{R:dq->aD->Prop}
noncomputable def DL(b:Bs)(e:Ev)(c:aT)(ks:List Kd)(vs:List eK)(s0:aD)(C0:Cells)(R:dq->aD->Prop):Prop:=∀H s,At b s0 C0 s (d' H ks vs)->bx (aW b.prog b.w) e.ar c R s
noncomputable def DW(b:Bs)(e:Ev)(c:aT)(ss:List ea)(env:fJ)(ks:List Kd)(vs:List eK)(s0:aD)(C0:Cells)(R:dq->aD->Prop):Prop:=∀H s,At b s0 C0 s (d' H ks vs)->a_ (aW b.prog b.w) e.ar c (dU ss env) (DG (aW b.prog b.w) e.ar c R) lz s
theorem DW.nil(h:DL b e c ks vs s0 C0 R):DW b e c [] env ks vs s0 C0 R:=λ H s a=>bG (h H s a)
theorem DW.take(G:Good b)(a:At b s0 C0 s (d' H ks vs++D))(h:∀d,Good d->Ext b d->(∀p∈D,iN d p.1 p.2)->DW d e c ss env ks vs s0 C0 R):a_ (aW b.prog b.w) e.ar c (dU ss env) (DG (aW b.prog b.w) e.ar c R) lz s:=by obtain⟨d,g,X,i,j⟩:=rebase G a.R;have z:=h d g X (λ p f=>⟨j p f,G.oH a.R (aq _ f)⟩) H s ⟨i,(a.sub (a9 _ _)).T⟩;rwa [X.prog,X.w]at z
theorem DW.cut(n:Nat)(G:Good b)(h:DS b e c (ss.take n) env ks vs kk λ j r vs tl=>r=.ok .next/\∀g,Good g->Ext b g->(∀p∈tl,iN g p.1 p.2)->DW g e c (ss.drop n) env (kk j) vs s0 C0 R):DW b e c ss env ks vs s0 C0 R:=λ H s a=>by rw [<-eD n ss,gX];refine au (aQ (h H s0 C0 s a) (λ f m i=>i.out λ j k tl o d l=>?_) λ x m i=>i.out λ j k tl o d l=>(by injection d.1));obtain⟨q,d⟩:=d;cases(cA q:f=.next);exact DW.take G l d
noncomputable def Um(H:Hs)(sel:List Nat):Hs:=λ j=>match bE sel j with|ab i=>H i|az=>H 0
theorem DW.re(sel:List Nat)(G:Good b){kk:List Kd}{f:List eK}{D:Hs->Cells}(q:∀H,pick (d' H kk f) sel=d' (Um H sel) ks vs++D H)(h:∀d H,Good d->Ext b d->(∀p∈D H,iN d p.1 p.2)->DW d e c ss env ks vs s0 C0 R)(g:xH sel=ah:=by kernel_rfl):DW b e c ss env kk f s0 C0 R:=λ H s a=>by have a:At b s0 C0 s (pick (d' H kk f) sel):=⟨a.R.pick g,a.T.pick g⟩;rw [q H]at a;exact DW.take G a λ d i X j=>h d H i X j
theorem DL.yt(h:DT b e (.whileLoop test body [] env) test env ks vs (k1 kj) (eM (.bool v) zU))(i:v=ah->DW b e (.whileLoop test body [] env) body env kj zU s0 C0 R)(j:v=af->∀H s,At b s0 C0 s (d' H kj zU)->R (.ok .next) s):DL b e (.whileLoop test body [] env) ks vs s0 C0 R:=λ H s a=>by refine Bn (DT.mN h a λ d f g=>?_);induction v with|true=>exact i rfl d f g|false=>exact j rfl d f g
theorem yu{prog:d7}{w:cP}{A:dx}{a:bO}{body rest:List ea}{pos:Aw}{Q:BR->aD->Prop}{E:aa->aD->Prop}(h:bx (aW prog w) (A.under c) (.whileLoop a body [] env) (λ r f=>r=.ok .next/\a_ (aW prog w) A c (dU rest env) Q E f) s):a_ (aW prog w) A c (dU (.While a body [] pos::rest) env) Q E s:=by rw [gP];refine au (bU (wpAny_While (dj h λ r f d=>?_)));obtain⟨rfl,d⟩:=d;exact d
end
noncomputable def P7:Ok b:=⟨gD "list.pop" [.re,.it] [.ls] λ l i a xs ep=>⟨[l],λ a a a K=>B0 xs False λ v ys=>(i=0/\ys.length<=1000)/\∀d,K 0 (.ok (.ret v)) [(l,lO ys d)] []⟩,bF λ l i u xs ep=>.mk λ A s rest K R h hh Rd k=>by
 induction xs with
  |nil=>exact h.elim
  |cons v ys=>
   obtain⟨⟨rfl,hx⟩,j⟩:=h;have g:s.heap.get? l=ab {cls:=.type "list",dict:=az,data:=.seq (v::ys).toArray ep,slots:=#[]}:=Rd.own (l,lO (v::ys) ep) (.head _);have f:(v::ys).toArray.size<=lN:=by rw [di,b6,eH];exact li 0x10000007011031303e8303111 [ys.length] rfl hx
   have m:lb 0 (v::ys).toArray.size=ab 0:=by simp [lb]
   refine cz (by decide+kernel) (aL (by kernel_rfl)) (MeetsSeq.list_pop_at l (v::ys).toArray ep 0 u 0 v (by decide) m rfl f) ⟨g,k 0 _ _ [(l,lO ys (ep+1))] [] (j _) (Trans.upd g ?_ rfl _)⟩;unfold lO mZ;simp⟩
noncomputable def vo:aR:=⟨#[114,111,111,116]⟩
noncomputable def pe:aR:=⟨#[116,111,112]⟩
noncomputable def sM:aR:=⟨#[115,111,108,118,101,100]⟩
noncomputable def f9:aR:=⟨#[115,116,97,116,101]⟩
noncomputable def FN:aR:=⟨#[115,116,97,116,101,115]⟩
noncomputable def Ae:aR:=⟨#[109,101,114,105,116]⟩
noncomputable def MH:aR:=⟨#[112,117,116]⟩
noncomputable def VY:aR:=⟨#[95,108,97,119,95,98,101,115,116,95,102,105,114,115,116,46,60,108,111,99,97,108,115,62,46]⟩
structure Bp where
 L:ae
 cr:ae
 cm:ae
 cn:ae
 cs:ae
 sn:ae
noncomputable def cw(p:Bp):fJ:=nu 22 VY 139 138 p.L [(FN,p.cs),(lF,p.cn),(Ae,p.cm),(oW,p.cr)]
noncomputable def B6:=bE (aP 22) 1
noncomputable def gq:List ea:=sB B6 0
noncomputable def bR(p:Bp):aT:=.whileLoop (sE B6 0) gq [] (cw p)
noncomputable def Un:List aR:=[vo,pe,i']
noncomputable def Bo:List aR:=[vo,pe,i',sM,oP]
noncomputable def P8:List aR:=[vo,pe,i',sM,oP,f9]
noncomputable def Yb:List aR:=[vo,pe,i',sM,oP,f9,z0,vf,MH]
noncomputable def FO:List aR:=[z0,vf,MH]
noncomputable def Z2:bO:=sE (bE gq 3) 0
noncomputable def Z3:bO:=xE (xE (sE (bE (sB (bE gq 2) 0) 0) 0) 2) 0
noncomputable def Z4:bO:=sE (bE (sB (bE gq 4) 0) 0) 0
noncomputable def sN(p:Cp):aT:=.compLoop Z2 0 (.ref p.it) (.ref p.acc) (lQ Z2 VY 138 p.L p.F [(Ae,p.c0)])
noncomputable def qg(p:Cp):aT:=.compLoop Z3 0 (.ref p.it) (.ref p.acc) (lQ Z3 VY 138 p.L p.F [(lF,p.c0)])
noncomputable def qh(p:Cp):aT:=.compLoop Z4 0 (.ref p.it) (.ref p.acc) (lQ Z4 VY 138 p.L p.F [(lF,p.c0)])
noncomputable def bQ(ps:List (ae×Sq)):List aa:=ps.map λ p=>.ref p.1
noncomputable def FP(T:Cells)(p:ae×Sq):Prop:=∃t ep,(p.1,tO [.int p.2.mu t,.ref p.2.t.e,.bool p.2.so] ep)∈T
noncomputable def eO(b:Bs)(p:ae×Sq):Prop:=∃t ep,bN b p.1 (tO [.int p.2.mu t,.ref p.2.t.e,.bool p.2.so] ep)
theorem FP.in(h:FP T p)(a:∀p∈T,iN b p.1 p.2):eO b p:=h.elim λ t y=>y.elim λ ep h=>⟨t,ep,(a _ h).1⟩
theorem FP.tail(h:FP T p):FP (x::T) p:=h.elim λ t y=>y.elim λ ep h=>⟨t,ep,.tail _ h⟩
theorem eO.ext(E:Ext b b')(h:eO b p):eO b' p:=h.elim λ t y=>y.elim λ ep h=>⟨t,ep,h.ext E⟩
noncomputable def Bq:Bool->List Kd|ah=>[.dc [],.it,.ls,.cl]|af=>[.dc [uj],.it,.ls,.cl]
noncomputable def uv:List Kd:=[.dc [uj],.ls,.cl]
noncomputable def Br(m:Int)(us:List Tr)(qs:List (ae×Sq)):Prop:=qs.map eY=us.map λ t=>⟨m,t,af⟩
noncomputable def Z5(l0:ae)(xs:List aa)(us:List Tr)(p:Cp)(l:ae)(i:Int)(ys:List aa)(m:Int)(tm:aX):Ct:=⟨[p.L,p.it,p.acc,p.c0],λ d u a=>[l=l0,dC xs i (ef us),ys.length+us.length<=20],λ K=>∀v qs tl,Br m us qs->(∀p∈qs,FP tl p)->K 0 (.ok .next) [(p.L,.fr [v]),(p.acc,.ls (ys++bQ qs)),(p.c0,.cl (ab (.int m tm)))] tl⟩
noncomputable def Yc(l0:ae)(xs:List aa)(us:List Tr)(p:Cp)(v:aa):=Z5 l0 xs us p
noncomputable def Uo(l0:ae)(xs:List aa)(us:List Tr):Sp:=gb (.of fo sN) [.fr [],.it,.ls,.cs .it] (Bq ah) (k1 uv) (Z5 l0 xs us)
noncomputable def MI(l0:ae)(xs:List aa)(us:List Tr):Sp:=gb (.of fo sN) [.fr [.an],.it,.ls,.cs .it] (Bq af) (k1 uv) (Yc l0 xs us)
section
variable{b:Bs}(G:Good b){l0:ae}{xs:List aa}{ep:Nat}(hl:bN b l0 (lO xs ep))
include G hl
theorem FQ{e:Ev}{K:Kv}{t:Tr}{us:List Tr}{p:Cp}(s:bj b (MI l0 xs us))(f:Bool){j:List aa}(u:mv f j)(q:dC xs i (ef (t::us)))(d:ys.length+(t::us).length<=20)(w:∀v qs tl,Br m (t::us) qs->(∀p∈qs,FP tl p)->K 0 (.ok .next) [(p.L,.fr [v]),(p.acc,.ls (ys++bQ qs)),(p.c0,.cl (ab (.int m tm)))] tl):dg b e (sN p) (Bq f) [(p.L,.fr j),(p.it,.it l0 i),(p.acc,.ls ys),(p.c0,.cl (ab (.int m tm)))] (k1 uv) K:=by
 have g:∀(a:ae)v tl(qs:List (ae×Sq)),Br m us qs->(∀p∈qs,FP tl p)->K 0 (.ok .next) [(p.L,.fr [v]),(p.acc,.ls (snoc ys (.ref a)++bQ qs)),(p.c0,.cl (ab (.int m tm)))] ((a,tO [.int m tm,.ref t.e,.bool af] 0)::tl):=λ a v tl qs z A=>by rw [fu];exact w v ((a,⟨m,t,af⟩)::qs) _ (congrArg (Hm _) z) (dJ.mpr ⟨⟨tm,0,.head _⟩,λ p B=>(A p B).tail⟩)
 have k:ys.length<=1048576:=ai (ai (bX _ _) d) (by decide);induction f<;>rcases j with _|⟨v,_|⟨_,_⟩⟩<;>induction u;all_goals exact dg.run G [⟨_,_,hl⟩] [fc hl (.ref t.e),dP,⟨_,s⟩] (oo 0xfbf215134515421481482422134141 []) λ n=>c4 (E [p.3] 0x1000) (@rfl ae l0) q.at (λ(r:Nw)=>c3 (E [p.4,p.1,p.5] 0x1112100) k (λ(C:Nat)(D:Nw)=>c6 (E [p.1,p.3,p.4,p.5] 0x13210) (@rfl aT (sN p)) (@rfl ae l0) q.next (iz _ d:(snoc ys (ao (r.ad 0))).length+us.length<=20) (λ(l:aa)(qs:List (ae×Sq))(tl:Cells)(h:cF eY qs=cF (λ(t:Tr)=>Sq.mk m t af) us)(o:∀(p:ae×Sq),p∈qs->FP tl p)(F:Nw)=>g (r.1 0) l tl qs h o)))
theorem P9:∀us:List Tr,bj b (MI l0 xs us):=by intro us;induction us with|nil=>exact ct λ p v l i ys m tm e rest K hi d a f=>by cases hi;exact dg.run G [⟨_,_,hl⟩] [fN hl] (oo 0x43241a22134141 []) λ n=>c4 (E [p.3] 0x1000) (@rfl ae l0) d.end (λ(g:ae)(D:Array aa)(k:Nw)=>c2 (E [g] 0x10) (aA ys▸f v [] [] rfl (λ o h=>(absurd h ax))))|cons t us j=>exact ct λ p v l i ys m tm e rest K hi d a f=>by induction hi;exact FQ G hl j af trivial d a f
theorem P_(t:Tr)(us:List Tr):bj b (Uo l0 xs (t::us)):=ct λ p l i ys m tm e rest K hi d a f=>by induction hi;exact FQ G hl (P9 G hl us) ah trivial d a f
end
noncomputable def w9(x:El)(us:List Tr):List Tr:=us.filter λ u=>decide (x.tag.cps.toList<u.x.tag.cps.toList)
noncomputable def Z6(x:El)(l0:ae)(xs:List aa)(us:List Tr)(p:Cp)(l:ae)(i:Int)(ys:List aa):Ct:=⟨[p.L,p.it,p.acc,p.c0],λ d u a=>[l=l0,dC xs i (ef us),ys.length+us.length<=20],λ K=>∀v,K 0 (.ok .next) [(p.L,.fr [v]),(p.acc,.ls (ys++ef (w9 x us))),(p.c0,.cl (ab (.ref x.e)))] []⟩
noncomputable def Yd(x:El)(l0:ae)(xs:List aa)(us:List Tr)(p:Cp)(v:aa):=Z6 x l0 xs us p
noncomputable def MJ(x:El)(l0:ae)(xs:List aa)(us:List Tr):Sp:=gb (.of fo qg) [.fr [],.it,.ls,.cs (.rq x.e)] (Bq ah) (k1 uv) (Z6 x l0 xs us)
noncomputable def MK(x:El)(l0:ae)(xs:List aa)(us:List Tr):Sp:=gb (.of fo qg) [.fr [.an],.it,.ls,.cs (.rq x.e)] (Bq af) (k1 uv) (Yd x l0 xs us)
noncomputable def Up:Ok b:=oS "str.__gt__" (λ x y=>y<x) (by decide+kernel) F.entry_str_gt λ x y t u=>PySem.gives_str_gt x y t u
section
variable{b:Bs}(G:Good b){k0 fQ:ae}{x:El}(hx:ej b k0 fQ x){l0:ae}{xs:List aa}{ep:Nat}(hl:bN b l0 (lO xs ep))
include G hx hl
theorem FR{e:Ev}{K:Kv}{t:Tr}(m:ej b k0 fQ t.x){p:Cp}{i:Int}{ys:List aa}(q:bj b (MK x l0 xs us))(f:Bool){g:List aa}(r:mv f g)(j:dC xs i (ef (t::us)))(a:ys.length+(t::us).length<=20)(o:∀v,K 0 (.ok .next) [(p.L,.fr [v]),(p.acc,.ls (ys++ef (w9 x (t::us)))),(p.c0,.cl (ab (.ref x.e)))] []):dg b e (qg p) (Bq f) [(p.L,.fr g),(p.it,.it l0 i),(p.acc,.ls ys),(p.c0,.cl (ab (.ref x.e)))] (k1 uv) K:=by
 have s:x.tag.cps.toList<t.x.tag.cps.toList->∀v,K 0 (.ok .next) [(p.L,.fr [v]),(p.acc,.ls (snoc ys (.ref t.e)++ef (w9 x us))),(p.c0,.cl (ab (.ref x.e)))] []:=λ h v=>by have z:=o v;unfold w9 at z;rw [lZ (by simpa using h)]at z;rw [fu];exact z
 have u:¬x.tag.cps.toList<t.x.tag.cps.toList->∀v,K 0 (.ok .next) [(p.L,.fr [v]),(p.acc,.ls (ys++ef (w9 x us))),(p.c0,.cl (ab (.ref x.e)))] []:=λ h v=>by have z:=o v;unfold w9 at z;rwa [iX (by simpa using h)]at z
 have k:ys.length<=1048576:=ai (ai (bX _ _) a) (by decide);have l:ys.length+us.length<=20:=ai (cZ (om _) _) a;induction f<;>rcases g with _|⟨v,_|⟨_,_⟩⟩<;>induction r;all_goals exact dg.run G [⟨_,_,hl⟩,⟨_,_,hx.fn⟩,⟨_,_,hx.dk⟩,⟨_,_,m.fn⟩,⟨_,_,m.dk⟩] [fc hl (.ref t.e),Up,dP,⟨_,q⟩] (oo 0x32141412351632156141241755515158b999191942422134141 [(oo 0x321414312516 [])]) λ n=>c4 (E [p.3] 0x1000) (@rfl ae l0) j.at (λ(C:Nw)=>c3 (E [x.2,x.1,p.5,t.x.2,t.x.1,p.1] 0x15554444432111110) (λ(h:x.tag.cps.toList<t.x.tag.cps.toList)(w:Nw)=>c3 (E [p.4,p.1] 0x1100) k (λ(A:Nat)(B:Nw)=>c6 (E [p.1,p.3,p.4,p.5,x.1] 0x143210) (@rfl aT (qg p)) (@rfl ae l0) j.next (iz _ a:(snoc ys (ao t.e)).length+us.length<=20) (λ(d:aa)(D:Nw)=>s h d))) (λ(h:¬x.tag.cps.toList<t.x.tag.cps.toList)(w:Nw)=>c6 (E [p.1,p.3,p.4,p.5,x.1] 0x143210) (@rfl aT (qg p)) (@rfl ae l0) j.next l (λ(d:aa)(B:Nw)=>u h d)))
theorem P':∀us:List Tr,(∀u∈us,ej b k0 fQ u.x)->bj b (MK x l0 xs us):=by intro us;induction us with|nil=>intro _;exact ct λ p v l i ys e rest K hi d a f=>by cases hi;exact dg.run G [⟨_,_,hl⟩] [fN hl] (oo 0x43241a22134141 []) λ n=>c4 (E [p.3] 0x1000) (@rfl ae l0) d.end (λ(g:ae)(D:Array aa)(m:Nw)=>c2 (E [g] 0x10) (aA ys▸f v))|cons t us j=>intro h;exact ct λ p v l i ys e rest K hi d a f=>by induction hi;exact FR G hx hl (h t (.head _)) (j λ u k=>h u (.tail _ k)) af trivial d a f
theorem Qa(t:Tr)(us:List Tr)(h:∀u∈t::us,ej b k0 fQ u.x):bj b (MJ x l0 xs (t::us)):=ct λ p l i ys e rest K hi d a f=>by induction hi;exact FR G hx hl (h t (.head _)) (P' G hx hl us λ u g=>h u (.tail _ g)) ah trivial d a f
end
noncomputable def Bt(y:El)(ps:List (ae×Sq)):List (ae×Sq):=ps.filter λ p=>!(y.tag.cps.toList.isPrefixOf (tg p.2.t))
noncomputable def Z7(x y:El)(l0:ae)(xs:List aa)(ps:List (ae×Sq))(p:Cp)(l:ae)(i:Int)(ys:List aa):Ct:=⟨[p.L,p.it,p.acc,p.c0],λ d u a=>[l=l0,dC xs i (bQ ps),ys.length+ps.length<=1000],λ K=>∀v,K 0 (.ok .next) [(p.L,.fr [v]),(p.acc,.ls (ys++bQ (Bt y ps))),(p.c0,.cl (ab (.ref x.e)))] []⟩
noncomputable def Ye(x y:El)(l0:ae)(xs:List aa)(ps:List (ae×Sq))(p:Cp)(v:aa):=Z7 x y l0 xs ps p
noncomputable def Qb:Bool->List Kd|ah=>[.dc [],.it,.ls,.cl]|af=>[.dc [f9],.it,.ls,.cl]
noncomputable def FT:List Kd:=[.dc [f9],.ls,.cl]
noncomputable def ML(x y:El)(l0:ae)(xs:List aa)(ps:List (ae×Sq)):Sp:=gb (.of fo qh) [.fr [],.it,.ls,.cs (.rq x.e)] (Qb ah) (k1 FT) (Z7 x y l0 xs ps)
noncomputable def MM(x y:El)(l0:ae)(xs:List aa)(ps:List (ae×Sq)):Sp:=gb (.of fo qh) [.fr [.an],.it,.ls,.cs (.rq x.e)] (Qb af) (k1 FT) (Ye x y l0 xs ps)
theorem ej.Uq{b:Bs}{k0 k1 a:ae}(h:ej b k0 k1 x)(hm:x.more=[⟨hh,.str jg th,.ref a⟩]):bN b x.dk (dO (ie x.h tK (f7 x)++[⟨hh,.str jg th,.ref a⟩]) x.h.e):=by have z:=h.dk;unfold B2 at z;rwa [hm]at z
section
variable{b:Bs}(G:Good b){k0 fQ:ae}{x y:El}(hx:ej b k0 fQ x)(hy:ej b k0 fQ y){hh:Int}{th:aX}(hm:x.more=[⟨hh,.str jg th,.ref y.e⟩]){l0:ae}{xs:List aa}{ep:Nat}(hl:bN b l0 (lO xs ep))
include G hx hy hm hl
theorem FU{e:Ev}{K:Kv}{q:ae×Sq}(g:eO b q)(r:ej b k0 fQ q.2.t.x){p:Cp}{i:Int}{ys:List aa}(u:bj b (MM x y l0 xs ps))(f:Bool){j:List aa}(w:mv f j)(k:dC xs i (bQ (q::ps)))(a:ys.length+(q::ps).length<=1000)(s:∀v,K 0 (.ok .next) [(p.L,.fr [v]),(p.acc,.ls (ys++bQ (Bt y (q::ps)))),(p.c0,.cl (ab (.ref x.e)))] []):dg b e (qh p) (Qb f) [(p.L,.fr j),(p.it,.it l0 i),(p.acc,.ls ys),(p.c0,.cl (ab (.ref x.e)))] (k1 FT) K:=by
 have A:¬y.tag.cps.toList<+:tg q.2.t->∀v,K 0 (.ok .next) [(p.L,.fr [v]),(p.acc,.ls (snoc ys (.ref q.1)++bQ (Bt y ps))),(p.c0,.cl (ab (.ref x.e)))] []:=λ h v=>by have z:=s v;unfold Bt at z;rw [lZ (by rw [i6];exact G8.mpr λ e=>h (hH.mp e))]at z;rw [fu];exact z
 have B:y.tag.cps.toList<+:tg q.2.t->∀v,K 0 (.ok .next) [(p.L,.fr [v]),(p.acc,.ls (ys++bQ (Bt y ps))),(p.c0,.cl (ab (.ref x.e)))] []:=λ h v=>by have z:=s v;unfold Bt at z;rwa [iX (by simpa using h)]at z
 have l:ys.length<=1048576:=ai (ai (bX _ _) a) (by decide);have m:ys.length+ps.length<=1000:=ai (cZ (om _) _) a;have o:=hx.Uq hm;obtain⟨I,C,g⟩:=g;induction f<;>rcases j with _|⟨v,_|⟨_,_⟩⟩<;>induction w;all_goals exact dg.run G [⟨_,_,hl⟩,⟨_,_,hx.fn⟩,⟨_,_,o⟩,⟨_,_,hy.fn⟩,⟨_,_,hy.dk⟩,⟨_,_,g⟩,⟨_,_,r.fn⟩,⟨_,_,r.dk⟩] [fc hl (.ref q.1),oSw,dP,⟨_,u⟩] (oo 0x32141431251612411b9991919755515158111f0ff0ff0ff10ff10ffd1d1ddd42422134141 [(oo 0x3214141235163215614 [])]) λ n=>c4 (E [p.3] 0x1000) (@rfl ae l0) k.at (λ(J:Nw)=>c3 (E [y.2,y.1,x.2,x.1,p.5,q.snd.t.x.2,q.snd.t.x.1,q.1,p.1] 0x1888777776666654333332111110) (λ(h:∃(t:List Nat),y.tag.cps.toList++t=q.snd.t.x.tag.cps.toList)(D:Nw)=>c6 (E [p.1,p.3,p.4,p.5,x.1] 0x143210) (@rfl aT (qh p)) (@rfl ae l0) k.next m (λ(d:aa)(F:Nw)=>B h d)) (λ(h:¬y.tag.cps.toList<+:q.snd.t.x.tag.cps.toList)(D:Nw)=>c3 (E [p.4,p.1] 0x1100) l (λ(H:Nat)(F:Nw)=>c6 (E [p.1,p.3,p.4,p.5,x.1] 0x143210) (@rfl aT (qh p)) (@rfl ae l0) k.next (iz _ a:(snoc ys (ao q.fst)).length+ps.length<=1000) (λ(d:aa)(L:Nw)=>A h d))))
theorem Qc:∀ps:List (ae×Sq),(∀q∈ps,eO b q/\ej b k0 fQ q.2.t.x)->bj b (MM x y l0 xs ps):=by intro ps;induction ps with|nil=>intro _;exact ct λ p v l i ys e rest K hi d a f=>by cases hi;exact dg.run G [⟨_,_,hl⟩] [fN hl] (oo 0x43241a22134141 []) λ n=>c4 (E [p.3] 0x1000) (@rfl ae l0) d.end (λ(g:ae)(D:Array aa)(m:Nw)=>c2 (E [g] 0x10) (aA ys▸f v))|cons t us j=>intro h;exact ct λ p v l i ys e rest K hi d a f=>by induction hi;exact FU G hx hy hm hl (h t (.head _)).1 (h t (.head _)).2 (j λ u k=>h u (.tail _ k)) af trivial d a f
theorem Qd(t:ae×Sq)(us:List (ae×Sq))(h:∀q∈t::us,eO b q/\ej b k0 fQ q.2.t.x):bj b (ML x y l0 xs (t::us)):=ct λ p l i ys e rest K hi d a f=>by induction hi;exact FU G hx hy hm hl (h t (.head _)).1 (h t (.head _)).2 (Qc G hx hy hm hl us λ u g=>h u (.tail _ g)) ah trivial d a f
end
noncomputable def xu:aR:=⟨#[95,108,97,119,95,98,101,115,116,95,102,105,114,115,116,46,60,108,111,99,97,108,115,62,46,60,108,97,109,98,100,97,62]⟩
noncomputable def MN:bO->bO|.Call _ _ (⟨_,x,_⟩::_) _=>x|_=>.Constant .none 0 default
noncomputable def VZ:List ea:=sB (bE gq 5) 0
noncomputable def Z8:List ea:=sB (bE gq 5) 1
noncomputable def J4:List ea:=sB (bE VZ 0) 0
noncomputable def J5(a:aa):eL:=uf (MN (sE (bE J4 0) 0)) xu a [] .none
noncomputable def tP(a:aa):eL:=uf (MN (xE (sE (bE Z8 0) 0) 0)) xu a [] .none
noncomputable def Bu(a:aa):eL:=uf (MN (sE (bE Z8 2) 0)) xu a [] .none
noncomputable def jb(ps:List (ae×Sq))(v:aa):Prop:=∃p∈ps,v=.ref p.1
theorem jb.ref(v:aa)(h:jb ps v):∃a,v=.ref a:=h.elim λ p h=>⟨p.1,h.2⟩
noncomputable def Af(b:Bs):aa->List aa
 |.ref a=>match b.h₀.get? a with|ab ⟨_,_,.seq xs _,_⟩=>xs.toList|_=>[]
 |_=>[]
noncomputable def Qe(b:Bs)(a:ae):ae:=match b.h₀.get? a with|ab ⟨_,ab d,_,_⟩=>d|_=>0
noncomputable def gM(b:Bs)(v:aa):Int:=match Af b v with|.int m _::_=>-m|_=>0
noncomputable def FV(b:Bs)(a:ae):aR:=match b.h₀.get? (Qe b a)with
 |ab ⟨_,_,.dict es _,_⟩=>match es.toList with|⟨_,_,.str s _⟩::_=>s|_=>xv
 |_=>xv
theorem sO{b:Bs}{a k1:ae}(h:ej b a k1 x):FV b x.e=x.tag:=by
 have e:Qe b x.e=x.dk:=by unfold Qe;rw [h.fn.1];rfl
 unfold FV;rw [e,h.dk.1];rfl
noncomputable def gT(b:Bs)(v:aa):aR:=match Af b v with|_::.ref a::_=>FV b a|_=>xv
section
theorem eO.Z9(h:eO b p):∃t,Af b (.ref p.1)=[.int p.2.mu t,.ref p.2.t.e,.bool p.2.so]:=by obtain⟨t,ep,h⟩:=h;refine⟨t,?_⟩;unfold Af;dsimp only;rw [h.1];rfl
theorem Ag(h:eO b p):gM b (.ref p.1)=-p.2.mu:=by obtain⟨t,h⟩:=h.Z9;unfold gM;rw [h]
theorem FW{a k1:ae}(h:eO b p)(c:ej b a k1 p.2.t.x):gT b (.ref p.1)=p.2.t.x.tag:=by obtain⟨t,h⟩:=h.Z9;unfold gT;rw [h];exact sO c
end
noncomputable def Ah(q:aR)(c:Int)(a:Nat->ae)(t:Nat->aX):List aa:=[.str oO (t 1),.str q (t 2),.str pT (t 3),.int c 0,.int 1 0,.int 0 0,.int 0 0,.int 19 0,.ref (a 0),.bool ah,.int 181 0,.ref (a 1),.none,.ref (a 2),.ref (a 3),.ref (a 4),.int (t 5:Nat) 0,.int c 0,.str pT (t 6)]
theorem jc:bZ (Ah q ln a t):=⟨_,_,_,_,rfl⟩
noncomputable def vP(b:Bs)(rest:Cells)(kc:ae):Prop:=∃cv,bZ cv/\Oi b rest kc (hU cv)
section
variable(G:Good b)(Bv:bZ cv)(Bx:bN b kc (hU cv))
include G Bv Bx
theorem Qf(a:bN b kf (fO (J5 (.ref kc)) az))(d:∀p∈ps,eO b p/\g (.ref p.1)=-p.2.mu):bj b (gc kf (lk g) (jb ps)):=ct λ v e rest K f h c=>by obtain⟨p,i,rfl⟩:=f;obtain⟨⟨l,ep,j⟩,k⟩:=d p i;obtain⟨m,q,t,r,rfl⟩:=Bv;unfold lk at c;rw [k]at c;exact dg.run G [⟨_,_,a⟩,⟨_,_,Bx⟩,⟨_,_,j⟩] [] (oo 0x111171717772112532 []) λ n=>c3 (jf h:e.dp+0<1000) (E [p.1,n.1 0,kf,kc] 0x13211100000) (c (n.tk 2))
theorem Qg(a:bN b kf (fO (tP (.ref kc)) az))(d:∀p∈ps,eO b p/\g (.ref p.1)=-p.2.mu):bj b (gc kf (lk g) (jb ps)):=ct λ v e rest K f h c=>by obtain⟨p,i,rfl⟩:=f;obtain⟨⟨l,ep,j⟩,k⟩:=d p i;obtain⟨m,q,t,r,rfl⟩:=Bv;unfold lk at c;rw [k]at c;exact dg.run G [⟨_,_,a⟩,⟨_,_,Bx⟩,⟨_,_,j⟩] [] (oo 0x111171717772112532 []) λ n=>c3 (jf h:e.dp+0<1000) (E [p.1,n.1 0,kf,kc] 0x13211100000) (c (n.tk 2))
theorem Qh(a:bN b kf (fO (Bu (.ref kc)) az))(f:∀p∈ps,(eO b p/\ej b k0 fQ p.2.t.x)/\g (.ref p.1)=p.2.t.x.tag):bj b (gc kf (uT g) (jb ps)):=ct λ v e rest K h i c=>by obtain⟨p,j,rfl⟩:=h;obtain⟨⟨⟨m,ep,k⟩,d⟩,l⟩:=f p j;obtain⟨o,q,t,r,rfl⟩:=Bv;unfold uT at c;rw [l]at c;exact dg.run G [⟨_,_,a⟩,⟨_,_,Bx⟩,⟨_,_,k⟩,⟨_,_,d.fn⟩,⟨_,_,d.dk⟩] [] (oo 0x111b999191971717772112532 []) λ n=>c3 (jf i:e.dp+0<1000) (E [p.snd.t.x.2,p.snd.t.x.1,p.1,n.1 0,kf,kc] 0x15433322222111110) (c p.2.t.x.tt)
end
section
theorem FX(c:(kf,fO (J5 (.ref kc)) az)∈rest)(f:vP b rest kc)(d:∀p∈ps,eO b p/\g (.ref p.1)=-p.2.mu):km b rest kf (lk g) (jb ps):=λ j G X a=>f.elim λ k y=>y.elim λ h i=>⟨⟨_,_,(a _ c).1⟩,Qf G h (i.in X a).1 (a _ c).1 λ p e=>⟨(d p e).1.ext X,(d p e).2⟩⟩
theorem mS(c:(kf,fO (tP (.ref kc)) az)∈rest)(f:vP b rest kc)(d:∀p∈ps,eO b p/\g (.ref p.1)=-p.2.mu):km b rest kf (lk g) (jb ps):=λ j G X a=>f.elim λ k y=>y.elim λ h i=>⟨⟨_,_,(a _ c).1⟩,Qg G h (i.in X a).1 (a _ c).1 λ p e=>⟨(d p e).1.ext X,(d p e).2⟩⟩
theorem vp{g:aa->aR}{f k1:ae}(e:(kf,fO (Bu (.ref kc)) az)∈rest)(h:vP b rest kc)(a:∀p∈ps,(eO b p/\ej b f k1 p.2.t.x)/\g (.ref p.1)=p.2.t.x.tag):km b rest kf (uT g) (jb ps):=λ k G X c=>h.elim λ l y=>y.elim λ i j=>⟨⟨_,_,(c _ e).1⟩,Qh G i (j.in X c).1 (c _ e).1 λ p d=>⟨⟨(a p d).1.1.ext X,(a p d).1.2.ext X⟩,(a p d).2⟩⟩
end
noncomputable def Ur(c:aT):Bp:=⟨nE c,jO 3 c,jO 2 c,jO 1 c,jO 0 c,0⟩
structure Fp where
 p:Bp
 it:ae
noncomputable def By(c:aT):Fp:=⟨Ur c,N0 c⟩
noncomputable def qi(f:Fp):aT:=.forLoop (sE (bE VZ 0) 0) (.ref f.it) J4 [] (cw f.p)
noncomputable def q7(kc:ae)(tm:List aa):List aa:=.int 166 0::.int 44 0::.ref kc::tm
noncomputable def FY(b:Bs)(rest:Cells)(tv:List aa):Prop:=∃kc tm,tv=q7 kc tm/\vP b rest kc
structure w_(b:Bs)(g:aa->Int)(P:List (ae×Sq))(m:Int)(zs rs:List (ae×Sq)):Prop where
 z:∀p∈zs,p∈P/\p.2.mu=m
 r:∀p∈rs,p∈P/\p.2.mu<=m
 n:zs.length+rs.length<=1000
 i:∀p∈P,eO b p/\g (.ref p.1)=-p.2.mu
section
theorem w_.next(h:w_ b g P m (q::zs) rs):w_ b g P m zs (q::rs):=⟨λ p a=>h.z p (.tail _ a),dJ.mpr ⟨⟨(h.z q (.head _)).1,b0 (h.z q (.head _)).2⟩,h.r⟩,by have:=h.n;rw [eH]at this⊢;exact li 0x3e8301104131303e8304110311111 [zs.length,rs.length] rfl this,h.i⟩
theorem qj(h:v∈bQ ps):∃p∈ps,v=.ref p.1:=(ba.mp h).elim λ p y=>y.elim λ a e=>⟨p,a,e.symm⟩
theorem k4(ps:List (ae×Sq)):(bQ ps).length=ps.length:=aM ..
theorem w_.le(h:w_ b g P m zs rs):(bQ rs).length<=1048576:=by have:=h.n;rw [k4];exact li 0x100000604303e830431111 [zs.length,rs.length] rfl this
theorem w_.st(h:w_ b g P m (q::zs) rs)(t:aX):hN (ltI g) ry (jb P) (bQ rs) (lk g (.ref q.1) t) 0 ((bQ rs).length:Int) 0:=⟨aN _,aN _,aS _,aN _,h.le,λ i v j j c=>by obtain⟨p,d,rfl⟩:=qj (je c);have e:=h.r p d;have f:=h.z q (.head _);refine iff_of_false (λ a=>?_) (b_.mpr (aS i));have a:g (.ref p.1)<g (.ref q.1):=a;rw [(h.i p e.1).2,(h.i q f.1).2]at a;exact lj 0x18464112287112076112 [] [p.snd.1,m,q.snd.1] rfl e.2 f.2.symm a,λ v c=>by obtain⟨p,d,rfl⟩:=qj c;exact⟨p,(h.r p d).1,rfl⟩,⟨_,_,rfl⟩⟩
theorem w_.ok(h:w_ b g P m (q::zs) rs):jb P (.ref q.1):=⟨q,(h.z q (.head _)).1,rfl⟩
end
noncomputable def cFl(b:Bs)(sel:List Nat)(g:aa->Int)(P:List (ae×Sq))(m:Int)(a c:List (ae×Sq))(f:Fp)(l:ae)(i:Int)(more:List aj)(u1 u2 u3 u4 u5 h:aa)(rw:ae)(xs e tv:List aa):Ct:=⟨[f.it,f.p.L,f.p.cr,rw,l,136],λ d u r=>[d+100<900,xs=bQ c,dC e i (bQ a),w_ b g P m a c,FY b (pick r sel) tv],λ K=>∀v,K 0 (.ok .next) [(f.p.L,.fm [u1,u2,u3,u4,u5,v] more),(f.p.cr,.cl (ab (.ref rw))),(rw,.ls (bQ (a.reverse++c))),(136,.fr tv)] []⟩
noncomputable def Yf(b:Bs)(g:aa->Int)(P:List (ae×Sq))(m:Int)(a c:List (ae×Sq))(f:Fp)(l:ae)(i:Int)(more:List aj)(u1 u2 u3 u4 u5:aa)(rw:ae)(xs e tv:List aa):Ct:=⟨[f.it,f.p.L,f.p.cr,rw,l,136],λ d u r=>[d+100<900,more=[],tv=[],xs=bQ c,dC e i (bQ a),w_ b g P m a c],λ K=>∀v kc cv,bZ cv->K 0 (.ok .next) [(f.p.L,.fm [u1,u2,u3,u4,u5,v] []),(f.p.cr,.cl (ab (.ref rw))),(rw,.ls (bQ (a.reverse++c))),(136,.fr (q7 kc []))] [(kc,hU cv)]⟩
noncomputable def Yg:List Kd:=[.it,.fm P8,.cl,.ls,.ls,.tb]
noncomputable def Us:List Kd:=[.it,.fm Bo,.cl,.ls,.ls,.tb]
noncomputable def MO:List Kd:=[.fm P8,.cl,.ls,.tb]
noncomputable def Yh(b:Bs)(sel:List Nat)(g:aa->Int)(P:List (ae×Sq))(m:Int)(a c:List (ae×Sq)):Sp:=gb (.of By qi) [.it,.fm [.an,.an,.an,.an,.an,.an],.cs .re,.ls,.ls,.fv] Yg (k1 MO) (cFl b sel g P m a c)
noncomputable def Ut(b:Bs)(g:aa->Int)(P:List (ae×Sq))(m:Int)(a c:List (ae×Sq)):Sp:=gb (.of By qi) [.it,.fm [.an,.an,.an,.an,.an],.cs .re,.ls,.ls,.fv] Us (k1 MO) (Yf b g P m a c)
theorem w_.ext(E:Ext b b')(h:w_ b g P m zs rs):w_ b' g P m zs rs:=⟨h.z,h.r,h.n,λ p a=>⟨(h.i p a).1.ext E,(h.i p a).2⟩⟩
section
theorem MP:∀(d c:List (ae×Sq))(sel:List Nat){b:Bs}(G:Good b),bj b (Yh b sel g P m d c):=by
 intro d
 induction d with
  |nil=>intro c sel b G;exact x5 G λ f l i more u1 u2 u3 u4 u5 x rw xs C tv o e rest K G X y s u k a A h=>by subst u;exact dg.run G [] [kF] (oo 0x6543511e513132121 []) λ n=>c3 (E [f.2,l] 0x10010) k.end (λ(w:ae)(D:Array aa)(B:Nw)=>c2 (E [w] 0x10) (h x))
  |cons q d F=>
   intro c sel b G
   exact x5 G λ f l i more u1 u2 u3 u4 u5 x rw xs C tv o e rest K G X y s u k a A h=>by
    subst u;obtain⟨kc,tm,rfl,cv,Bv,Bx⟩:=A;have Bx:=Bx.in X λ p H=>y p (dw H);have a:=a.ext X;obtain⟨I,J,ct,r,rfl⟩:=Bv;have j:∀l,vP o l kc:=λ l=>⟨_,⟨_,_,_,_,rfl⟩,.inr Bx⟩;have h:∀v,K 0 (.ok .next) [(f.p.L,.fm [u1,u2,u3,u4,u5,v] more),(f.p.cr,.cl (ab (.ref rw))),(rw,.ls (bQ (d.reverse++q::c))),(136,.fr (q7 kc tm))] []:=λ v=>by have z:=h v;rwa [k8,bb]at z
    exact dg.run G [⟨_,_,Bx.1⟩] [jN (.ref q.1),⟨_,zu (ok:=jb P) (g:=g) G [0] jb.ref 0⟩,⟨_,F (q::c) [] G⟩] (oo 0x43215174165371562141111c168136513132121 []) λ n=>c3 (E [f.2,l] 0x10010) k.at (λ(B:Nw)=>c6 (E [rw,41,136,f.p.1,f.p.2] 0x13343210) (FX (rest:=[(B.ad 0,fO (J5 (.ref kc)) az)]) (.head _) (j _) a.i) (fj s:e.dp+0+60<900) a.ok (λ(t:aX)=>a.st t) (λ(L:Nw)=>c8 (E [f.2,f.p.1,f.p.2,rw,l,136] 0x1543210) (@rfl aT (qi (By (ic (sE (bE VZ 0) 0) (ao f.it) J4 [] (cw f.p))))) s (@rfl (List aa) (bQ (q::c))) k.next a.next ((⟨kc,tm,rfl,j _⟩:FY o [] (q7 kc tm))) (λ(v:aa)(M:Nw)=>h v)))
theorem Qi(q:ae×Sq)(j d:List (ae×Sq))(G:Good b):bj b (Ut b g P m (q::j) d):=x5 G λ f l i more u1 u2 u3 u4 u5 rw xs x tv r e rest K G X y o s u w p c k=>by
 subst w s u;have c:=c.ext X;have k:∀v kc cv,bZ cv->K 0 (.ok .next) [(f.p.L,.fm [u1,u2,u3,u4,u5,v] []),(f.p.cr,.cl (ab (.ref rw))),(rw,.ls (bQ (j.reverse++q::d))),(136,.fr (q7 kc []))] [(kc,hU cv)]:=λ v kc cv h=>by have z:=k v kc cv h;rwa [k8,bb]at z
 exact dg.run G [] [jN (.ref q.1),⟨_,zu (ok:=jb P) (g:=g) G [0,1] jb.ref 0⟩,⟨_,MP (g:=g) (P:=P) (m:=m) j (q::d) [1] G⟩] (oo 0x6432161da1cb9715c214111118fc18fc168136513132121 []) λ n=>c3 (E [f.2,l] 0x10010) p.at (λ(a:Nw)=>c6 (E [rw,41,136,f.p.1,f.p.2] 0x13343222210) (FX (rest:=[(a.ad 6,fO (J5 (.ref (a.ad 5))) az),(a.ad 5,hU (Ah xu 166 a.ad a.tk))]) (.head _) ⟨_,jc,.inl (.tail _ (.head _))⟩ c.i) (fj o:e.dp+0+60<900) c.ok (λ(t:aX)=>c.st t) (λ(A:Nw)=>c8 (E [f.2,f.p.1,f.p.2,rw,l,136] 0x1543210) (@rfl aT (qi (By (ic (sE (bE VZ 0) 0) (ao f.it) J4 [] (cw f.p))))) o (@rfl (List aa) (bQ (q::d))) p.next c.next ((⟨_,[],rfl,_,jc,.inl (.head _)⟩:FY r [(a.ad 5,hU (Ah xu 166 a.ad a.tk))] (q7 (a.ad 5) []))) (λ(v:aa)(B:Nw)=>k v (a.ad 5) (Ah xu 166 a.ad a.tk) jc)))
end
noncomputable def dD:List Kd:=[.fm Bo,.cl,.cl,.cl,.cl,.ls,.tb,.ls]
noncomputable def fH(p:Bp)(us:List aa)(more:List aj)(rw:ae)(o1 o2 o3:Option aa)(xs ys tv:List aa):List eK:=[(p.L,.fm us more),(p.cr,.cl (ab (.ref rw))),(p.cm,.cl o1),(p.cn,.cl o2),(p.cs,.cl o3),(p.sn,.ls ys),(136,.fr tv),(rw,.ls xs)]
noncomputable def qk:List Kd:=[.fr Un,.cl,.cl,.cl,.cl,.ls,.tb,.ls]
noncomputable def mU(p:Bp)(us:List aa)(rw:ae)(o1 o2 o3:Option aa)(xs ys tv:List aa):List eK:=[(p.L,.fr us),(p.cr,.cl (ab (.ref rw))),(p.cm,.cl o1),(p.cn,.cl o2),(p.cs,.cl o3),(p.sn,.ls ys),(136,.fr tv),(rw,.ls xs)]
theorem Uu{xs:List aa}{st:Option Int}(a:¬st=ab 0)(h:xs.length<=1048576):¬st=ab 0/\xs.length<=1048576:=⟨a,h⟩
theorem Yi{l:ae}{xs:List aa}{st:Option Int}(a:¬st=ab 0)(h:xs.length<=1048576):l=l/\¬st=ab 0/\xs.length<=1048576:=⟨rfl,a,h⟩
section
variable{b:Bs}(G:Good b){e:Ev}{K:Kv}{p:Bp}{k0 fQ:ae}{x:El}{u1 u2 u3 u4 u5:aa}{more:List aj}{rw tu:ae}{m:Int}{tm:aX}{so:Bool}{ep:Nat}{o1 o2 o3:Option aa}{xs ys tv:List aa}
include G
section
variable(hx:ej b k0 fQ x)(w':bN b tu (tO [.int m tm,.ref x.e,.bool so] ep))(hl:xs.length<=1000)
include hx w' hl
theorem Qj(hm:x.most=ah)(c:K 0 (.ok .next) (fH p [u1,u2,u3,.bool so,.ref x.bT] more rw (ab (.int m tm)) (ab (.ref x.e)) o3 xs ys tv) []):DS b e (bR p) (cj 2 gq) (cw p) dD (fH p [u1,u2,u3,u4,u5] more rw o1 o2 o3 (.ref tu::xs) ys tv) (k1 dD) K:=DS.run G [⟨_,_,hx.fn⟩,⟨_,_,hx.tL hm⟩,⟨_,_,w'⟩] [P7] (oo 0x4ba98765915a5333131310f5333131310f5a810f7e21272212121272212121272212121272212122171777821310f110f10f10f10f4 []) λ n=>c3 (E [rw,p.2] 0x11000000) (c2 (@rfl Int 0) hl) (λ(d:Nat)(a:Nw)=>c2 (E [p.1,x.2,x.1,p.4,p.3,a.1 2,a.1 0,tu] 0x177776666676666667666666766666676654433003222221322222100) c)
theorem J6(hm:x.most=af)(f:x.kids.length<=10)(h:∀a,K 0 (.ok .next) (fH p [u1,u2,u3,.bool so,.ref a] more rw (ab (.int m tm)) (ab (.ref x.e)) o3 xs ys tv) [(a,lO (fe (refsOf x.kids) az (ab 1) az) 0)]):DS b e (bR p) (cj 2 gq) (cw p) dD (fH p [u1,u2,u3,u4,u5] more rw o1 o2 o3 (.ref tu::xs) ys tv) (k1 dD) K:=by
 have c:(refsOf x.kids).length<=1048576:=by unfold refsOf;rw [aM];exact li 0x10000060330a103111 [x.kids.length] rfl f
 exact DS.run G [⟨_,_,hx.fn⟩,⟨_,_,hx.tL hm⟩,⟨_,_,hx.bT⟩,⟨_,_,w'⟩] [P7,kg hx.bT] (oo 0xd5cba9876a16c11214717775333131310f5333131310f5a810f7e21292212121292212121292212121292212122191999821310f110f10f10f10f4 []) λ n=>c3 (E [rw,p.2] 0x11000000) (c2 (@rfl Int 0) hl) (λ(i:Nat)(d:Nw)=>c3 (E [d.1 3,x.3,x.2,x.1,p.4,p.1,p.3,d.1 2,d.1 0,tu] 0x199998888898888889888888988888898876644554333332433333211110) (Yi (l:=x.bT) (st:=az) (by decide) c) (λ(a:ae)(j:Nw)=>c2 (E [p.1] 0x100) (h a)))
theorem J7(hm:x.most=ah)(c:K 0 (.ok .next) (fH p [u1,u2,u3,.bool so,.ref x.bT] [] rw (ab (.int m tm)) (ab (.ref x.e)) o3 xs ys tv) []):DS b e (bR p) (cj 2 gq) (cw p) qk (mU p [u1,u2,u3] rw o1 o2 o3 (.ref tu::xs) ys tv) (k1 dD) K:=DS.run G [⟨_,_,hx.fn⟩,⟨_,_,hx.tL hm⟩,⟨_,_,w'⟩] [P7] (oo 0x4ba98765915a5333131310f5333131310f5a810f7e21272212121272212121272212121272212122171777821310f110f10f10f10f4 []) λ n=>c3 (E [rw,p.2] 0x11000000) (c2 (@rfl Int 0) hl) (λ(d:Nat)(a:Nw)=>c2 (E [p.1,x.2,x.1,p.4,p.3,a.1 2,a.1 0,tu] 0x177776666676666667666666766666676654433003222221322222100) c)
end
theorem J8(a:K 0 (.ok .next) (fH p [u1,u2,u3,.bool af,u5] more rw o1 o2 o3 xs ys tv) []):DS b e (bR p) (cj 1 (aC 2 gq)) (cw p) dD (fH p [u1,u2,u3,.bool af,u5] more rw o1 o2 o3 xs ys tv) (k1 dD) K:=DS.run G [] [] (oo 0x87654321912 []) λ n=>c2 (E [p.1] 0x10) a
section
variable{y:El}{hh:Int}{th:aX}(hx:ej b k0 fQ x)(hm:x.more=[⟨hh,.str jg th,.ref y.e⟩])(hy:ej b k0 fQ y)
include hx hm hy
theorem J9(c:y.most=ah)(d:∀a,K 0 (.ok .next) (fH p [u1,u2,u3,.bool ah,.ref a] more rw o1 (ab (.ref x.e)) o3 xs ys tv) [(a,lO [] 0)]):DS b e (bR p) (cj 1 (aC 2 gq)) (cw p) dD (fH p [u1,u2,u3,.bool ah,u5] more rw o1 (ab (.ref x.e)) o3 xs ys tv) (k1 dD) K:=by have B7:=hx.Uq hm;exact DS.run G [⟨_,_,hx.fn⟩,⟨_,_,B7⟩,⟨_,_,hy.fn⟩,⟨_,_,hy.tL c⟩] [] (oo 0x198765432a1241977717175333131382 []) λ n=>c2 (E [p.1,y.2,y.1,x.2,x.1,p.4] 0x10544444322222100) (d (n.ad 0))
theorem J_{us:List Tr}(c:y.most=af)(h:bj b (MJ x y.bT (refsOf y.kids) us))(hR:dC (refsOf y.kids) 0 (ef us))(hn:us.length<=10)(i:∀a,K 0 (.ok .next) (fH p [u1,u2,u3,.bool ah,.ref a] more rw o1 (ab (.ref x.e)) o3 xs ys tv) [(a,lO (fe (ef (w9 x us)) az (ab 1) az) 0)]):DS b e (bR p) (cj 1 (aC 2 gq)) (cw p) dD (fH p [u1,u2,u3,.bool ah,u5] more rw o1 (ab (.ref x.e)) o3 xs ys tv) (k1 dD) K:=by
 have B7:=hx.Uq hm;have d:([]:List aa).length+us.length<=20:=ai (cR (cN _)) (ai hn (by decide));have f:(ef (w9 x us)).length<=1048576:=by unfold ef w9;rw [aM];exact ai (fq _ _) (ai hn (by decide))
 exact DS.run G [⟨_,_,hx.fn⟩,⟨_,_,B7⟩,⟨_,_,hy.fn⟩,⟨_,_,hy.tL c⟩,⟨_,_,hy.bT⟩] [⟨_,h⟩,pO] (oo 0xcba984765a15a1133146166612272315136221b1bb1977717175333131381977717175333131382 []) λ n=>c6 (E [n.1 2,n.1 0,n.1 1,p.4,x.1,y.3,y.2,y.1,x.2,p.1] 0x19344444877777634444487777765551143210) (@rfl aT (qg (Cp.mk (n.1 2) p.1 (n.1 0) (n.1 1) p.4 0 0))) (@rfl ae y.bT) hR d (λ(v:aa)(j:Nw)=>c3 (E [n.1 1,j.1 0,n.1 2] 0x1222000010) (Uu (st:=az) (by decide) f) (λ(a:ae)(l:Nw)=>c2 (E [p.1] 0x100) (i a)))
end
theorem J'{a:ae}{ep:Nat}(d:bN b a (lO [] ep))(f:∀st,K 0 (.ok .next) (fH p [u1,u2,u3,u4,.ref a] more rw o1 o2 (ab (.ref st)) xs ys tv) [(st,lO [] 0)]):DS b e (bR p) (cj 1 (aC 3 gq)) (cw p) dD (fH p [u1,u2,u3,u4,.ref a] more rw o1 o2 o3 xs ys tv) (k1 dD) K:=DS.run G [⟨_,_,d⟩] [fN d] (oo 0x3ba987654a1810f418f32136161622131332 []) λ n=>c4 (E [n.1 0,a,p.1] 0x1211100000) (@rfl ae a) (dC.start []).end (λ(c:ae)(D:Array aa)(h:Nw)=>c2 (E [p.5,n.1 2,c] 0x12100) (f (n.ad 1)))
noncomputable def Yj:List Kd:=[.dc [],.ls,.cl,.fm Bo,.cl,.cl,.cl,.ls,.tb,.ls]
noncomputable def Yk(p:Bp)(d st:ae)(a us:List aa)(more:List aj)(rw:ae)(o1 o2 o3:Option aa)(xs ys tv:List aa):List eK:=[(d,.fr []),(st,.ls a),(p.cm,.cl o1),(p.L,.fm us more),(p.cr,.cl (ab (.ref rw))),(p.cn,.cl o2),(p.cs,.cl o3),(p.sn,.ls ys),(136,.fr tv),(rw,.ls xs)]
theorem Qk{a:ae}{ep:Nat}{t:Tr}(i:bN b a (lO (ef (t::us)) ep))(hn:(t::us).length<=10)(j:∀d st qs tl,Br m (t::us) qs->(∀p∈qs,FP tl p)->K 0 (.ok .next) (Yk p d st (bQ qs) [u1,u2,u3,u4,.ref a] more rw (ab (.int m tm)) o2 (ab (.ref st)) xs ys tv) tl):DS b e (bR p) (cj 1 (aC 3 gq)) (cw p) dD (fH p [u1,u2,u3,u4,.ref a] more rw (ab (.int m tm)) o2 o3 xs ys tv) (k1 Yj) K:=by have c:([]:List aa).length+(t::us).length<=20:=ai (cR (cN _)) (ai hn (by decide));exact DS.run G [⟨_,_,i⟩] [⟨_,P_ G i t us⟩] (oo 0xfbf217e1226231513622131332 []) λ n=>c6 (E [n.1 2,n.1 0,n.1 1,p.3,a,p.1] 0x15444113210) (@rfl aT (sN (Cp.mk (n.1 2) p.1 (n.1 0) (n.1 1) p.3 0 0))) (@rfl ae a) (dC.start (ef (t::us))) c (λ(v:aa)(qs:List (ae×Sq))(tl:Cells)(h:Br m (t::us) qs)(f:∀(p:ae×Sq),p∈qs->FP tl p)(l:Nw)=>c2 (E [p.5,n.1 2] 0x111100) (j (n.ad 2) (n.ad 1) qs tl h f))
theorem Ai:DT b e (bR p) (xE (sE (bE gq 4) 0) 0) (cw p) dD (fH p [u1,u2,u3,.bool so,u5] more rw o1 o2 o3 xs ys tv) (k1 dD) (eM (.bool so) (fH p [u1,u2,u3,.bool so,u5] more rw o1 o2 o3 xs ys tv)):=DT.run G [] [] (oo 0x87654321912 []) λ n=>c2 (E [p.1] 0x10) (iG (.bool so) (fH p [u1,u2,u3,.bool so,u5] more rw o1 o2 o3 xs ys tv))
theorem Ka:DE b e (bR p) (xE (xE (sE (bE gq 4) 0) 1) 0) (cw p) dD (fH p [u1,u2,u3,u4,.ref a] more rw o1 o2 o3 xs ys tv) (k1 dD) (eM (.ref a) (fH p [u1,u2,u3,u4,.ref a] more rw o1 o2 o3 xs ys tv)):=DE.run G [] [] (oo 0x87654321912 []) λ n=>c2 (E [p.1] 0x10) (iG (.ref a) (fH p [u1,u2,u3,u4,.ref a] more rw o1 o2 o3 xs ys tv))
theorem Aj:DE b e (bR p) (xE (sE (bE (sB (bE gq 4) 1) 0) 0) 0) (cw p) dD (fH p [u1,u2,u3,u4,.ref a] more rw o1 o2 o3 xs ys tv) (k1 dD) (eM (.ref a) (fH p [u1,u2,u3,u4,.ref a] more rw o1 o2 o3 xs ys tv)):=DE.run G [] [] (oo 0x87654321912 []) λ n=>c2 (E [p.1] 0x10) (iG (.ref a) (fH p [u1,u2,u3,u4,.ref a] more rw o1 o2 o3 xs ys tv))
theorem Kb{sn:ae}(d:bj b (EL x))(hd:e.dp+110<900)(f:e.un+110<9900)(hy:ys.length<=1000)(h:∀st tu t t',K 0 (.ok .next) (fH ⟨p.L,p.cr,p.cm,p.cn,p.cs,sn⟩ [u1,u2,.ref sn,u4,u5] more rw (ab (.int m tm)) (ab (.ref x.e)) (ab (.ref st)) xs (snoc ys (.str x.tag t')) tv) [(st,lO [.ref tu] 0),(tu,tO [.int (min m x.n) t,.ref x.e,.bool ah] 0)]):DS b e (bR p) (sB (bE (sB (bE gq 4) 1) 0) 0) (cw p) dD (fH ⟨p.L,p.cr,p.cm,p.cn,p.cs,sn⟩ [u1,u2,.ref sn,u4,u5] more rw (ab (.int m tm)) (ab (.ref x.e)) o3 xs ys tv) (k1 dD) K:=DS.run G [] [⟨_,d⟩,TJ G] (oo 0x21a9387654b1810fa114162131281611 []) λ n=>c5 (E [sn,x.1,p.1,p.4,p.3] 0x143210) (fj hd:e.dp+0+100<900) f hy (λ(t:aX)(t':aX)(i:Nw)(a:aX)(c:Nw)=>c2 (E [p.5,p.4] 0x1100) (h (c.ad 1) (c.ad 0) a t'))
section
variable{y:El}{hh:Int}{th:aX}(hx:ej b k0 fQ x)(hm:x.more=[⟨hh,.str jg th,.ref y.e⟩])
include hx hm
theorem Ke{ps:List (ae×Sq)}{q:ae×Sq}{ep:Nat}(hl:bN b rw (lO (bQ (q::ps)) ep))(f:bj b (ML x y rw (bQ (q::ps)) (q::ps)))(hn:(q::ps).length<=1000)(h:∀a st tu,K 0 (.ok .next) (fH p [u1,u2,u3,u4,u5] more a (ab (.int m tm)) (ab (.ref x.e)) (ab (.ref st)) (bQ (Bt y (q::ps))) ys tv) [(st,lO [.ref tu] 0),(tu,tO [.int m tm,.ref y.e,.bool ah] 0)]):DS b e (bR p) (sB (bE gq 4) 0) (cw p) [.fm Bo,.cl,.cl,.cl,.cl,.ls,.tb] [(p.L,.fm [u1,u2,u3,u4,u5] more),(p.cr,.cl (ab (.ref rw))),(p.cm,.cl (ab (.int m tm))),(p.cn,.cl (ab (.ref x.e))),(p.cs,.cl o3),(p.sn,.ls ys),(136,.fr tv)] (k1 dD) K:=by have B7:=hx.Uq hm;have c:=ai (cR (cN _)) hn;exact DS.run G [⟨_,_,hl⟩,⟨_,_,hx.fn⟩,⟨_,_,B7⟩] [⟨_,f⟩] (oo 0x214ba95876b1912f755515156c5a1227231513622131334 []) λ n=>c6 (E [n.1 2,n.1 0,n.1 1,p.4,x.1,rw,p.2] 0x165551143210) (@rfl aT (qh (Cp.mk (n.1 2) p.1 (n.1 0) (n.1 1) p.4 0 0))) (@rfl ae rw) (dC.start (bQ (q::ps))) c (λ(v:aa)(d:Nw)=>c2 (E [p.5,x.2,x.1,p.4,p.3,p.2,n.1 2] 0x1666554322222100) (h (n.ad 1) (d.ad 1) (d.ad 0)))
theorem Kf{ep:Nat}(hl:bN b rw (lO [] ep))(f:∀a st tu,K 0 (.ok .next) (fH p [u1,u2,u3,u4,u5] more a (ab (.int m tm)) (ab (.ref x.e)) (ab (.ref st)) [] ys tv) [(st,lO [.ref tu] 0),(tu,tO [.int m tm,.ref y.e,.bool ah] 0)]):DS b e (bR p) (sB (bE gq 4) 0) (cw p) [.fm Bo,.cl,.cl,.cl,.cl,.ls,.tb] [(p.L,.fm [u1,u2,u3,u4,u5] more),(p.cr,.cl (ab (.ref rw))),(p.cm,.cl (ab (.int m tm))),(p.cn,.cl (ab (.ref x.e))),(p.cs,.cl o3),(p.sn,.ls ys),(136,.fr tv)] (k1 dD) K:=by have B7:=hx.Uq hm;exact DS.run G [⟨_,_,hl⟩,⟨_,_,hx.fn⟩,⟨_,_,B7⟩] [fN hl] (oo 0x215cba9876b1a14f75551515ec5a416f32136161622131334 []) λ n=>c4 (E [n.1 0,rw,p.2] 0x1211100000) (@rfl ae rw) (dC.start []).end (λ c(D:Array aa)(d:Nw)=>c2 (E [p.5,x.2,x.1,p.4,p.3,p.2,n.1 2,c] 0x176554322222100) (f (n.ad 1) (d.ad 1) (d.ad 0)))
end
theorem vq(v:Bool){st t0:ae}{c:List aa}{m0:Int}{t1:aX}{f w2:aa}{e1 e2:Nat}(uw:bN b st (lO (.ref t0::c) e1))(ht:bN b t0 (tO [.int m0 t1,f,w2] e2))(d:(ao t0::c).length<=1048576)(a:HY v (m0=m)):DT b e (bR p) (sE (bE gq 5) 0) (cw p) dD (fH p [u1,u2,u3,u4,u5] more rw (ab (.int m tm)) o2 (ab (.ref st)) xs ys tv) (k1 dD) (eM (.bool v) (fH p [u1,u2,u3,u4,u5] more rw (ab (.int m tm)) o2 (ab (.ref st)) xs ys tv)):=by
 induction v;.have a:=a;exact DT.run G [⟨_,_,uw⟩,⟨_,_,ht⟩] [e8 uw (.ref t0),xU af] (oo 0x8765432191114161515155511331333a []) λ n=>c4 (E [st,p.5] 0x110000) (@rfl ae st) (c3 (aN 0) d (@rfl (Option aa) (ab (ao t0)))) (λ(h:Nw)=>c3 (E [p.3,t0] 0x1111110) a (λ(i:Nw)=>(iG (.bool af) (fH p [u1,u2,u3,u4,u5] more rw (ab (.int m tm)) o2 (ab (.ref st)) xs ys tv))))
 .have a:=a;exact DT.run G [⟨_,_,uw⟩,⟨_,_,ht⟩] [e8 uw (.ref t0),xU ah] (oo 0x8765432191114161515155511331333a []) λ n=>c4 (E [st,p.5] 0x110000) (@rfl ae st) (c3 (aN 0) d (@rfl (Option aa) (ab (ao t0)))) (λ(h:Nw)=>c3 (E [p.3,t0] 0x1111110) a (λ(i:Nw)=>(iG (.bool ah) (fH p [u1,u2,u3,u4,u5] more rw (ab (.int m tm)) o2 (ab (.ref st)) xs ys tv))))
noncomputable def Uv:List Kd:=[.fm P8,.cl,.cl,.cl,.cl,.ls,.tb,.ls]
section
variable{st:ae}{g:aa->Int}{P qs ps:List (ae×Sq)}{e1:Nat}{mu:Int}(uw:bN b st (lO (bQ qs) e1))(hR:dC (fe (bQ qs) az az (ab (-1))) 0 (bQ qs.reverse))(hF:w_ b g P mu qs.reverse ps)(hn:(bQ qs).length<=1048576)(hd:e.dp+100<900)
include uw hR hF hn hd
theorem Kg{hx:Ht}{u6:aa}(f:FY b [] tv)(c:∀v,K 0 (.ok .next) (fH p [u1,u2,u3,u4,u5,v] more rw o1 o2 (ab (.ref st)) (bQ (qs++ps)) ys tv) []):DS b e (bR p) (sB (bE gq 5) 0) (cw p) dD (fH p [u1,u2,u3,u4,u5] (ie hx [f9] [u6]++more) rw o1 o2 (ab (.ref st)) (bQ ps) ys tv) (k1 Uv) K:=by
 have c:∀v,K 0 (.ok .next) (fH p [u1,u2,u3,u4,u5,v] more rw o1 o2 (ab (.ref st)) (bQ (qs.reverse.reverse++ps)) ys tv) []:=by rw [nQ];exact c
 exact DS.run G [⟨_,_,uw⟩] [kg uw,⟨_,MP (g:=g) (P:=P) (m:=mu) qs.reverse ps [] G⟩] (oo 0x34987621919ba4317142114f114f14f12133133311a []) λ n=>c3 (E [n.1 0,st,p.5] 0x1211110) (Yi (l:=st) (st:=ab (-1)) (by decide) hn) (λ(a:ae)(d:Nw)=>c8 (E [d.1 0,p.1,p.2,rw,a,136] 0x14440543210) (@rfl aT (qi (By (ic (cC (aG "state") (bB 165 16 165 21)) (ao (d.ad 0)) [rR ((cC (aG "insort_left") (bB 166 16 166 27)).Call [cC (aG "row") (bB 166 28 166 31),cC (aG "state") (bB 166 33 166 38)] [oq (ab (aG "key")) (nR (k9 [] [G9 (aG "one") az (bB 166 51 166 54)] az [] [] az []) (xF vK ((cC (aG "one") (bB 166 57 166 60)).Subscript (iJ (vW 0) 0 (bB 166 61 166 62)) (bB 166 57 166 63)) (bB 166 56 166 63)) (ua iv [(aG "one",NameKind.local)] af af []) (bB 166 44 166 63)) (bB 166 40 166 63)] (bB 166 16 166 64)) (bB 166 16 166 64)] [] (cw p))))) hd (@rfl (List aa) (bQ ps)) hR hF f (λ(v:aa)(h:Nw)=>c v))
theorem Kh{q:ae×Sq}{d:List (ae×Sq)}(i:qs.reverse=q::d)(f:∀v kc c,bZ c->K 0 (.ok .next) (fH p [u1,u2,u3,u4,u5,v] [] rw o1 o2 (ab (.ref st)) (bQ (qs++ps)) ys (q7 kc [])) [(kc,hU c)]):DS b e (bR p) (sB (bE gq 5) 0) (cw p) dD (fH p [u1,u2,u3,u4,u5] [] rw o1 o2 (ab (.ref st)) (bQ ps) ys []) (k1 Uv) K:=by
 have f:∀v kc c,bZ c->K 0 (.ok .next) (fH p [u1,u2,u3,u4,u5,v] [] rw o1 o2 (ab (.ref st)) (bQ ((q::d).reverse++ps)) ys (q7 kc [])) [(kc,hU c)]:=by rw [<-i,nQ];exact f
 rw [i]at hR hF;exact DS.run G [⟨_,_,uw⟩] [kg uw,⟨_,Qi (g:=g) (P:=P) (m:=mu) q d ps G⟩] (oo 0xa34987621a19ba4317142114f114f14f12133133311a []) λ n=>c3 (E [n.1 0,st,p.5] 0x1211110) (Yi (l:=st) (st:=ab (-1)) (by decide) hn) (λ(a:ae)(j:Nw)=>c9 (E [j.1 0,p.1,p.2,rw,a,136] 0x14440543210) (@rfl aT (qi (By (ic (cC (aG "state") (bB 165 16 165 21)) (ao (j.ad 0)) [rR ((cC (aG "insort_left") (bB 166 16 166 27)).Call [cC (aG "row") (bB 166 28 166 31),cC (aG "state") (bB 166 33 166 38)] [oq (ab (aG "key")) (nR (k9 [] [G9 (aG "one") az (bB 166 51 166 54)] az [] [] az []) (xF vK ((cC (aG "one") (bB 166 57 166 60)).Subscript (iJ (vW 0) 0 (bB 166 61 166 62)) (bB 166 57 166 63)) (bB 166 56 166 63)) (ua iv [(aG "one",NameKind.local)] af af []) (bB 166 44 166 63)) (bB 166 40 166 63)] (bB 166 16 166 64)) (bB 166 16 166 64)] [] (cw p))))) hd (@rfl (List aj) []) (@rfl (List aa) []) (@rfl (List aa) (bQ ps)) hR hF (λ(v:aa)(kc:ae)(c:List aa)(h:bZ c)(o:Nw)=>f v kc c h))
end
noncomputable def FZ:List Kd:=[.fr Yb,.cl,.cl,.cl,.cl,.ls,.tb,.ls]
noncomputable def Ki(p:Bp)(us:List aa)(rw:ae)(o1 o2 o3:Option aa)(xs ys tv:List aa):List eK:=[(p.L,.fr us),(p.cr,.cl (ab (.ref rw))),(p.cm,.cl o1),(p.cn,.cl o2),(p.cs,.cl o3),(p.sn,.ls ys),(136,.fr tv),(rw,.ls xs)]
noncomputable def yv(k1 a c:ae):List aa:=q7 k1 [.int 168 0,.int 56 0,.ref a,.int 170 0,.int 47 0,.ref c]
section
variable{st t0:ae}{g:aa->Int}{g':aa->aR}{P:List (ae×Sq)}{e1 e2:Nat}{m0:Int}{t1:aX}{w2 u6 v1 v2 v3:aa}{kc B8 Hi:ae}{B7 hy:Ht}{lo hi k:Int}(hx:ej b k0 fQ x)(uw:bN b st (lO [.ref t0] e1))(ht:bN b t0 (tO [.int m0 t1,.ref x.e,w2] e2))(hd:e.dp+100<900)(hP:∀q∈P,(eO b q/\ej b k0 fQ q.2.t.x)/\g (.ref q.1)=-q.2.mu/\g' (.ref q.1)=q.2.t.x.tag)(h1:∀t,hN (ltI g) ry (jb P) xs (.int (-m0) t) 0 xs.length lo)(h2:∀t,hN (λ v x=>¬vM g v x) ry (jb P) xs (.int (-m0) t) 0 xs.length hi)(ho:jb P (.ref t0))
include hx uw ht hd hP h1 h2 ho
theorem Kj(hm:x.most=ah)(I:∀t,hN (AW g') vL (jb P) xs (uT g' (.ref t0) t) lo hi k)(J:∀v1 v2 v3 c2 c3 j l,bZ j->bZ l->K 0 (.ok .next) (Ki p [u1,u2,u3,u4,u5,u6,v1,v2,v3] rw o1 (ab (.ref x.e)) (ab (.ref st)) (gw xs k (.ref t0)) ys (yv kc c2 c3)) [(c2,hU j),(c3,hU l)]):DS b e (bR p) (sB (bE gq 5) 1) (cw p) dD (fH p [u1,u2,u3,u4,u5] (ie B7 [f9] [u6]++[]) rw o1 (ab (.ref x.e)) (ab (.ref st)) xs ys (q7 kc [])) (k1 FZ) K:=by
 have o:∀q∈P,eO b q/\g (.ref q.1)=-q.2.mu:=λ q r=>⟨(hP q r).1.1,(hP q r).2.1⟩;have s:∀q∈P,(eO b q/\ej b k0 fQ q.2.t.x)/\g' (.ref q.1)=q.2.t.x.tag:=λ q r=>⟨(hP q r).1,(hP q r).2.2⟩;have u:(0:Int)<=0:=aN 0;have w:1<=1048576:=by decide
 have z:∀t a b,a=lo->b=hi->hN (AW g') vL (jb P) xs (uT g' (.ref t0) t) a b k:=λ t a b e1 e2=>e1▸e2▸I t;exact DS.run G [⟨_,_,uw⟩,⟨_,_,ht⟩,⟨_,_,hx.fn⟩,⟨_,_,hx.tL hm⟩] [e8 uw (.ref t0),⟨_,rA (ok:=jb P) (g:=g) G [0,1] jb.ref lo⟩,⟨_,rB (ok:=jb P) (g:=g) G [0,2] jb.ref hi⟩,⟨_,zx (ok:=jb P) (g:=g') G [0,1] jb.ref k⟩] (oo 0x310f120f1ff1ef1df1cf1bf1afb1d21611113ef1ff3ef32f126f26f113313332ef28f26f13f26f1977717172cf13f26f13f26f2121cf221212121cf221212121cf221212211af11af1af1afc18f18f2c18f1af18f18f118f118f116fb16f116f12215111126f111151515551133133322f1cf12f912fb16f18f16f16f116f116f114fa14f114f113f214111122f11f22f16f111151515551133133312fc21236866161616221212211 []) λ n=>c4 (E [st,p.5,p.2,n.1 3,n.1 1,n.1 0] 0x1555444444544333210000) (@rfl ae st) (c3 u w (@rfl (Option aa) (ab (ao t0)))) (λ(c:Nw)=>c5 (E [rw,50,136,t0] 0x133333222210) (mS (rest:=[(c.ad 6,fO (tP (.ref (c.ad 5))) az),(c.ad 5,hU (Ah xu 168 c.ad λ i=>c.tk (i+1)))]) (.head _) ⟨_,jc,.inl (.tail _ (.head _))⟩ o) (fj hd:e.dp+0+60<900) (h1 (c.tk 1)) (λ(A:Int)(t:aX)(h:A=lo)(L:Nw)=>c4 (E [st,p.5,p.2,n.1 3,n.1 1,n.1 0,n.1 2] 0x166664444544333210000) (@rfl ae st) (c3 u w (@rfl (Option aa) (ab (ao t0)))) (λ(H:Nw)=>c5 (E [rw,32,136,t0] 0x133333210) (mS (rest:=[(H.ad 0,fO (tP (.ref (c.ad 5))) az),(c.ad 5,hU (Ah xu 168 c.ad λ i=>c.tk (i+1)))]) (.head _) ⟨_,jc,.inl (.tail _ (.head _))⟩ o) (fj hd:e.dp+0+60<900) (h2 (H.tk 1)) (λ(d:Int)(B:aX)(C:d=hi)(D:Nw)=>c4 (E [st,p.5,p.2,p.1,x.2,x.1,p.4,D.1 4,D.1 2,n.1 2,n.1 3,D.1 1,n.1 1,n.1 0] 0x19999ccccdccbaaa99998888898888889888888988733336555554333210000) (@rfl ae st) (c3 u w (@rfl (Option aa) (ab (ao t0)))) (λ(f:Nw)=>c6 (E [rw,41,136,p.1] 0x133222210) (vp (rest:=[(f.ad 6,fO (Bu (.ref (f.ad 5))) az),(f.ad 5,hU (Ah xu 170 f.ad λ i=>f.tk (i-1)))]) (.head _) ⟨_,jc,.inl (.tail _ (.head _))⟩ s) (fj hd:e.dp+0+60<900) ho (λ(F:aX)=>z F A d h C) (λ(M:Nw)=>J (.int A t) (.int d B) (.ref 41) (c.ad 5) (f.ad 5) (Ah xu 168 c.ad λ i=>c.tk (i+1)) (Ah xu 170 f.ad λ i=>f.tk (i-1)) jc jc))))))
theorem Kk(hm:x.most=af)(I:∀t,hN (λ v x=>¬AX g' v x) vL (jb P) xs (uT g' (.ref t0) t) lo hi k)(J:∀v1 v2 v3 c2 c3 j l,bZ j->bZ l->K 0 (.ok .next) (Ki p [u1,u2,u3,u4,u5,u6,v1,v2,v3] rw o1 (ab (.ref x.e)) (ab (.ref st)) (gw xs k (.ref t0)) ys (yv kc c2 c3)) [(c2,hU j),(c3,hU l)]):DS b e (bR p) (sB (bE gq 5) 1) (cw p) dD (fH p [u1,u2,u3,u4,u5] (ie B7 [f9] [u6]++[]) rw o1 (ab (.ref x.e)) (ab (.ref st)) xs ys (q7 kc [])) (k1 FZ) K:=by
 have o:∀q∈P,eO b q/\g (.ref q.1)=-q.2.mu:=λ q r=>⟨(hP q r).1.1,(hP q r).2.1⟩;have s:∀q∈P,(eO b q/\ej b k0 fQ q.2.t.x)/\g' (.ref q.1)=q.2.t.x.tag:=λ q r=>⟨(hP q r).1,(hP q r).2.2⟩;have u:(0:Int)<=0:=aN 0;have w:1<=1048576:=by decide
 have z:∀t a b,a=lo->b=hi->hN (λ v x=>¬AX g' v x) vL (jb P) xs (uT g' (.ref t0) t) a b k:=λ t a b e1 e2=>e1▸e2▸I t;exact DS.run G [⟨_,_,uw⟩,⟨_,_,ht⟩,⟨_,_,hx.fn⟩,⟨_,_,hx.tL hm⟩] [e8 uw (.ref t0),⟨_,rA (ok:=jb P) (g:=g) G [0,1] jb.ref lo⟩,⟨_,rB (ok:=jb P) (g:=g) G [0,2] jb.ref hi⟩,⟨_,zy (ok:=jb P) (g:=g') G [0,1] jb.ref k⟩] (oo 0x310f120f1ff1ef1df1cf1bf1afb1d21611113ef1ff3ef32f126f26f113313332ef28f26f13f26f1977717172cf13f26f13f26f2121cf221212121cf221212121cf221212211af11af1af1afc18f18f2c18f1af18f18f118f118f116fb16f116f12215111126f111151515551133133322f1cf12f912fb16f18f16f16f116f116f114fa14f114f113f214111122f11f22f16f111151515551133133312fc21236866161616221212211 []) λ n=>c4 (E [st,p.5,p.2,n.1 3,n.1 1,n.1 0] 0x1555444444544333210000) (@rfl ae st) (c3 u w (@rfl (Option aa) (ab (ao t0)))) (λ(c:Nw)=>c5 (E [rw,50,136,t0] 0x133333222210) (mS (rest:=[(c.ad 6,fO (tP (.ref (c.ad 5))) az),(c.ad 5,hU (Ah xu 168 c.ad λ i=>c.tk (i+1)))]) (.head _) ⟨_,jc,.inl (.tail _ (.head _))⟩ o) (fj hd:e.dp+0+60<900) (h1 (c.tk 1)) (λ(A:Int)(t:aX)(h:A=lo)(L:Nw)=>c4 (E [st,p.5,p.2,n.1 3,n.1 1,n.1 0,n.1 2] 0x166664444544333210000) (@rfl ae st) (c3 u w (@rfl (Option aa) (ab (ao t0)))) (λ(H:Nw)=>c5 (E [rw,32,136,t0] 0x133333210) (mS (rest:=[(H.ad 0,fO (tP (.ref (c.ad 5))) az),(c.ad 5,hU (Ah xu 168 c.ad λ i=>c.tk (i+1)))]) (.head _) ⟨_,jc,.inl (.tail _ (.head _))⟩ o) (fj hd:e.dp+0+60<900) (h2 (H.tk 1)) (λ(d:Int)(B:aX)(C:d=hi)(D:Nw)=>c4 (E [st,p.5,p.2,p.1,x.2,x.1,p.4,D.1 4,D.1 2,n.1 2,n.1 3,D.1 1,n.1 1,n.1 0] 0x19999ccccdccbaaa99998888898888889888888988733336555554333210000) (@rfl ae st) (c3 u w (@rfl (Option aa) (ab (ao t0)))) (λ(f:Nw)=>c6 (E [rw,23,136,p.1] 0x133222210) (vp (rest:=[(f.ad 6,fO (Bu (.ref (f.ad 5))) az),(f.ad 5,hU (Ah xu 170 f.ad λ i=>f.tk (i-1)))]) (.head _) ⟨_,jc,.inl (.tail _ (.head _))⟩ s) (fj hd:e.dp+0+60<900) ho (λ(F:aX)=>z F A d h C) (λ(M:Nw)=>J (.int A t) (.int d B) (.ref 23) (c.ad 5) (f.ad 5) (Ah xu 168 c.ad λ i=>c.tk (i+1)) (Ah xu 170 f.ad λ i=>f.tk (i-1)) jc jc))))))
theorem Kl(hm:x.most=ah)(d:∃j,bZ j/\iN b B8 (hU j))(f:∃j,bZ j/\iN b Hi (hU j))(L:∀t,hN (AW g') vL (jb P) xs (uT g' (.ref t0) t) lo hi k)(M:∀v1 v2 v3,K 0 (.ok .next) (Ki p [u1,u2,u3,u4,u5,u6,v1,v2,v3] rw o1 (ab (.ref x.e)) (ab (.ref st)) (gw xs k (.ref t0)) ys (yv kc B8 Hi)) []):DS b e (bR p) (sB (bE gq 5) 1) (cw p) dD (fH p [u1,u2,u3,u4,u5] (ie B7 [f9] [u6]++ie hy FO [v1,v2,v3]) rw o1 (ab (.ref x.e)) (ab (.ref st)) xs ys (yv kc B8 Hi)) (k1 FZ) K:=by
 have o:∀q∈P,eO b q/\g (.ref q.1)=-q.2.mu:=λ q r=>⟨(hP q r).1.1,(hP q r).2.1⟩;have u:∀q∈P,(eO b q/\ej b k0 fQ q.2.t.x)/\g' (.ref q.1)=q.2.t.x.tag:=λ q r=>⟨(hP q r).1,(hP q r).2.2⟩;have w:(0:Int)<=0:=aN 0;have z:1<=1048576:=by decide
 have A:∀t a b,a=lo->b=hi->hN (AW g') vL (jb P) xs (uT g' (.ref t0) t) a b k:=λ t a b e1 e2=>e1▸e2▸L t;obtain⟨_,⟨O,Q,R,S,rfl⟩,d⟩:=d;obtain⟨_,⟨T,U,V,X,rfl⟩,f⟩:=f;have i:∀l,vP b l B8:=λ l=>⟨_,⟨_,_,_,_,rfl⟩,.inr d⟩;have s:∀l,vP b l Hi:=λ l=>⟨_,⟨_,_,_,_,rfl⟩,.inr f⟩;exact DS.run G [⟨_,_,uw⟩,⟨_,_,ht⟩,⟨_,_,hx.fn⟩,⟨_,_,hx.tL hm⟩,⟨_,_,d.1⟩,⟨_,_,f.1⟩] [e8 uw (.ref t0),⟨_,rA (ok:=jb P) (g:=g) G [0] jb.ref lo⟩,⟨_,rB (ok:=jb P) (g:=g) G [0] jb.ref hi⟩,⟨_,zx (ok:=jb P) (g:=g') G [0] jb.ref k⟩] (oo 0x114f13f12f11f10f0ffe917216111126f11af1af1133133322f1cf1afd1af19777171720fd1afd1af21210f2212121210f2212121210f22121221e1eee6cc26cecc1c1c1a5a1a1221511111af111151515551133133316f10f6365acaa1a1a1848181d214111116f111151515551133133312fc21236866161616221212211 []) λ n=>c4 (E [st,p.5,p.2,n.1 3,n.1 1,n.1 0] 0x1555444444544333210000) (@rfl ae st) (c3 w z (@rfl (Option aa) (ab (ao t0)))) (λ(I:Nw)=>c5 (E [rw,50,136,t0] 0x133333210) (mS (rest:=[(I.ad 0,fO (tP (.ref B8)) az)]) (.head _) (i _) o) (fj hd:e.dp+0+60<900) (h1 (I.tk 1)) (λ(B:Int)(t:aX)(h:B=lo)(Y:Nw)=>c4 (E [st,p.5,p.2,n.1 3,n.1 1,n.1 0,n.1 2] 0x166664444544333210000) (@rfl ae st) (c3 w z (@rfl (Option aa) (ab (ao t0)))) (λ(J:Nw)=>c5 (E [rw,32,136,t0] 0x133333210) (mS (rest:=[(J.ad 0,fO (tP (.ref B8)) az)]) (.head _) (i _) o) (fj hd:e.dp+0+60<900) (h2 (J.tk 1)) (λ(c:Int)(C:aX)(D:c=hi)(F:Nw)=>c4 (E [st,p.5,p.2,p.1,x.2,x.1,p.4,F.1 4,F.1 2,n.1 2,n.1 3,F.1 1,n.1 1,n.1 0] 0x19999ccccdccbaaa99998888898888889888888988733336555554333210000) (@rfl ae st) (c3 w z (@rfl (Option aa) (ab (ao t0)))) (λ(N:Nw)=>c6 (E [rw,41,136,p.1] 0x133210) (vp (rest:=[(N.ad 0,fO (Bu (.ref Hi)) az)]) (.head _) (s _) u) (fj hd:e.dp+0+60<900) ho (λ(H:aX)=>A H B c h D) (λ(Z:Nw)=>M (.int B t) (.int c C) (.ref 41)))))))
theorem Km(hm:x.most=af)(d:∃j,bZ j/\iN b B8 (hU j))(f:∃j,bZ j/\iN b Hi (hU j))(L:∀t,hN (λ v x=>¬AX g' v x) vL (jb P) xs (uT g' (.ref t0) t) lo hi k)(M:∀v1 v2 v3,K 0 (.ok .next) (Ki p [u1,u2,u3,u4,u5,u6,v1,v2,v3] rw o1 (ab (.ref x.e)) (ab (.ref st)) (gw xs k (.ref t0)) ys (yv kc B8 Hi)) []):DS b e (bR p) (sB (bE gq 5) 1) (cw p) dD (fH p [u1,u2,u3,u4,u5] (ie B7 [f9] [u6]++ie hy FO [v1,v2,v3]) rw o1 (ab (.ref x.e)) (ab (.ref st)) xs ys (yv kc B8 Hi)) (k1 FZ) K:=by
 have o:∀q∈P,eO b q/\g (.ref q.1)=-q.2.mu:=λ q r=>⟨(hP q r).1.1,(hP q r).2.1⟩;have u:∀q∈P,(eO b q/\ej b k0 fQ q.2.t.x)/\g' (.ref q.1)=q.2.t.x.tag:=λ q r=>⟨(hP q r).1,(hP q r).2.2⟩;have w:(0:Int)<=0:=aN 0;have z:1<=1048576:=by decide
 have A:∀t a b,a=lo->b=hi->hN (λ v x=>¬AX g' v x) vL (jb P) xs (uT g' (.ref t0) t) a b k:=λ t a b e1 e2=>e1▸e2▸L t;obtain⟨_,⟨O,Q,R,S,rfl⟩,d⟩:=d;obtain⟨_,⟨T,U,V,X,rfl⟩,f⟩:=f;have i:∀l,vP b l B8:=λ l=>⟨_,⟨_,_,_,_,rfl⟩,.inr d⟩;have s:∀l,vP b l Hi:=λ l=>⟨_,⟨_,_,_,_,rfl⟩,.inr f⟩;exact DS.run G [⟨_,_,uw⟩,⟨_,_,ht⟩,⟨_,_,hx.fn⟩,⟨_,_,hx.tL hm⟩,⟨_,_,d.1⟩,⟨_,_,f.1⟩] [e8 uw (.ref t0),⟨_,rA (ok:=jb P) (g:=g) G [0] jb.ref lo⟩,⟨_,rB (ok:=jb P) (g:=g) G [0] jb.ref hi⟩,⟨_,zy (ok:=jb P) (g:=g') G [0] jb.ref k⟩] (oo 0x114f13f12f11f10f0ffe917216111126f11af1af1133133322f1cf1afd1af19777171720fd1afd1af21210f2212121210f2212121210f22121221e1eee6cc26cecc1c1c1a5a1a1221511111af111151515551133133316f10f6365acaa1a1a1848181d214111116f111151515551133133312fc21236866161616221212211 []) λ n=>c4 (E [st,p.5,p.2,n.1 3,n.1 1,n.1 0] 0x1555444444544333210000) (@rfl ae st) (c3 w z (@rfl (Option aa) (ab (ao t0)))) (λ(I:Nw)=>c5 (E [rw,50,136,t0] 0x133333210) (mS (rest:=[(I.ad 0,fO (tP (.ref B8)) az)]) (.head _) (i _) o) (fj hd:e.dp+0+60<900) (h1 (I.tk 1)) (λ(B:Int)(t:aX)(h:B=lo)(Y:Nw)=>c4 (E [st,p.5,p.2,n.1 3,n.1 1,n.1 0,n.1 2] 0x166664444544333210000) (@rfl ae st) (c3 w z (@rfl (Option aa) (ab (ao t0)))) (λ(J:Nw)=>c5 (E [rw,32,136,t0] 0x133333210) (mS (rest:=[(J.ad 0,fO (tP (.ref B8)) az)]) (.head _) (i _) o) (fj hd:e.dp+0+60<900) (h2 (J.tk 1)) (λ(c:Int)(C:aX)(D:c=hi)(F:Nw)=>c4 (E [st,p.5,p.2,p.1,x.2,x.1,p.4,F.1 4,F.1 2,n.1 2,n.1 3,F.1 1,n.1 1,n.1 0] 0x19999ccccdccbaaa99998888898888889888888988733336555554333210000) (@rfl ae st) (c3 w z (@rfl (Option aa) (ab (ao t0)))) (λ(N:Nw)=>c6 (E [rw,23,136,p.1] 0x133210) (vp (rest:=[(N.ad 0,fO (Bu (.ref Hi)) az)]) (.head _) (s _) u) (fj hd:e.dp+0+60<900) ho (λ(H:aX)=>A H B c h D) (λ(Z:Nw)=>M (.int B t) (.int c C) (.ref 23)))))))
end
noncomputable def F0:bO:=xE (sE B6 0) 0
theorem Ko(w':bN b tu (tO [.int m tm,.ref x.e,.bool so] ep))(hl:(ao tu::xs).length<=1048576):DE b e (bR p) (xE F0 0) (cw p) dD (fH p [u1,u2,u3,u4,u5] more rw o1 o2 o3 (.ref tu::xs) ys tv) (k1 dD) (eM (.ref x.e) (fH p [u1,u2,u3,u4,u5] more rw o1 o2 o3 (.ref tu::xs) ys tv)):=DE.run G [⟨_,_,w'⟩] [nD (.ref tu)] (oo 0x187654329113131333821310f110f10f10f4 []) λ n=>c4 (E [rw,p.2] 0x1100000) (c2 (aN 0) hl) (@rfl (Option aa) (ab (ao tu))) (λ(a:Nw)=>c2 (E [tu] 0x100000) (iG (.ref x.e) (fH p [u1,u2,u3,u4,u5] more rw o1 o2 o3 (.ref tu::xs) ys tv)))
theorem Kq:DE b e (bR p) (xE F0 1) (cw p) dD (fH p [u1,u2,u3,u4,u5] more rw o1 o2 o3 xs ys tv) (k1 dD) (eM u1 (fH p [u1,u2,u3,u4,u5] more rw o1 o2 o3 xs ys tv)):=DE.run G [] [] (oo 0x87654321912 []) λ n=>c2 (E [p.1] 0x10) (iG u1 (fH p [u1,u2,u3,u4,u5] more rw o1 o2 o3 xs ys tv))
theorem Kr(w':bN b tu (tO [.int m tm,.ref x.e,.bool so] ep))(hl:(ao tu::xs).length<=1048576):DT b e (bR p) (xE (sE B6 0) 1) (cw p) dD (fH p [u1,u2,u3,u4,u5] more rw o1 o2 o3 (.ref tu::xs) ys tv) (k1 dD) (eM (.bool (!so)) (fH p [u1,u2,u3,u4,u5] more rw o1 o2 o3 (.ref tu::xs) ys tv)):=by
 induction so;.exact DT.run G [⟨_,_,w'⟩] [nD (.ref tu)] (oo 0x187654329113131333821310f110f10f10f4 []) λ n=>c4 (E [rw,p.2] 0x1100000) (c2 (aN 0) hl) (@rfl (Option aa) (ab (ao tu))) (λ(a:Nw)=>c2 (E [tu] 0x100000) (iG (.bool ah) (fH p [u1,u2,u3,u4,u5] more rw o1 o2 o3 (.ref tu::xs) ys tv)))
 .exact DT.run G [⟨_,_,w'⟩] [nD (.ref tu)] (oo 0x187654329113131333821310f110f10f10f4 []) λ n=>c4 (E [rw,p.2] 0x1100000) (c2 (aN 0) hl) (@rfl (Option aa) (ab (ao tu))) (λ(a:Nw)=>c2 (E [tu] 0x100000) (iG (.bool af) (fH p [u1,u2,u3,u4,u5] more rw o1 o2 o3 (.ref tu::xs) ys tv)))
theorem Ks(w':bN b tu (tO [.int m tm,.ref x.e,.bool so] ep))(hl:(ao tu::xs).length<=1048576):DE b e (bR p) (xE F0 0) (cw p) qk (mU p [u1,u2,u3] rw o1 o2 o3 (.ref tu::xs) ys tv) (k1 qk) (eM (.ref x.e) (mU p [u1,u2,u3] rw o1 o2 o3 (.ref tu::xs) ys tv)):=DE.run G [⟨_,_,w'⟩] [nD (.ref tu)] (oo 0x187654329113131333821310f110f10f10f4 []) λ n=>c4 (E [rw,p.2] 0x1100000) (c2 (aN 0) hl) (@rfl (Option aa) (ab (ao tu))) (λ(a:Nw)=>c2 (E [tu] 0x100000) (iG (.ref x.e) (mU p [u1,u2,u3] rw o1 o2 o3 (.ref tu::xs) ys tv)))
theorem Kt:DE b e (bR p) (xE F0 1) (cw p) qk (mU p [u1,u2,u3] rw o1 o2 o3 xs ys tv) (k1 qk) (eM u1 (mU p [u1,u2,u3] rw o1 o2 o3 xs ys tv)):=DE.run G [] [] (oo 0x87654321912 []) λ n=>c2 (E [p.1] 0x10) (iG u1 (mU p [u1,u2,u3] rw o1 o2 o3 xs ys tv))
theorem Ku(w':bN b tu (tO [.int m tm,.ref x.e,.bool af] ep))(hl:(ao tu::xs).length<=1048576):DT b e (bR p) (xE (sE B6 0) 1) (cw p) qk (mU p [u1,u2,u3] rw o1 o2 o3 (.ref tu::xs) ys tv) (k1 qk) (eM (.bool ah) (mU p [u1,u2,u3] rw o1 o2 o3 (.ref tu::xs) ys tv)):=DT.run G [⟨_,_,w'⟩] [nD (.ref tu)] (oo 0x187654329113131333821310f110f10f10f4 []) λ n=>c4 (E [rw,p.2] 0x1100000) (c2 (aN 0) hl) (@rfl (Option aa) (ab (ao tu))) (λ(a:Nw)=>c2 (E [tu] 0x100000) (iG (.bool ah) (mU p [u1,u2,u3] rw o1 o2 o3 (.ref tu::xs) ys tv)))
noncomputable def Uw:List Kd:=[.fr Un,.cl,.cl,.cl,.cl,.ls,.tb]
noncomputable def jW(p:Bp):aT:=.func (aP 22) (cw p)
noncomputable def Yl(p:Bp)(us:List aa)(c0 a c2 c3:Option aa)(ys tv:List aa):List eK:=[(p.L,.fr us),(p.cr,.cl c0),(p.cm,.cl a),(p.cn,.cl c2),(p.cs,.cl c3),(p.sn,.ls ys),(136,.fr tv)]
theorem Kw(c:∀rw tu,K 0 (.ok .next) (mU p [.ref a,.int top tt,u3] rw o1 o2 o3 [.ref tu] ys tv) [(tu,tO [.int top tt,.ref a,.bool af] 0)]):DS b e (jW p) (cj 1 (aP 22)) (cw p) Uw (Yl p [.ref a,.int top tt,u3] c0 o1 o2 o3 ys tv) (k1 qk) K:=DS.run G [] [] (oo 0x219876543a14822 []) λ n=>c2 (E [p.2,p.1] 0x11100) (c (n.ad 1) (n.ad 0))
theorem Kx(w':bN b tu (tO [.int m tm,w1,w2] ep))(a:K 0 (.ok (.ret (.int m tm))) [(p.sn,.ls ys),(136,.fr tv)] []):DS b e (jW p) (aC 2 (aP 22)) (cw p) dD (fH p [u1,u2,u3,u4,u5] more rw o1 o2 o3 [.ref tu] ys tv) (k1 [.ls,.tb]) K:=DS.run G [⟨_,_,w'⟩] [nD (.ref tu)] (oo 0x873113131333821310f110f10f10f4 []) λ n=>c4 (E [rw,p.2] 0x1100000) (c2 (aN 0) ((by decide:1<=1048576))) (@rfl (Option aa) (ab (ao tu))) (λ(c:Nw)=>c2 (E [tu] 0x100000) a)
end
theorem gB.ext(E:Ext b b'){k0 k1:ae}{h:Nat}(H:gB b k0 k1 h t):gB b' k0 k1 h t:=by induction H with|mk a c i d f g=>exact .mk (a.ext E) (by rw [E.w];exact c) g d f
theorem gB.el{b:Bs}{k0 k1:ae}(H:gB b k0 k1 h t):ej b k0 k1 t.x/\mz b.w t.x/\t.x.kids=t.kids.map Tr.e:=by induction H with|mk a c f d g=>exact⟨a,c,d⟩
theorem gB.node{b:Bs}{k0 k1:ae}(H:gB b k0 k1 h t):∀u∈t.nodes,∃c,gB b k0 k1 c u:=by
 induction H with
  |mk d f g j l n=>
   intro u a;rw [Tr.nodes]at a;rcases aF.mp a with rfl|a;.exact⟨_,.mk d f g j l⟩
   .obtain⟨i,k,hi,a⟩:=ja a;exact n k (aB hi) u a
theorem gB.up{b:Bs}{k0 k1:ae}{h:Nat}{Y:Tr}(H:gB b k0 k1 h Y):∀t∈Y.kids,(∃d,gB b k0 k1 d t)/\∃f g,t.x.more=[⟨f,.str jg g,.ref Y.x.e⟩]:=by induction H with|mk k l c n j=>intro t a;obtain⟨i,hi⟩:=aZ a;exact⟨⟨_,c t a⟩,(c t a).el.2.1.Ma _ (j i t hi).2⟩
noncomputable def Bz(t:Tr):List Tr:=match t.x.most with|ah=>t.kids|af=>t.kids.take 1
theorem F1:aC 1 (aC 2 gq)=aC 3 gq:=f3
theorem MQ:aC 1 (aC 3 gq)=aC 4 gq:=f3
theorem F2:aC 1 (aC 4 gq)=aC 5 gq:=f3
theorem ux:aC 1 (aC 5 gq)=[]:=by kernel_rfl
noncomputable def Rx:bO:=xE (sE (bE gq 4) 0) 1
noncomputable def o4:Option ea:=bE (sB (bE gq 4) 1) 0
theorem sP:cj 1 (aC 4 gq)=.If (.BoolOp .And [xE (sE (bE gq 4) 0) 0,.Compare (xE Rx 0) [.Eq] [.List [] (aY (xE Rx 1))] (aY Rx)] (aY (sE (bE gq 4) 0))) (sB (bE gq 4) 0) [.If (.Compare (xE (sE o4 0) 0) [.Eq] [.List [] (aY (xE (sE o4 0) 1))] (aY (sE o4 0))) (sB o4 0) [] (kP o4)] (kP (bE gq 4))::[]:=by kernel_rfl
theorem sQ:cj 1 (aC 5 gq)=.If (sE (bE gq 5) 0) (sB (bE gq 5) 0) (sB (bE gq 5) 1) (kP (bE gq 5))::[]:=by kernel_rfl
theorem DS.Ym{b:Bs}{e:Ev}{c:aT}{env:fJ}{ks:List Kd}{vs:List eK}{kk:Nat->List Kd}{K:Kv}(d:kk 0=ks)(f:K 0 (.ok .next) vs []):DS b e c [] env ks vs kk K:=λ H s0 C0 s a=>bG ⟨0,vs,[],H,f,by rw [aA,d];exact a⟩
theorem DS.pf{b:Bs}{e:Ev}{c:aT}{env:fJ}{a:List ea}{ks:List Kd}{vs:List eK}{kk:Nat->List Kd}{K:Kv}(h:DS b e c a env ks vs kk K):DS b e c (a++[]) env ks vs kk K:=DS.text (aA a) h
theorem DS.re{b:Bs}{e:Ev}{c:aT}{env:fJ}{o:List ea}{ks:List Kd}{vs:List eK}{g:Nat->List Kd}{K:Kv}(sel:List Nat)(G:Good b){kk:List Kd}{k:List eK}{D:Hs->Cells}(q:∀H,pick (d' H kk k) sel=d' (Um H sel) ks vs++D H)(h:∀f H,Good f->Ext b f->(∀p∈D H,iN f p.1 p.2)->DS f e c o env ks vs g λ j r vs tl=>K j r vs (tl++D H))(t:xH sel=ah:=by kernel_rfl):DS b e c o env kk k g K:=λ H s0 C0 s a=>by have a:At b s0 C0 s (pick (d' H kk k) sel):=⟨a.R.pick t,a.T.pick t⟩;rw [q H]at a;exact Do.take G a (λ f u X w=>h f H u X w) (λ j v d tl l y n i=>⟨j,d,_,l,n,by rw [bb]at i;exact i⟩) λ j x d tl l y n i=>⟨j,d,_,l,n,by rw [bb]at i;exact i⟩
section
variable{b:Bs}(G:Good b){e:Ev}{p:Bp}{k0 fQ:ae}{u1 u2 u3 u4 u5:aa}{more:List aj}{rw tu:ae}{m:Int}{tm:aX}{so:Bool}{o1 o2 o3:Option aa}{xs ys tv:List aa}{s0:aD}{C0:Cells}{Rr:dq->aD->Prop}
include G
theorem Ry(d:eO b (tu,q))(o:gB b k0 fQ h q.t)(j:xs.length<=1000)(k:∀c bT ep tm,Good c->Ext b c->bN c bT (lO (ef (Bz q.t)) ep)->DW c e (bR p) (aC 2 gq) (cw p) dD (fH p [u1,u2,u3,.bool q.so,.ref bT] more rw (ab (.int q.mu tm)) (ab (.ref q.t.e)) o3 xs ys tv) s0 C0 Rr):DW b e (bR p) gq (cw p) dD (fH p [u1,u2,u3,u4,u5] more rw o1 o2 o3 (.ref tu::xs) ys tv) s0 C0 Rr:=by obtain⟨l,ep,d⟩:=d;obtain⟨u,t,so⟩:=q;obtain⟨g,r,n⟩:=gB.el o;induction f:t.x.most with|true=>exact DW.cut 2 G (Qj G g d j f ⟨rfl,λ c i X v=>k c t.x.bT t.x.ei l i X (by unfold Bz;rw [f,<-jQ n];exact g.bT.ext X)⟩)|false=>exact DW.cut 2 G (J6 G g d j f r.kd λ a=>⟨rfl,λ c i X s=>k c a 0 l i X (by have z:=(s _ (.head _)).1;rw [show fe (refsOf t.x.kids) az (ab 1) az=(refsOf t.x.kids).take 1 from oM _ 1,jQ n]at z;unfold Bz;rw [f];show bN c a (lO ((t.kids.take 1).map _) 0);rw [Q_];exact z)⟩)
theorem Yn(c:eO b (tu,q))(g:gB b k0 fQ h q.t)(d:q.t.x.most=ah)(i:xs.length<=1000)(j:∀a bT ep tm,Good a->Ext b a->bN a bT (lO (ef (Bz q.t)) ep)->DW a e (bR p) (aC 2 gq) (cw p) dD (fH p [u1,u2,u3,.bool q.so,.ref bT] [] rw (ab (.int q.mu tm)) (ab (.ref q.t.e)) o3 xs ys tv) s0 C0 Rr):DW b e (bR p) gq (cw p) qk (mU p [u1,u2,u3] rw o1 o2 o3 (.ref tu::xs) ys tv) s0 C0 Rr:=by obtain⟨k,ep,c⟩:=c;obtain⟨o,t,so⟩:=q;obtain⟨f,r,l⟩:=gB.el g;exact DW.cut 2 G (J7 G f c i d ⟨rfl,λ a n X s=>j a t.x.bT t.x.ei k n X (by unfold Bz;rw [show t.x.most=ah from d,<-jQ l];exact f.bT.ext X)⟩)
theorem Ux(c:∀a,Good a->Ext b a->DW a e (bR p) (aC 3 gq) (cw p) dD (fH p [u1,u2,u3,.bool af,u5] more rw o1 o2 o3 xs ys tv) s0 C0 Rr):DW b e (bR p) (aC 2 gq) (cw p) dD (fH p [u1,u2,u3,.bool af,u5] more rw o1 o2 o3 xs ys tv) s0 C0 Rr:=DW.cut 1 G (J8 G ⟨rfl,λ a d X f=>by rw [F1];exact c a d X⟩)
theorem Z_(i:gB b k0 fQ h (.mk y ls))(o:t∈ls)(f:∀c bT ep,Good c->Ext b c->bN c bT (lO (ef (match y.most with|ah=>[]|af=>(w9 t.x ls).take 1)) ep)->DW c e (bR p) (aC 3 gq) (cw p) dD (fH p [u1,u2,u3,.bool ah,.ref bT] more rw o1 (ab (.ref t.e)) o3 xs ys tv) s0 C0 Rr):DW b e (bR p) (aC 2 gq) (cw p) dD (fH p [u1,u2,u3,.bool ah,u5] more rw o1 (ab (.ref t.e)) o3 xs ys tv) s0 C0 Rr:=by
 obtain⟨j,r,q⟩:=gB.el i;obtain⟨⟨_,s⟩,B,C,d⟩:=gB.up i t o;obtain⟨k,_,_⟩:=gB.el s
 induction g:y.most with
  |true=>rw [g]at f;exact DW.cut 1 G (J9 G k d j g λ a=>⟨rfl,λ c l X n=>by rw [F1];exact f c a 0 l X (n _ (.head _)).1⟩)
  |false=>
   rw [g]at f
   induction ls with
    |nil=>exact(absurd o ax)
    |cons u us=>
     have w:∀v∈u::us,ej b k0 fQ v.x:=λ v x=>let⟨⟨_,h⟩,_⟩:=gB.up i v x;h.el.1;have A:(u::us).length<=10:=by have:=r.kd;rw [q,aM]at this;exact this
     exact DW.cut 1 G (J_ G k d j g (Qa G k j.bT u us w) (show dC (refsOf y.kids) 0 (ef (u::us))from jQ q▸dC.start _) A λ a=>⟨rfl,λ c l X n=>by rw [F1];refine f c a 0 l X ?_;have z:=(n _ (.head _)).1;rw [show fe (ef (w9 t.x (u::us))) az (ab 1) az=(ef (w9 t.x (u::us))).take 1 from oM _ 1]at z;show bN c a (lO (((w9 t.x (u::us)).take 1).map _) 0);rw [Q_];exact z⟩)
theorem w3(hi:bN b bT (lO (ef us) ep))(k:us.length<=10)(i:∀a st ep qs,Good a->Ext b a->bN a st (lO (bQ qs) ep)->Br m us qs->(∀p∈qs,eO a p)->DW a e (bR p) (aC 4 gq) (cw p) dD (fH p [u1,u2,u3,u4,.ref bT] more rw (ab (.int m tm)) o2 (ab (.ref st)) xs ys tv) s0 C0 Rr):DW b e (bR p) (aC 3 gq) (cw p) dD (fH p [u1,u2,u3,u4,.ref bT] more rw (ab (.int m tm)) o2 o3 xs ys tv) s0 C0 Rr:=by induction us with|nil=>exact DW.cut 1 G (J' G hi λ st=>⟨rfl,λ a c X f=>by rw [MQ];exact i a st 0 [] c X (f _ (.head _)).1 rfl λ u h=>(absurd h ax)⟩)|cons t us=>exact DW.cut 1 G (Qk G hi k λ d st qs tl l n=>⟨rfl,λ a c X f=>by rw [MQ];exact DW.re [3,4,2,5,6,7,8,9,1] c (λ H=>rfl) λ o H r j g=>i o st _ qs r (X.trans j) (g _ (.head _)).1 l λ q s=>((n q s).in f).ext j⟩)
theorem Yo(hi:bN b bT (lO zs ep))(a:e.un+110<9900):DT b e (bR p) (.BoolOp .And [xE (sE (bE gq 4) 0) 0,.Compare (xE Rx 0) [.Eq] [.List [] (aY (xE Rx 1))] (aY Rx)] (aY (sE (bE gq 4) 0))) (cw p) dD (fH p [u1,u2,u3,.bool so,.ref bT] more rw o1 o2 o3 xs ys tv) (k1 dD) (eM (.bool (so&&zs.isEmpty)) (fH p [u1,u2,u3,.bool so,.ref bT] more rw o1 o2 o3 xs ys tv)):=by induction so with|false=>exact DT.TR (Ai G)|true=>exact DT.PA (Ai G) (DT.yj G (show e.un+0<9900 by exact li 0x126ac4000313126ac406e2031111 [e.2] rfl a) (λ H s R=>⟨_,R.jq _ _ hi.1 hi.2⟩) (Ka G))
theorem w4n(hi:bN b bT (lO (v::zs) ep))(c:e.un+110<9900)(f:∀a,Good a->Ext b a->DW a e (bR p) (aC 5 gq) (cw p) dD (fH p [u1,u2,u3,.bool so,.ref bT] more rw o1 o2 o3 xs ys tv) s0 C0 Rr):DW b e (bR p) (aC 4 gq) (cw p) dD (fH p [u1,u2,u3,.bool so,.ref bT] more rw o1 o2 o3 xs ys tv) s0 C0 Rr:=DW.cut (kk:=k1 dD) 1 G (by have d:=Yo (p:=p) (u1:=u1) (u2:=u2) (u3:=u3) (more:=more) (rw:=rw) (o1:=o1) (o2:=o2) (o3:=o3) (xs:=xs) (ys:=ys) (tv:=tv) (so:=so) G hi c;rw [show(so&&(v::zs).isEmpty)=af from uG so]at d;refine DS.text sP (DS.E5 af d (DS.E5 af (DT.yj (xs:=v::zs) G (show e.un+0<9900 by exact li 0x126ac4000313126ac406e2031111 [e.2] rfl c) (λ H s R=>⟨_,R.jq _ _ hi.1 hi.2⟩) (Aj G)) (DS.Ym rfl ⟨rfl,λ a g X h=>?_⟩)));rw [F2];exact f a g X)
theorem w4l{bT:ae}{ep:Nat}{x:El}(hi:bN b bT (lO [] ep))(g:bj b (EL x))(h:e.dp+110<900)(c:e.un+110<9900)(i:ys.length<=1000)(j:∀a st tu t' d,Good a->Ext b a->bN a st (lO [.ref tu] d)->(∀t:Tr,t.x=x->eO a (tu,⟨min m x.n,t,ah⟩))->DW a e (bR p) (aC 5 gq) (cw p) dD (fH p [u1,u2,.ref p.sn,.bool af,.ref bT] more rw (ab (.int m tm)) (ab (.ref x.e)) (ab (.ref st)) xs (snoc ys (.str x.tag t')) tv) s0 C0 Rr):DW b e (bR p) (aC 4 gq) (cw p) dD (fH p [u1,u2,.ref p.sn,.bool af,.ref bT] more rw (ab (.int m tm)) (ab (.ref x.e)) o3 xs ys tv) s0 C0 Rr:=DW.cut 1 G (by refine DS.text sP (DS.E5 af (Yo G hi c) (DS.E5 ah (DT.yj G (show e.un+0<9900 by exact li 0x126ac4000313126ac406e2031111 [e.2] rfl c) (λ H s R=>⟨_,R.jq _ _ hi.1 hi.2⟩) (Aj G)) (DS.pf (Kb G g h c i λ st tu t t'=>⟨rfl,λ a k X f=>?_⟩))));rw [F2];exact j a st tu t' 0 k X (f _ (.head _)).1 λ u c=>⟨t,0,by have z:=(f _ (.tail _ (.head _))).1;rw [<-c]at z⊢;exact z⟩)
theorem w4u(hi:bN b bT (lO [] ep))(l:gB b k0 fQ h (.mk y ls))(r:t∈ls)(n:∀q∈ps,eO b q/\ej b k0 fQ q.2.t.x)(s:ps.length<=1000)(u:e.un+110<9900)(w:∀c a st tu j,Good c->Ext b c->bN c st (lO [.ref tu] j)->eO c (tu,⟨m,.mk y ls,ah⟩)->DW c e (bR p) (aC 5 gq) (cw p) dD (fH p [u1,u2,u3,.bool ah,.ref bT] more a (ab (.int m tm)) (ab (.ref t.e)) (ab (.ref st)) (bQ (Bt y ps)) ys tv) s0 C0 Rr):DW b e (bR p) (aC 4 gq) (cw p) dD (fH p [u1,u2,u3,.bool ah,.ref bT] more rw (ab (.int m tm)) (ab (.ref t.e)) o3 (bQ ps) ys tv) s0 C0 Rr:=DW.cut (kk:=k1 dD) 1 G (by
 obtain⟨x,A,B⟩:=gB.el l;obtain⟨⟨_,z⟩,C,F,d⟩:=gB.up l t r;obtain⟨k,_,_⟩:=gB.el z;have g:∀a st tu D c,Good c->Ext b c->(∀p∈[(st,lO [.ref tu] 0),(tu,tO [.int m tm,.ref y.e,.bool ah] 0)]++D,iN c p.1 p.2)->DW c e (bR p) (aC 1 (aC 4 gq)) (cw p) dD (fH p [u1,u2,u3,.bool ah,.ref bT] more a (ab (.int m tm)) (ab (.ref t.e)) (ab (.ref st)) (bQ (Bt y ps)) ys tv) s0 C0 Rr:=λ a st tu D c i X f=>by rw [F2];exact w c a st tu 0 i X (f _ (.head _)).1 ⟨tm,0,(f _ (.tail _ (.head _))).1⟩
 refine DS.text sP (DS.E5 ah (Yo (so:=ah) G hi u) (DS.pf (DS.re (ks:=[.fm Bo,.cl,.cl,.cl,.cl,.ls,.tb]) (vs:=[(p.L,.fm [u1,u2,u3,.bool ah,.ref bT] more),(p.cr,.cl (ab (.ref rw))),(p.cm,.cl (ab (.int m tm))),(p.cn,.cl (ab (.ref t.e))),(p.cs,.cl o3),(p.sn,.ls ys),(136,.fr tv)]) (D:=λ H=>[(rw,lO (bQ ps) (H 7).e)]) [0,1,2,3,4,5,6,7] G (λ H=>rfl) λ c H i X f=>?_)));induction ps with|nil=>exact Kf (p:=p) i (k.ext X) d (f _ (.head _)).1 λ a st tu=>⟨rfl,g a st tu _⟩|cons q ps=>exact Ke (p:=p) i (k.ext X) d (f _ (.head _)).1 (Qd i (k.ext X) (x.ext X) d (f _ (.head _)).1 q ps λ v o=>⟨(n v o).1.ext X,(n v o).2.ext X⟩) s λ a st tu=>⟨rfl,g a st tu _⟩)
end
noncomputable def Co(b:Bs)(kc:ae):Prop:=∃a,bZ a/\iN b kc (hU a)
theorem Co.ext(E:Ext b b')(h:Co b kc):Co b' kc:=h.elim λ a y=>y.elim λ c d=>⟨a,c,d.ext E⟩
inductive ql(b:Bs):List aj->List aa->Prop|one{kc:ae}:Co b kc->ql b [] (q7 kc [])|all{kc k2 k3:ae}{hy:Ht}{v1 v2 v3:aa}:Co b kc->Co b k2->Co b k3->ql b (ie hy FO [v1,v2,v3]) (yv kc k2 k3)
theorem ql.ext(E:Ext b b')(h:ql b more tv):ql b' more tv:=by induction h with|one h=>exact .one (h.ext E)|all a c d=>exact .all (a.ext E) (c.ext E) (d.ext E)
theorem ql.k(h:ql b more tv):FY b [] tv:=by induction h with|one h=>exact⟨_,_,rfl,h.elim λ a h=>⟨a,h.1,.inr h.2⟩⟩|all h _ _=>exact⟨_,_,rfl,h.elim λ a h=>⟨a,h.1,.inr h.2⟩⟩
theorem F3:∀{l:List α},(∀x∈l,f x=g x)->l.filterMap f=l.filterMap g:=by intro l;induction l with|nil=>exact λ d=>rfl|cons x l a=>exact λ h=>by rw [BX,BX,h x (.head _),a λ y c=>h y (.tail _ c)]
theorem vr(xs:List aa):fe xs az az (ab (-1))=xs.reverse:=by
 have e:Lv az az (ab (-1)) xs.toArray.size=((xs.length:Int)-1,-1,-1):=by simp [Lv]
 unfold fe vG;rw [e]
 have d:sliceRange ((xs.length:Int)-1) (-1) (-1)=(eI xs.length).map (λ k=>xs.length-1-k):=by
  unfold sliceRange
  have f:(if(-1:Int)>0 then(if(xs.length:Int)-1< -1 then(-1-((xs.length:Int)-1)+-1-1)/ -1 else 0)else(if(xs.length:Int)-1>-1 then((xs.length:Int)-1- -1- -1-1)/(- -1)else 0))=(xs.length:Int):=by
   rw [if_neg (by decide)];split;.rw [show(-(-1):Int)=1 from rfl,Int.ediv_one];exact bg (li 0x35110110411041103533334 [xs.length] rfl) (li 0x11011041104110353333354 [xs.length] rfl)
   .lia
  simp only [f,bq];apply eZ;intro k a;lia
 simp only [d];have c:=pick_run xs.reverse.toArray 0 xs.length;rw [nM,xx (by simp)]at c;rw [<-show xs.reverse.toArray.toList=xs.reverse from rfl,<-c,Cf,Cf];refine F3 λ k a=>?_;have a:=hG.mp a;show xs.toArray[xs.length-1-k]?=xs.reverse.toArray[0+k]?;simp [a]
theorem Uy{d:Type}{P:d->Prop}:∀{l:List d},l.Pairwise (λ a b=>P b->P a)->∃k,k<=l.length/\∀i a,l[i]?=ab a->(P a↔i<k):=by
 intro l
 induction l with
  |nil=>intro _;exact⟨0,bt 0,λ i a h=>(by injection h)⟩
  |cons x l g=>
   intro h;obtain⟨j,n⟩:=bA.mp h;by_cases hx:P x;.obtain⟨k,o,hi⟩:=g n;refine⟨k+1,bW o,λ i a c=>?_⟩;induction i with|zero=>cases c;exact iff_of_true hx (Vu k)|succ i=>exact(hi i a c).trans BY.symm
   .refine⟨0,bJ _,λ i a c=>iff_of_false (λ f=>hx ?_) (cQ i)⟩;induction i with|zero=>cases c;exact f|succ i=>exact j a (aB c) f
theorem BA(h:bE (bQ ps) i=ab v):∃p,ps[i]?=ab p/\v=.ref p.1:=by rw [dH]at h;unfold bQ at h;rw [d9]at h;induction a:ps[i]? with|none=>rw [a]at h;exact(by injection h)|some p=>rw [a]at h;exact⟨p,rfl,(bw h).symm⟩
section
variable{b:Bs}{k0 k1:ae}{p0:ae×Sq}{pre post:List (ae×Sq)}
theorem Ql(D:∀q∈p0::(pre++post),eO b q/\ej b k0 k1 q.2.t.x)(P:∀q∈pre,q3 q.2 p0.2)(Q:∀q∈post,q3 p0.2 q.2)(R:(pre++post).Pairwise (λ p q=>q3 p.2 q.2))(F:(pre++post).length<=1000):∃f hi:Int,(∀t,hN (ltI (gM b)) ry (jb (p0::(pre++post))) (bQ (pre++post)) (.int (-p0.2.mu) t) 0 ((bQ (pre++post)).length:Int) f)/\(∀t,hN (λ v x=>¬vM (gM b) v x) ry (jb (p0::(pre++post))) (bQ (pre++post)) (.int (-p0.2.mu) t) 0 ((bQ (pre++post)).length:Int) hi)/\(∀t,hN (AW (gT b)) vL (jb (p0::(pre++post))) (bQ (pre++post)) (uT (gT b) (.ref p0.1) t) f hi (pre.length:Int))/\(∀t,hN (λ v x=>¬AX (gT b) v x) vL (jb (p0::(pre++post))) (bQ (pre++post)) (uT (gT b) (.ref p0.1) t) f hi (pre.length:Int)):=by
 have g:∀{p q:Sq},q3 p q->q.mu<=p.mu:=λ h=>h.elim (λ h=>cp h) λ h=>b0 h.1.symm;obtain⟨f,o,j⟩:=Uy (R.imp λ h H=>dK H (g h));obtain⟨hi,I,k⟩:=Uy (R.imp λ h H=>bk H (g h));have c:=k4 (pre++post);have r:∀(i:Nat)q,(pre++post)[i]?=ab q->i<pre.length->q∈pre:=λ i q a hi=>by rw [ip hi]at a;exact aB a
 have s:∀(i:Nat)q,(pre++post)[i]?=ab q->¬i<pre.length->q∈post:=λ i q a hi=>by rw [de (fp.mp hi)]at a;exact aB a
 have u:f<=pre.length:=by
  rcases m2 pre.length f with h|h;.have a:=aJ (d5 h o);exact absurd ((j _ _ a).mpr h) (b_.mpr (g (Q _ (s _ _ a (fS _)))))
  .exact h
 have w:pre.length<=hi:=by
  rcases m2 hi pre.length with h|h
  .have S:hi<(pre++post).length:=by rw [bh];exact li 0x154133143111 [hi,pre.length,post.length] rfl h
   have a:=aJ S;exact absurd ((k _ _ a).mp (g (P _ (r _ _ a h)))) (fS _)
  .exact h
 have ok:∀v∈bQ (pre++post),jb (p0::(pre++post)) v:=λ v d=>by obtain⟨q,a,rfl⟩:=qj d;exact⟨q,.tail _ a,rfl⟩
 have y:=FW (D p0 (.head _)).1 (D p0 (.head _)).2;have B:∀(i:Nat)v,bE (bQ (pre++post)) i=ab v->∃q,(pre++post)[i]?=ab q/\gM b v=-q.2.mu/\gT b v=q.2.t.x.tag:=λ i v d=>by obtain⟨q,a,rfl⟩:=BA d;have:=D q (.tail _ (aB a));exact⟨q,a,Ag this.1,FW this.1 this.2⟩
 have A:∀(i:Nat)q,(f:Int)<=i->(i:Int)<hi->(pre++post)[i]?=ab q->(tg q.2.t<tg p0.2.t↔i<pre.length)/\(tg p0.2.t<tg q.2.t↔¬i<pre.length):=λ i q F T a=>by
  have J:=mt (j i q a).mp (λ q=>li 0x13411104535112 [f,i] rfl F q);have K:=(k i q a).mpr (li 0x143314535112 [i,hi] rfl T);have e:q.2.mu=p0.2.mu:=by exact bg (b_.mp J) K
  by_cases Rz:i<pre.length
  .rcases P q (r i q a Rz)with h|h;.exact⟨(lj 0x167112076112 [] [q.snd.1,p0.snd.1] rfl (b_.mp J) h).elim,(lj 0x167112076112 [] [q.snd.1,p0.snd.1] rfl (b_.mp J) h).elim⟩
   .exact⟨iff_of_true h.2 Rz,iff_of_false (o_ h.2) λ h=>h Rz⟩
  .rcases Q q (s i q a Rz)with h|h;.exact⟨(lj 0x167112076112 [] [p0.snd.1,q.snd.1] rfl K h).elim,(lj 0x167112076112 [] [p0.snd.1,q.snd.1] rfl K h).elim⟩
   .exact⟨iff_of_false (o_ h.2) Rz,iff_of_true h.2 Rz⟩
 have U:(f:Int)<=(bQ (pre++post)).length:=by rw [c];exact fI.mpr o
 have L:(hi:Int)<=(bQ (pre++post)).length:=by rw [c];exact fI.mpr I
 have C:(bQ (pre++post)).length<=1048576:=by rw [c];exact ai F (by decide)
 have z:∀n:Nat,(0:Int)<=n:=aS;refine⟨f,hi,λ t=>⟨aN 0,z _,U,aN _,C,λ i v M M d=>?_,ok,⟨_,_,rfl⟩⟩,λ t=>⟨aN 0,z _,L,aN _,C,λ i v M M d=>?_,ok,⟨_,_,rfl⟩⟩,λ t=>⟨z _,fI.mpr u,fI.mpr w,L,C,λ i v N O d=>?_,ok,⟨_,_,rfl⟩⟩,λ t=>⟨z _,fI.mpr u,fI.mpr w,L,C,λ i v N O d=>?_,ok,⟨_,_,rfl⟩⟩⟩;.obtain⟨q,a,l,_⟩:=B i v d;show gM _ v< -p0.2.mu↔_;rw [l];exact G_.trans ((j i q a).trans e_.symm)
 .obtain⟨q,a,l,_⟩:=B i v d;show¬-p0.2.mu<gM _ v↔_;rw [l];exact(not_congr G_).trans (b_.trans ((k i q a).trans e_.symm))
 .obtain⟨q,a,_,l⟩:=B i v d;show(gT _ v).cps.toList<(gT _ (.ref p0.1)).cps.toList↔_;rw [l,y];exact(A i q N O a).1.trans e_.symm
 .obtain⟨q,a,_,l⟩:=B i v d;show¬(gT _ (.ref p0.1)).cps.toList<(gT _ v).cps.toList↔_;rw [l,y];exact(not_congr (A i q N O a).2).trans (Decidable.not_not.trans e_.symm)
theorem Ky:gw (bQ (pre++post)) (pre.length:Int) (.ref p0.1)=bQ (pre++p0::post):=by unfold gw bQ;rw [bq,aU,aU,<-aM,Nl,Nk];rfl
end
structure tQ(b:Bs)(k0 k1:ae)(R:Tr):Prop where
 tr:∃h,gB b k0 k1 h R
 tg:cq R
 co:∃cv,bN b k1 (hU cv)/\bZ cv
 n:R.tags.length<=800
theorem tQ.ext(E:Ext b b'){k0 k1:ae}{R:Tr}(h:tQ b k0 k1 R):tQ b' k0 k1 R:=⟨h.tr.imp λ a h=>h.ext E,h.tg,h.co.imp λ a h=>⟨h.1.ext E,h.2⟩,h.n⟩
noncomputable def Lp(b:Bs)(e:Ev)(p:Bp)(R:Tr)(u2:aa)(s0:aD)(C0:Cells)(Rr:dq->aD->Prop)(row:List Sq)(sn:List aR):Prop:=∀a ps ys u4 u5 u6 hx more tv rw o1 o2 o3,Good a->Ext b a->ps.map eY=row->(∀q∈ps,eO a q)->bl ys sn->ql a more tv->DL a e (bR p) dD (fH p [.ref R.e,u2,.ref p.sn,u4,u5] (ie hx [f9] [u6]++more) rw o1 o2 o3 (bQ ps) ys tv) s0 C0 Rr
section
variable{b:Bs}{e:Ev}{p:Bp}{k0 fQ:ae}{R:Tr}{u2 u4 u5 u6:aa}{hx:Ht}{more:List aj}{rw tu st bT:ae}{m:Int}{tm:aX}{so:Bool}{o1 o2 o3:Option aa}{ys tv:List aa}{s0:aD}{C0:Cells}{Rr:dq->aD->Prop}{row:List Sq}{sn:List aR}{ps qs:List (ae×Sq)}{e1:Nat}
theorem Lp.ext(E:Ext b b')(h:Lp b e p R u2 s0 C0 Rr row sn):Lp b' e p R u2 s0 C0 Rr row sn:=λ a ps ys u4 u5 u6 hx more tv rw o1 o2 o3 G X=>h a ps ys u4 u5 u6 hx more tv rw o1 o2 o3 G (E.trans X)
variable(G:Good b)
include G
theorem Yp(L:Lp b e p R u2 s0 C0 Rr row sn)(d:(qs++ps).map eY=row)(f:bN b st (lO (bQ qs) e1))(h:∀q∈qs++ps,eO b q)(k:∀q∈qs,q.2.mu=m)(o:∀q∈ps,q.2.mu<=m)(i:¬qs=[])(r:(qs++ps).length<=1000)(t:e.dp+110<900)(l:ql b more tv)(j:bl ys sn):DW b e (bR p) (aC 5 gq) (cw p) dD (fH p [.ref R.e,u2,.ref p.sn,u4,u5] (ie hx [f9] [u6]++more) rw (ab (.int m tm)) o2 (ab (.ref st)) (bQ ps) ys tv) s0 C0 Rr:=by
 induction qs with
  |nil=>exact absurd rfl i
  |cons q qs=>
   obtain⟨A,B,u⟩:=h q (.head _);have g:(q::qs).length+ps.length<=1000:=by rwa [bh]at r
   have n:(bQ (q::qs)).length<=1048576:=by rw [k4];exact li 0x100000603303e830431111 [(q::qs).length,ps.length] rfl g
   have w:w_ b (gM b) (q::qs++ps) m (q::qs).reverse ps:=⟨λ v c=>⟨aI _ (jo.mp c),k v (jo.mp c)⟩,λ v c=>⟨aq _ c,o v c⟩,by rw [oz];exact g,λ v c=>⟨h v c,Ag (h v c)⟩⟩;have x:dC (fe (bQ (q::qs)) az az (ab (-1))) 0 (bQ (q::qs).reverse):=by rw [vr];unfold bQ;rw [<-Hv];exact dC.start _
   refine DW.cut 1 G (DS.text sQ (DS.E5 ah (vq G ah f u n (k q (.head _))) (DS.pf (Kg G f x w n (li 0x13843064203131384306e2031111 [e.1] rfl t) l.k λ v=>⟨rfl,λ y z X C=>?_⟩))));rw [ux];exact DW.nil λ H s a=>L y _ ys u4 u5 v (H 0).s.s.s.s.s more tv rw _ _ _ z X d (λ v c=>(h v c).ext X) j (l.ext X) H s a
theorem w5z(L:Lp b e p R u2 s0 C0 Rr row sn)(d:(qs++ps).map eY=row)(f:bN b st (lO (bQ qs) e1))(j:∀q∈qs++ps,eO b q)(o:∀q∈qs,q.2.mu=m)(t:∀q∈ps,q.2.mu<=m)(g:¬qs=[])(u:(qs++ps).length<=1000)(w:e.dp+110<900)(l:bl ys sn):DW b e (bR p) (aC 5 gq) (cw p) dD (fH p [.ref R.e,u2,.ref p.sn,u4,u5] [] rw (ab (.int m tm)) o2 (ab (.ref st)) (bQ ps) ys []) s0 C0 Rr:=by
 obtain⟨z,k,x⟩:∃z k,qs.reverse=z::k:=by induction h:qs.reverse with|nil=>exact absurd (List.reverse_eq_nil_iff.mp h) g|cons z k=>exact⟨z,k,rfl⟩
 induction qs with
  |nil=>exact absurd rfl g
  |cons q qs=>
   obtain⟨J,K,y⟩:=j q (.head _);have i:(q::qs).length+ps.length<=1000:=by rwa [bh]at u
   have r:(bQ (q::qs)).length<=1048576:=by rw [k4];exact li 0x100000603303e830431111 [(q::qs).length,ps.length] rfl i
   have A:w_ b (gM b) (q::qs++ps) m (q::qs).reverse ps:=⟨λ v c=>⟨aI _ (jo.mp c),o v (jo.mp c)⟩,λ v c=>⟨aq _ c,t v c⟩,by rw [oz];exact i,λ v c=>⟨j v c,Ag (j v c)⟩⟩;have B:dC (fe (bQ (q::qs)) az az (ab (-1))) 0 (bQ (q::qs).reverse):=by rw [vr];unfold bQ;rw [<-Hv];exact dC.start _
   refine DW.cut 1 G (DS.text sQ (DS.E5 ah (vq G ah f y r (o q (.head _))) (DS.pf (Kh G f B A r (li 0x13843064203131384306e2031111 [e.1] rfl w) x λ v kc C n=>⟨rfl,λ D F X I=>?_⟩))));rw [ux];exact DW.nil λ H s a=>L D _ ys u4 u5 v (H 0).s.s.s.s.s [] _ rw _ _ _ F X d (λ v c=>(j v c).ext X) l (.one ⟨C,n,I _ (.head _)⟩) H s a
theorem w5n{p0:ae×Sq}{d c:List (ae×Sq)}(L:Lp b e p R u2 s0 C0 Rr row sn)(D:(d++p0::c).map eY=row)(i:bN b st (lO [.ref p0.1] e1))(y:∀q∈p0::(d++c),eO b q/\ej b k0 fQ q.2.t.x)(h1:∀q∈d,q3 q.2 p0.2)(h2:∀q∈c,q3 p0.2 q.2)(P:(d++c).Pairwise λ p q=>q3 p.2 q.2)(hm:¬p0.2.mu=m)(hl:(d++c).length<=1000)(hd:e.dp+110<900)(hF:ql b more tv)(Q:bl ys sn):DW b e (bR p) (aC 5 gq) (cw p) dD (fH p [.ref R.e,u2,.ref p.sn,u4,u5] (ie hx [f9] [u6]++more) rw (ab (.int m tm)) (ab (.ref p0.2.t.x.e)) (ab (.ref st)) (bQ (d++c)) ys tv) s0 C0 Rr:=by
 obtain⟨lo,hi,K,M,Y,Z⟩:=Ql y h1 h2 P hl;obtain⟨S,o⟩:=y p0 (.head _);obtain⟨t1,e2,F⟩:=S;have N:∀q∈p0::(d++c),(eO b q/\ej b k0 fQ q.2.t.x)/\gM b (.ref q.1)=-q.2.mu/\gT b (.ref q.1)=q.2.t.x.tag:=λ q C=>⟨y q C,Ag (y q C).1,FW (y q C).1 (y q C).2⟩;have O:jb (p0::(d++c)) (.ref p0.1):=⟨p0,.head _,rfl⟩
 have I:∀{f},Ext b f->∀q∈d++p0::c,eO f q:=λ X q C=>by
  refine(y q ?_).1.ext X;rcases aO.mp C with h|h;.exact .tail _ (aI _ h)
  .exact(aF.mp h).elim (λ e=>e▸.head _) λ h=>.tail _ (aq _ h)
 have r:∀f j k l g t,Good f->Ext b f->ql f (ie g FO [j,k,l]) t->∀H s,At f s0 C0 s (d' H dD (fH p [.ref R.e,u2,.ref p.sn,u4,u5] (ie (H 0).s.s.s.s.s [f9] [u6]++ie g FO [j,k,l]) rw (ab (.int m tm)) (ab (.ref p0.2.t.x.e)) (ab (.ref st)) (gw (bQ (d++c)) (d.length:Int) (.ref p0.1)) ys t))->bx (aW f.prog f.w) e.ar (bR p) Rr s:=λ f j k l g t u X T H s a=>by rw [Ky]at a;exact L f _ ys u4 u5 u6 _ _ t rw _ _ _ u X D (I X) Q T H s a
 have v:e.dp+100<900:=by exact li 0x13843064203131384306e2031111 [e.1] rfl hd
 refine DW.cut (kk:=k1 FZ) 1 G (DS.text sQ (DS.E5 af (vq G af i F (show 1<=1048576 by decide) hm) (DS.pf ?_)))
 induction hF with
  |one J=>induction n:p0.2.t.x.most with|true=>exact Kj G o i F v N K M O n Y λ j k l c2 c3 z A U V=>⟨rfl,λ f u X B=>by rw [ux];exact DW.nil λ H s a=>r f j k l (H 0).s.s.s.s.s.s _ u X (.all (J.ext X) ⟨z,U,B _ (.head _)⟩ ⟨A,V,B _ (.tail _ (.head _))⟩) H s a⟩|false=>exact Kk G o i F v N K M O n Z λ j k l c2 c3 z A U V=>⟨rfl,λ f u X B=>by rw [ux];exact DW.nil λ H s a=>r f j k l (H 0).s.s.s.s.s.s _ u X (.all (J.ext X) ⟨z,U,B _ (.head _)⟩ ⟨A,V,B _ (.tail _ (.head _))⟩) H s a⟩
  |all J w x=>induction n:p0.2.t.x.most with|true=>exact Kl G o i F v N K M O n w x Y λ j k l=>⟨rfl,λ f u X B=>by rw [ux];exact DW.nil λ H s a=>r f j k l (H 0).s.s.s.s.s.s _ u X (.all (J.ext X) (w.ext X) (x.ext X)) H s a⟩|false=>exact Km G o i F v N K M O n w x Z λ j k l=>⟨rfl,λ f u X B=>by rw [ux];exact DW.nil λ H s a=>r f j k l (H 0).s.s.s.s.s.s _ u X (.all (J.ext X) (w.ext X) (x.ext X)) H s a⟩
end
theorem BB{t:aR}{i:Nat}(hi:i<=9):(eo t (i:Int)).cps.toList=t.cps.toList++[97+i]:=by
 have h:∀i:Fin 10,u9.cps.getD i.1 0=97+i.1:=by decide
 have h:=h ⟨i,lg hi⟩;show(t.cps++#[u9.cps.getD (i:Int).toNat 0]).toList=_;rw [bq,h,jH]
noncomputable def BC(b:List El)(x:El)(a:ae):El:=(b.find? λ y=>decide (y.e=a)).getD x
noncomputable def Hj(b:List El):Nat->El->Tr|0,x=>.mk x []|n+1,x=>.mk x (x.kids.map λ a=>Hj b n (BC b x a))
theorem xc(a:List El)(n:Nat)(x:El):(Hj a n x).x=x:=by induction n<;>rfl
theorem Ak(b:(dG.map (·.e)).Nodup)(a:y∈dG):BC dG x y.e=y:=by unfold BC;induction h:dG.find? λ z=>decide (z.e=y.e)with|none=>exact absurd (ku.mp h y a) (by simp)|some z=>exact jG b (iu h) a (by simpa using m5 h)
theorem F4(t:Tr):y∈t.tags->∃u∈t.nodes,u.x.tag=y:=by
 induction t using Tr.oN with
  |h x ks a=>
   intro h;rcases aF.mp h with rfl|h;.exact⟨_,.head _,rfl⟩
   .exact(sC h).elim λ k q=>(a k q.1 q.2).elim λ u h=>⟨u,.tail _ (oa q.1 h.1),h.2⟩
theorem F5:∀{us:List Tr},y∈Tr.gx us->∃(i:Nat)(u:Tr),us[i]?=ab u/\y∈u.tags:=by intro us;induction us with|nil=>intro h;rw [Tr.gx]at h;cases h|cons u us a=>intro h;rw [Tr.gx]at h;exact(aO.mp h).elim (λ h=>⟨0,u,rfl,h⟩) λ h=>(a h).elim λ i h=>h.elim λ v h=>⟨i+1,v,h⟩
theorem F6:∀{ts:List Tr},(∀t∈ts,t.tags.Nodup)->(∀(i j:Nat)t u,ts[i]?=ab t->ts[j]?=ab u->i≠j->∀y∈t.tags,y∉u.tags)->(Tr.gx ts).Nodup:=by intro ts;induction ts with|nil=>intro _ _;rw [Tr.gx];exact .nil|cons t ts d=>intro h p;rw [Tr.gx,bH];refine⟨h t (.head _),d (λ u a=>h u (.tail _ a)) λ i j u v hi f b=>p (i+1) (j+1) u v hi f λ e=>b (ov e),λ y g z k e=>?_⟩;subst e;obtain⟨i,u,a,c⟩:=F5 k;exact p 0 (i+1) t u rfl a (λ e=>(by injection e)) y g c
theorem Al(h:cq t):t.tags.Nodup:=by induction h with|@mk x ks c d e=>have b:cq (.mk x ks):=.mk c d;rw [Tr.tags,bM];exact⟨sL b,F6 e λ i j t u hi f a y g=>pd b hi f a g⟩
structure sR(b:Bs)(k0 k1:ae)(dG:List El):Prop where
 ok:nJ b.w 10 dG
 dG:∀x∈dG,ej b k0 k1 x
theorem sR.tree{b:Bs}{l k1:ae}{c:List El}(h:sR b l k1 c):∀(n:Nat)(x:El),x∈c->12<=x.tag.length+n->gB b l k1 n (Hj c n x)/\cq (Hj c n x)/\∀t∈(Hj c n x).nodes,t.x∈c:=by
 intro n
 cases n with
  |zero=>intro x g p;exact absurd (h.ok.ok x g).2.1 (λ q=>li 0x110a101311100031c10111 [x.tag.length] rfl p q)
  |succ n=>
   intro x g p;have d:∀(i:Nat)t,(x.kids.map λ a=>Hj c n (BC c x a))[i]?=ab t->t.x.tag=eo x.tag i/\t.x.above=ab x.e/\i<=9/\gB b l k1 n t/\cq t/\∀u∈t.nodes,u.x∈c:=λ i t hi=>by rw [d9]at hi;obtain⟨a,m,rfl⟩:=lS.mp hi;obtain⟨y,o,rfl,f,r⟩:=h.ok.i4 x g i a m;rw [Ak h.ok.es o,xc];exact⟨f,r,gW (d5 (bz.mp m).1 (h.ok.ok x g).2.2),h.tree n y o (by rw [f,kU];exact li 0x4110311c10301104131c10111 [x.tag.length,n] rfl p)⟩
   have j:∀t∈(x.kids.map λ a=>Hj c n (BC c x a)),gB b l k1 n t/\cq t/\∀u∈t.nodes,u.x∈c:=λ t f=>(aZ f).elim λ i hi=>(d i t hi).2.2.2;refine⟨.mk (h.dG x g) (h.ok.ok x g).1 (λ t f=>(j t f).1) ?_ λ i t hi=>⟨(d i t hi).1,(d i t hi).2.1⟩,.mk (λ i k hi=>?_) λ k s=>(j k s).2.1,λ t f=>?_⟩;.rw [fG];refine((eZ λ a m=>?_).trans (Vq _)).symm;obtain⟨i,hi⟩:=aZ m;obtain⟨y,o,e,_⟩:=h.ok.i4 x g i a hi;show(Hj c n (BC c x a)).x.e=a;rw [xc,<-e,Ak h.ok.es o]
   .show k.x.tag.cps.toList=_;rw [(d i k hi).1,BB (d i k hi).2.2.1]
   .rw [Hj,Tr.nodes]at f;rcases aF.mp f with rfl|f;.exact g
    .exact(ja f).elim λ i h=>h.elim λ k h=>(d i k h.1).2.2.2.2.2 t h.2
structure q8(b:Bs)(k0 k1:ae)(dG:List El)(R:Tr):Prop where
 row:sR b k0 k1 dG
 bf:tQ b k0 k1 R
 T:gB b k0 k1 12 R
 most:R.x.most=ah
 ne:¬R.kids=[]
 nd:∀t∈R.nodes,t.x∈dG
 hd:∃tl,dG=R.x::tl
 rt:R.x.tag=Ed
theorem sR.Yq{b:Bs}{p k1:ae}{c:List El}(h:sR b p k1 c)(m:∃q,bN b k1 (hU q)/\bZ q):∃R,q8 b p k1 c R:=by
 obtain⟨r,tl,g,d,B,_⟩:=h.ok.root;have s:r∈c:=g▸.head _;obtain⟨u,v,w⟩:=h.tree 12 r s (by rw [d];decide);have z:=(h.ok.ok r s).1.most;rw [d,show lR Ed=1 by unfold lR;rw [<-Z.modQ_eq];decide]at z;refine⟨Hj c 12 r,h,⟨⟨_,u⟩,v,m,?_⟩,u,by rw [xc,z];rfl,λ C=>?_,w,⟨tl,by rw [xc];exact g⟩,by rw [xc];exact d⟩
 .have D:(c.map (·.tag)).length=11:=by rw [aM,h.ok.len]
  refine ai (len_sub (Al v) λ y k=>?_) (by rw [D];decide);obtain⟨t,F,rfl⟩:=F4 _ k;exact aK (w t F)
 .have n:r.kids=[]:=oB.mp C;have f:=h.ok.len;rw [g]at f
  induction tl with
   |nil=>exact(by injection f with h;injection h)
   |cons y tl=>
    have k:y∈c:=g▸.tail _ (.head _);have o:¬y.tag=r.tag:=λ e=>by have:=h.ok.tags;rw [g,bu,bu,bM,e]at this;exact this.1 (.head _)
    induction A:y.above with
     |none=>exact o ((h.ok.VL y k A).trans d.symm)
     |some a=>
      obtain⟨x,j,_,i,hi⟩:=h.ok.Ma y k a A;have hi:=aB hi;have l:=h.ok.ord;rw [g]at j l;rcases aF.mp j with rfl|j;.rw [n]at hi;cases hi
      .rcases aF.mp j with rfl|j;.exact h.ok.self _ k hi
       .exact(bA.mp (bA.mp l).2).1 x j hi
theorem sR.ext(E:Ext b b'){c k1:ae}{a:List El}(h:sR b c k1 a):sR b' c k1 a:=⟨E.w.symm▸h.ok,λ x d=>(h.dG x d).ext E⟩
theorem q8.ext(E:Ext b b'){c k1:ae}{a:List El}(h:q8 b c k1 a R):q8 b' c k1 a R:=⟨h.row.ext E,h.bf.ext E,h.T.ext E,h.most,h.ne,h.nd,h.hd,h.rt⟩
theorem oX.Yq{b:Bs}{rw c k1:ae}{D:Cells}(h:oX b.w rw c k1 D)(d:∀p∈D,iN b p.1 p.2):∃a R e,q8 b c k1 a R/\iN b rw (lO (refsOf (a.map (·.e))) e):=by obtain⟨a,e,q,i,⟨j,f,k⟩,rfl⟩:=h;have l:sR b c k1 a:=⟨i,λ x g=>by have m:∀p∈zM c k1 x,bN b p.1 p.2:=λ p n=>(d _ (.tail _ (aq _ (aI _ (lW.mpr ⟨x,g,n⟩))))).1;exact⟨m _ (b7 1 rfl),m _ (b7 2 rfl),(d _ (.tail _ (aI _ (aK g)))).1,m _ (b7 4 rfl),m _ (b7 5 rfl),m _ (b7 6 rfl),m _ (b7 7 rfl),m _ (b7 0 rfl)⟩⟩;obtain⟨R,o⟩:=l.Yq ⟨j,(d _ (.tail _ (aq _ (aq _ k)))).1,f⟩;exact⟨a,R,e,o,d _ (.head _)⟩
theorem F7(h:a_ M A c (iC t env v>>=λ j=>dU [] env) (λ j a=>Q () a) lz s):a_ M A c (iC t env v) Q lz s:=λ g p k d=>by have z:=h g p k d;rw [fK]at z;exact gi _ g _ (λ v m a f=>f) (λ e m a f=>f) p s z
theorem uy(F:(g.is_async !=0)=af)(hi:g.ifs=[tx])(H:∀it v,gZ g.target it v=pure ())(I:c=.compLoop (.DictComp kx vx [g] sc p) 0 it (.ref d) env)(h:a_ (aW prog w) A c (qt it) (λ v k=>match v with|az=>R (.ok .next) k|ab v=>a_ (aW prog w) A c (iC g.target env v>>=λ a=>dU [] env) (λ a o=>a_ (aW prog w) A c (eP tx env (dh tx env)) (λ t m=>if t then a_ (aW prog w) A c (dh kx env) (λ f q=>a_ (aW prog w) A c (dh vx env) (λ j y=>bV (aW prog w) (A.under c) (dictSet d f j) (λ a z=>bx (aW prog w) A c R z) lz y) lz q) lz m else bx (aW prog w) A c R m) lz o) lz k) lz s):bx (aW prog w) A c R s:=by
 subst I;refine fD ?_;have B:¬((g.is_async !=0)=ah):=by rw [F];decide
 have e:j9 (.DictComp kx vx [g] sc p) 0 it (.ref d) env=(do eR g.iter.pos;match<-qt it with|az=>pure (.done .next)|ab v=>gZ g.target it v;iC g.target env v;let ok<-eP tx env (dh tx env);if ok then(do let f<-dh kx env;let j<-gh [f] (dh vx env);eR {kx.pos with endLine:=vx.pos.endLine,endCol:=vx.pos.endCol};gh [f,j] (dictSet d f j);again (.compLoop (.DictComp kx vx [g] sc p) 0 it (.ref d) env))else again (.compLoop (.DictComp kx vx [g] sc p) 0 it (.ref d) env)):=by unfold j9;dsimp only [List.getElem?_cons_zero];rw [if_neg B,if_neg B];refine bindC λ a=>bindC λ r=>?_;induction r with|none=>rfl|some v=>dsimp only;refine bindC λ a=>bindC λ a=>?_;rw [hi];simp only [Ll,Ng,if_true,bind_assoc,pure_bind];refine bindC λ ok=>?_;induction ok with|false=>rfl|true=>simp only [if_true,bind_assoc];rfl
 have key:a_ (aW prog w) A (.compLoop (.DictComp kx vx [g] sc p) 0 it (.ref d) env) (j9 (.DictComp kx vx [g] sc p) 0 it (.ref d) env) (λ n J=>postC prog w A R n J) lz s:=by rw [e];refine au (bU (bI ?_));refine au (aQ h (λ v k C=>?_) λ a a x=>x);induction v with|none=>exact bG C|some v=>dsimp only;rw [H];refine au (bG (au (F7 (aQ C (λ a o L=>?_) λ a a x=>x))));refine au (aQ L (λ t m D=>?_) λ a a x=>x);induction t with|false=>exact bG ⟨rfl,D⟩|true=>refine au (aQ D (λ f q M=>?_) λ a a x=>x);refine au (dz (aQ M (λ j y N=>?_) λ a a x=>x));refine au (bU (bI ?_));refine au (dz (bU (iE N (λ a z O=>?_) λ a a x=>x)));exact bG ⟨rfl,O⟩
 show a_ _ A _ (if(pC (.DictComp kx vx [g] sc p) 0 it (.ref d) env).isFrame=ah then(j9 (.DictComp kx vx [g] sc p) 0 it (.ref d) env).onRaise (j4 env)else(j9 (.DictComp kx vx [g] sc p) 0 it (.ref d) env).onRaise (λ x=>do B' x env;Wg x)) _ _ s;induction P:(pC (.DictComp kx vx [g] sc p) 0 it (.ref d) env).isFrame;.exact dY key
 .exact dY key
noncomputable def B9:bO:=sE (bE (aP 23) 4) 0
noncomputable def Yr:bO->j3|.DictComp _ _ (g::_) _ _=>g|_=>default
noncomputable def dcS:bO->B_|.DictComp _ _ _ s _=>s|_=>default
noncomputable def Z':bO->bO|.DictComp k _ _ _ _=>k|e=>e
noncomputable def dcV:bO->bO|.DictComp _ v _ _ _=>v|e=>e
noncomputable def Qm:bO:=(Yr B9).ifs.headD B9
noncomputable def uz(p:Cp):fJ:=x1 B9 q0 143 p.L p.F
noncomputable def jv(p:Cp):aT:=.compLoop B9 0 (.ref p.it) (.ref p.acc) (uz p)
theorem uA(p:Cp):jv p=.compLoop (.DictComp (Z' B9) (dcV B9) [Yr B9] (dcS B9) (aY B9)) 0 (.ref p.it) (.ref p.acc) (uz p):=by kernel_rfl
theorem Qn:Qm=.Compare (xE Qm 0) [.Eq] [.List [] (aY (xE Qm 1))] (aY Qm):=by kernel_rfl
noncomputable def Qo:aR:=⟨#[111,110,101]⟩
noncomputable def Kz:Bool->List aR|ah=>[]|af=>[Qo]
noncomputable def qm(f:Bool):List Kd:=[.dd,.dc (Kz f),.it]
section
variable{b:Bs}(G:Good b){k0 fQ:ae}{x:El}(hx:ej b k0 fQ x){e:Ev}{p:Cp}{es:Array aj}{ep:Nat}{l:ae}{i:Int}
include G
theorem KA{xs:List aa}{d:Nat}{K:Kv}{a:List aa}(c:bN b l (lO xs d)){q:aa}(h:0<=i/\bE xs i.toNat=ab q)(f:Bool)(g:mv f a)(hK:K 0 (.ok (.ret q)) [(p.acc,.dd es ep),(p.L,.fr a),(p.it,.it l (i+1))] []):DN b e (jv p) (.ref p.it) (qm f) [(p.acc,.dd es ep),(p.L,.fr a),(p.it,.it l i)] (k1 (qm f)) K:=by induction f<;>rcases a with _|⟨v,_|⟨_,_⟩⟩<;>induction g;all_goals exact DN.run G [⟨_,_,c⟩] [fc c q] (oo 0x132413213616 []) λ n=>c4 (E [p.3] 0x1000) (@rfl ae l) h (λ(j:Nw)=>hK)
theorem KC{xs:List aa}{d:Nat}{K:Kv}(c:bN b l (lO xs d))(h:0<=i/\bE xs i.toNat=az)(hK:K 0 (.ok .next) [(p.acc,.dd es ep),(p.L,.fr [u])] []):DN b e (jv p) (.ref p.it) (qm af) [(p.acc,.dd es ep),(p.L,.fr [u]),(p.it,.it l i)] (k1 [.dd,.dc (Kz af)]) K:=DN.run G [⟨_,_,c⟩] [fN c] (oo 0x323183213616 []) λ n=>c4 (E [p.3] 0x1000) (@rfl ae l) (h) (λ(a:ae)(D:Array aa)(f:Nw)=>c2 (E [a] 0x10) hK)
theorem KD{K:Kv}{a:List aa}{x:ae}(f:Bool)(c:mv f a)(hK:K 0 (.ok .next) [(p.acc,.dd es ep),(p.L,.fr [.ref x]),(p.it,.it l i)] []):DB b e (jv p) (Yr B9).target (.ref x) [] (uz p) (qm f) [(p.acc,.dd es ep),(p.L,.fr a),(p.it,.it l i)] (k1 (qm af)) K:=by induction f<;>rcases a with _|⟨v,_|⟨_,_⟩⟩<;>induction c;all_goals exact DB.run G [] [] (oo 0x3214124 []) λ n=>c2 (E [p.1] 0x100) hK
include hx
theorem KG:DE b e (jv p) (xE Qm 0) (uz p) (qm af) [(p.acc,.dd es ep),(p.L,.fr [.ref x.e]),(p.it,.it l i)] (k1 (qm af)) (eM (.ref x.bT) [(p.acc,.dd es ep),(p.L,.fr [.ref x.e]),(p.it,.it l i)]):=DE.run G [⟨_,_,hx.fn⟩,⟨_,_,hx.dk⟩] [] (oo 0x32141533313134 []) λ n=>c2 (E [x.2,x.1,p.1] 0x12111110) (iG (.ref x.bT) [(p.acc,.dd es ep),(p.L,.fr [.ref x.e]),(p.it,.it l i)])
theorem KH:DE b e (jv p) (Z' B9) (uz p) (qm af) [(p.acc,.dd es ep),(p.L,.fr [.ref x.e]),(p.it,.it l i)] (k1 (qm af)) (eM (.str x.tag x.tt) [(p.acc,.dd es ep),(p.L,.fr [.ref x.e]),(p.it,.it l i)]):=DE.run G [⟨_,_,hx.fn⟩,⟨_,_,hx.dk⟩] [] (oo 0x32141533313134 []) λ n=>c2 (E [x.2,x.1,p.1] 0x12111110) (iG (.str x.tag x.tt) [(p.acc,.dd es ep),(p.L,.fr [.ref x.e]),(p.it,.it l i)])
theorem KI(a:dr b.w (ft x.j2 x.l7) (ents x.j2))(c:cy (ents x.j2) ou=ab (.int x.n t)):DE b e (jv p) (dcV B9) (uz p) (qm af) [(p.acc,.dd es ep),(p.L,.fr [.ref x.e]),(p.it,.it l i)] (k1 (qm af)) (eM (.int x.n t) [(p.acc,.dd es ep),(p.L,.fr [.ref x.e]),(p.it,.it l i)]):=DE.run G [⟨_,_,hx.fn⟩,⟨_,_,hx.dk⟩,⟨_,_,hx.ad⟩] [lC G hx.ad a c] (oo 0x32141111371777533313134 []) λ n=>c3 (E [x.10,x.2,x.1,p.1] 0x132222210000) (c2 (@rfl ae x.ad) (@rfl aR (fb (bY [110])))) (λ(d:Nw)=>iG (.int x.n t) [(p.acc,.dd es ep),(p.L,.fr [.ref x.e]),(p.it,.it l i)])
end
noncomputable def vQ(dG:List El):List El:=dG.filter λ x=>x.kids.isEmpty
noncomputable def mV(dG:List El)(t:aR->aX):List (aR×aa):=(vQ dG).map λ x=>(x.tag,.int x.n (t x.tag))
theorem F8(h:x.kids.isEmpty=af):mV (xs++[x]) t=mV xs t:=by unfold mV vQ;rw [iQ,iX (by simp [h]),Lw,aA]
theorem F9(h:x.kids.isEmpty=ah)(hx:x.tag∉xs.map (·.tag)):mV (xs++[x]) (λ y=>if y=x.tag then tn else t y)=jX (mV xs t) x.tag (.int x.n tn):=by
 have d:∀y∈vQ xs,y.tag≠x.tag:=λ y a e=>hx (e▸aK (c_.mp a).1);unfold jX;rw [if_neg λ f=>?_]
 .unfold mV vQ;rw [iQ,lZ (by simpa using h),Lw,aU,List.map_singleton];refine congr (congrArg HAppend.hAppend (eZ λ y a=>?_)) ?_;.show(y.tag,ak y.n (if y.tag=x.tag then tn else t y.tag))=_;rw [if_neg (d y a)]
  .show [(x.tag,ak x.n (if x.tag=x.tag then tn else t x.tag))]=_;rw [if_pos rfl]
 .obtain⟨g,c,e⟩:=rO.mp f;obtain⟨y,a,rfl⟩:=ba.mp c;exact d y a (by simpa using e)
theorem Am(xs:List El)(t:aR->aX):(mV xs t).length<=xs.length:=by unfold mV vQ;rw [aM];exact fq _ _
theorem mz.val(h:mz w x):∃t,cy (ents x.j2) ou=ab (.int x.n t):=by have a:=h.num.2;have c:=h.has;unfold x2 at a;induction e:cy (ents x.j2) ou with|none=>exact absurd e c|some v=>rw [e]at a;induction v<;>first|exact ns a|(cases a;exact⟨_,rfl⟩)
theorem Do.wp{m:Type}{b:Bs}{e:Ev}{c:aT}{ks:List Kd}{vs:List eK}{ks':Nat->List Kd}{K:Kv}{t:nh m}{f:m->BR}(h:Do b e c t f ks vs ks' K){H:Hs}{s0 s:aD}{C0:Cells}(a:At b s0 C0 s (d' H ks vs)){Q:m->aD->Prop}{E:aa->aD->Prop}(q:∀j v d tl k g,K j (.ok (f v)) d tl->At b s0 C0 g (d' k (ks' j) d)->Q v g)(r:∀j x d tl,¬K j (.error x) d tl):a_ (aW b.prog b.w) e.ar c t Q E s:=aQ (h H s0 C0 s a) (λ v g n=>n.out λ j d tl k hK o=>q j v d tl k g hK (o.sub (a9 _ _))) λ x g n=>n.out λ j d tl k hK o=>absurd hK (r j x d tl)
section
variable{b:Bs}(G:Good b){k0 fQ rw:ae}{dG:List El}{er:Nat}(hB:sR b k0 fQ dG)(qN:bN b rw (lO (refsOf (dG.map (·.e))) er)){e:Ev}(hu:e.un+10<9900){p:Cp}{K:Kv}(hK:∀u es ep tk,dr b.w (ft es ep) (mV dG tk)->K 0 (.ok .next) [(p.acc,.dd es ep),(p.L,.fr [u])] [])
include G hB qN hu hK
theorem KJ:∀m k,k+m=dG.length->∀f o es ep tk,mv f o->(f=ah->k=0)->dr b.w (ft es ep) (mV (dG.take k) tk)->dg b e (jv p) (qm f) [(p.acc,.dd es ep),(p.L,.fr o),(p.it,.it rw k)] (k1 [.dd,.dc (Kz af)]) K:=by
 intro m
 induction m with
  |zero=>intro k d f o es ep tk F w z;exact λ H s0 C0 s a=>by have d:k=dG.length:=d;have S:=hB.ok.len;induction f with|true=>exact absurd (w rfl) (by lia)|false=>rcases o with _|⟨u,_|⟨_,_⟩⟩<;>induction F;rw [d,fY]at z;refine uy (tx:=Qm) (by kernel_rfl) (by kernel_rfl) (λ q q=>by kernel_rfl) (uA p) ((KC (K:=λ q r vs tl=>r=.ok .next/\vs=[(p.acc,.dd es ep),(p.L,.fr [u])]) G qN ⟨aS _,by rw [bq,dH,d];exact cY (by rw [kW,aM];exact bt _)⟩ ⟨rfl,rfl⟩).wp a (λ j v c tl H' s' n a'=>?_) λ j x c tl h=>(by injection h.1));obtain⟨I,rfl⟩:=n;induction v with|some v=>exact(by injection I with h;injection h)|none=>exact⟨0,_,[],H',hK u es ep tk z,by rw [aA];exact a'⟩
  |succ m T=>
   intro k d f o es ep tk F w z
   exact λ H s0 C0 s a=>by
    have g:k<dG.length:=by exact li 0x1533251104131111 [k,m,dG.length] rfl d
    have A:dG[k]∈dG:=ib g;have B:dG.take (k+1)=dG.take k++[dG[k]]:=(List.take_append_getElem g).symm;have hx:=hB.dG _ A;have U:=(hB.ok.ok _ A).1;have C:=hB.ok.len;obtain⟨t,hv⟩:=U.val;have hn:bE (refsOf (dG.map (·.e))) (k:Int).toNat=ab (.ref dG[k].e):=by rw [bq,dH];unfold refsOf;rw [fG,d9,aJ g];rfl
    refine uy (tx:=Qm) (by kernel_rfl) (by kernel_rfl) (λ q q=>by kernel_rfl) (uA p) ((KA (K:=λ q r vs tl=>r=.ok (.ret (.ref dG[k].e))/\vs=[(p.acc,.dd es ep),(p.L,.fr o),(p.it,.it rw (k+1:Nat))]) G qN ⟨aS _,hn⟩ f F ⟨rfl,rfl⟩).wp a (λ j v c tl H1 s1 n a1=>?_) λ j x c tl h=>(by injection h.1));obtain⟨I,rfl⟩:=n
    induction v with
     |none=>exact(by injection I with h;injection h)
     |some v=>
      cases eU (cA I);dsimp only;refine(KD (K:=λ q r vs tl=>r=.ok .next/\vs=[(p.acc,.dd es ep),(p.L,.fr [.ref dG[k].e]),(p.it,.it rw (k+1:Nat))]) G f F ⟨rfl,rfl⟩).wp a1 (λ j v c tl H2 s2 n a2=>?_) λ j x c tl h=>(by injection h.1);obtain⟨_,rfl⟩:=n;rw [Qn];have J:e.un+(jv p).cUnits<9900:=by rw [show(jv p).cUnits=0 by kernel_rfl];exact li 0x126ac4000313126ac40a1031111 [e.2] rfl hu
      refine(DT.yj G J (λ H s R=>⟨_,R.jq _ _ hx.bT.1 hx.bT.2⟩) (KG G hx)).mN a2 λ H3 s3 X=>?_;have he:(refsOf dG[k].kids).isEmpty=dG[k].kids.isEmpty:=by induction dG[k].kids<;>rfl
      rw [he]
      induction n:dG[k].kids.isEmpty with
       |false=>exact T (k+1) (a7 (li 0x541103113251104131111 [k,m,dG.length] rfl d) (li 0x511041133211051413111 [dG.length,k,m] rfl d.symm)) af [.ref dG[k].e] es ep tk trivial (λ h=>(by injection h)) (by rw [B,F8 n];exact z) H3 s0 C0 s3 X
       |true=>
        refine(KH G hx).then X λ H4 s4 a4=>(KI G hx U.num.1 hv).then a4 λ H5 s5 Y=>?_;have S:(mV (dG.take k) tk).length<=1000:=ai (Am _ _) (by rw [eG];exact li 0x3e830430341112110a1013111 [dG.length,min k dG.length] rfl C (fh k dG.length));rw [G.prog];refine Nc (knd:=strKind PW b.w) (r8 _ _ _ _) (z.at (Y.R.own (p.acc,_) (.head _))) (λ h' L M=>?_) (by rw [di];exact ai S (by decide));obtain⟨o',N,D⟩:=dr.of L;obtain⟨O,P,rfl⟩:=dr.dd D;rw [<-G.prog];refine T (k+1) (a7 (li 0x541103113251104131111 [k,m,dG.length] rfl d) (li 0x511041133211051413111 [dG.length,k,m] rfl d.symm)) af [.ref dG[k].e] O P (λ y=>if y=dG[k].tag then t else tk y) trivial (λ h=>(by injection h)) ?_ H5 s0 C0 _ (Y.upd (V:=[_]) (Trans.one N M));rw [B,F9 n λ Q=>?_];.exact D
        .obtain⟨y,hy,e⟩:=ba.mp Q;obtain⟨j,Z,rfl⟩:=List.mem_take_iff_getElem.mp hy;have h2:(dG.map (·.tag))[j]'(by rw [aM];exact d5 Z (fh k dG.length))=(dG.map (·.tag))[k]'(by rw [aM];exact g):=by rw [lY,lY];exact e
         have:=(Hl hB.ok.tags).mp h2;exact li 0x54111235111143111 [j,min k dG.length,k] rfl Z this.symm (M' k dG.length)
end
noncomputable def cKn(w:cP)(rw:ae)(dG:List El)(p:Cp)(es:Array aj)(ep:Nat)(l:ae)(i:Int):Ct:=⟨[p.acc,p.L,p.it],λ d u a=>[u+10<9900,l=rw/\i=0/\es=#[]],λ K=>∀v es ep tk,dr w (ft es ep) (mV dG tk)->K 0 (.ok .next) [(p.acc,.dd es ep),(p.L,.fr [v])] []⟩
noncomputable def Ys(w:cP)(rw:ae)(dG:List El):Sp:=gb (.of fo jv) [.dd,.fr [],.it] (qm ah) (k1 [.dd,.dc (Kz af)]) (cKn w rw dG)
theorem Uz(G:Good b){k0 fQ rw:ae}(hB:sR b k0 fQ dG)(qN:bN b rw (lO (refsOf (dG.map (·.e))) er)):bj b (Ys b.w rw dG):=ct λ p es ep l i e rest K hu h hK=>by obtain⟨rfl,rfl,rfl⟩:=h;exact KJ G hB qN hu hK dG.length 0 (cN _) ah [] #[] ep (λ a=>0) trivial (λ a=>rfl) sk
theorem F_:vs.length=ks.length->(∀(j:Nat)(k:aR)(v:aa),ks[j]?=ab k->vs[j]?=ab v->v.isStrOf k=ah)->StrsAre vs ks:=by
 induction vs generalizing ks with
  |nil=>intro h _;induction ks with|nil=>exact .nil|cons _ _=>injection h
  |cons v vs b=>intro h a;induction ks with|nil=>injection h|cons k ks=>obtain⟨t,rfl⟩:=oj (a 0 k v rfl rfl);exact .cons k t (b (ov h) λ j c d e f=>a (j+1) c d e f)
theorem BD(h:StrsAre vs ts):bl vs ts:=by induction h with|nil=>exact .nil|cons y t _ a=>exact .cons a
theorem Trans.fresh(d:∀p∈C,s.heap.get? p.1=ab p.2)(i:(C.map (·.1)).Nodup)(g:∀b o,s.heap.get? b=ab o->s'.heap.get? b=ab o)(h:s.heap.get? l=az)(j:s'.heap.get? l=ab o)(k:s'.os=s.os/\s'.gens=s.gens:=by exact⟨rfl,rfl⟩):Trans s s' C (C++[(l,o)]):=by
 have f:∀p∈C,p.1≠l:=λ p c e=>by have:=d p c;rw [e,h]at this;cases this
 refine⟨λ b x e q=>g b x e,λ p c=>?_,?_,λ p c=>?_,k⟩
 .rcases aO.mp c with c|c;.exact g _ _ (d p c)
  .rw [ay.mp c];exact j
 .rw [aU,bH];refine⟨i,bM.mpr ⟨ax,.nil⟩,λ a m b n e=>?_⟩;obtain⟨p,c,rfl⟩:=ba.mp m;exact f p c (e.trans (ay.mp n))
 .rcases aO.mp c with c|c;.exact .inl (aK c)
  .rw [ay.mp c];exact .inr h
theorem Trans.kept(a:∀p∈C,s.heap.get? p.1=ab p.2)(f:(C.map (·.1)).Nodup)(d:∀b o,s.heap.get? b=ab o->s'.heap.get? b=ab o)(g:s'.os=s.os/\s'.gens=s.gens:=by exact⟨rfl,rfl⟩):Trans s s' C C:=⟨λ b x e h=>d b x e,λ p c=>d _ _ (a p c),f,λ p c=>.inl (aK c),g⟩
theorem dr.UA{w:cP}{o:dR}{eF:List (aR×aa)}{h:Q3}(x:dr w o eF)(b:h.get? a=ab o):∃ep,h.DictAt (strKind PW w) a eF ep:=x.2.elim λ es y=>y.elim λ ep y=>⟨ep,o,es,b,x.1,y⟩
noncomputable def Qp{b:Bs}(G:Good b)(eF:List (aR×aa)):Ok b:=⟨gD "sorted" [.re] [.dd] λ d es ep=>⟨[d],λ w w w K=>(¬d=1/\dr b.w (ft es ep) eF/\eF.length<64)/\∀l xs o ts,bl xs ts->ts.Perm (eF.map (·.1))->K 0 (.ok (.ret (.ref l))) [(d,ft es ep)] [(l,lO xs o)]⟩,bF λ d es p=>.mk λ A s rest K R h H Rd q=>by
 obtain⟨⟨r,I,y⟩,J⟩:=h;rw [G.prog];obtain⟨ep,L⟩:=I.UA (Rd.own (d,ft es p) (.head _));have z:eF.length<=lN:=by rw [di];exact li 0x10000007033140203111 [eF.length] rfl y
 refine bL plain_sorted entry_sorted ?_;unfold cK.«sorted»;refine aw (bc ?_);refine aw (kdu_collect (kdl_dict (kh r)) (show A.in1.handled=az from H) L z λ f tk a B c=>?_);have t:StrsAre a.toList (eF.map (·.1)):=F_ (by rw [cx,aM];exact c.1) λ j k v f n=>by obtain⟨X,x,M,N⟩:=c.2 j v (by rw [<-m4];exact n);rw [d9,M]at f;cases f;exact N
 have g:a.toList.length=eF.length:=by rw [cx];exact c.1
 refine aw (BZ ?_ (by rw [g];exact z));have i:(f.push {cls:=.type "list",data:=.seq a.toList.toArray}).get? f.objs.size=ab (fV "list" a.toList.toArray 0):=eX _ rfl;refine aw (hD (gs Zc ⟨_,i,rfl⟩ Wj (list_sort_treeK strKind_oneLt i t.keysOf (λ C D rest e=>keyKind_strs (by rw [<-e];exact t)) (by rw [g];exact y) λ m O P=>⟨.none,rfl,?_⟩) (args_list_sort _)));obtain⟨ts,Q,S,_⟩:=sorted_out_str t O P;obtain⟨e,T⟩:=sortedHeap_at i;have u:∀b x,s.heap.get? b=ab x->(sortedHeap (f.push {cls:=.type "list",data:=.seq a.toList.toArray}) f.objs.size a.toList ((Ly m).map (·.2))).get? b=ab x:=λ b x U=>by have n:=B b x U;have F:=e5 n;rw [sortedHeap_old (q' F) (by rw [kq];exact gU F)];exact bS _ n
 refine bc (q 0 _ _ _ _ (J f.objs.size ((Ly m).map (·.2)).toList e ts (BD Q) S) (Trans.fresh Rd.left.own Rd.left.nd u ?_ ?_));.induction V:s.heap.get? f.objs.size with|none=>rfl|some x=>exact absurd (e5 (B _ _ V)) (fS _)
 .exact T.trans (congrArg ab (by unfold lO fV;rw [fF]))⟩
noncomputable def UB(eF:List (aR×aa)):Prop:=eF≠[]/\∀a∈eF,∃x t,a.2=.int x t
noncomputable def F'(eF:List (aR×aa))(m:Int):Prop:=(∃k t,(k,ak m t)∈eF)/\∀a∈eF,∀x t,a.2=.int x t->x<=m
noncomputable def xd(eF:List (aR×aa))(i:Nat):Int:=match eF[i]? with|ab (_,.int x _)=>x|_=>0
noncomputable def UC{b:Bs}(G:Good b)(eF:List (aR×aa)):Ok b:=⟨gD "max" [.re] [.fl "dict_values" [.re],.dd] λ v d es ep=>⟨[v,d],λ C C C K=>(dr b.w (ft es ep) eF/\UB eF)/\∀m t,F' eF m->K 0 (.ok (.ret (.int m t))) [(v,nV "dict_values" [.ref d]),(d,ft es ep)] []⟩,bF λ v d es o=>.mk λ A s rest K R h M Rd q=>by
 obtain⟨⟨N,p,f⟩,O⟩:=h;rw [G.prog];have P:=Rd.own (v,nV "dict_values" [.ref d]) (.head _);have D:=Rd.own (d,ft es o) (.tail _ (.head _));obtain⟨ep,H⟩:=N.UA D;have g:=e5 D;refine bL F.plain_max F.entry_max ?_;show bV _ A.in1 (nA "max" ["key","default"] 0 ⟨[],[]⟩>>=_) _ _ s;refine aw (l8 (show nA "max" ["key","default"] 0 ⟨[],[]⟩=pure [az,az]from rfl) ?_);refine aw (bc ?_);refine aw (wpAny_pyIter_values ⟨_,P,rfl,rfl⟩ H ?_);refine aw (ia ?_);rw [show(toString "max"++toString ".loop":String)="max.loop"by decide];have I:∀(i:Nat)(v:aa),(∃k,eF[i]?=ab (k,v))->∃t,v=.int (xd eF i) t:=λ i v⟨k,e⟩=>by obtain⟨x,t,J⟩:=f _ (aB e);exact⟨t,by unfold xd;rw [e];dsimp only at J;rw [J]⟩
 have Q:0<eF.length:=List.length_pos_iff.mpr p;have S:s.heap.objs.size≠d:=rf g;have r:(s.heap.push {cls:=.type "dict_valueiterator",data:=.fields #[.ref d,.int 0 0,.int eF.length 0,.int ep 0]}).objs.size=s.heap.objs.size+1:=kq ..;refine bc ⟨rP F.plain_max_loop _,codeAny_max_loop_first (Walks.dictValues (show A.in1.handled=az from M) s.heap.objs.size d S.symm eF ep) (λ i j=>decide (xd eF i>xd eF j)) (CmpOf.ints_gt (xd eF) I) _ (λ l=>?_) Q ⟨⟨_,bS _ (eX _ rfl),rfl,rfl⟩,(H.push _).push _⟩ (eX _ rfl) λ x T tk n U=>?_⟩
 .rcases aF.mp l with e|l;.exact absurd (r.symm.trans e) (Nat.succ_ne_self _)
  .exact absurd (r.symm.trans (ay.mp l)) (rf (gU g))
 .obtain⟨t,rfl⟩:=I _ _ n;obtain⟨k,u⟩:=n;have V:=argBest_gt (xd eF) (eF.length-1);have w:∀b x,s.heap.get? b=ab x->T.get? b=ab x:=λ b x e=>U b x (λ l=>absurd (ay.mp l▸e5 e) (fS _)) (q' (d5 (e5 e) (by show _<=Array.size _;rw [show(s.heap.push {cls:=.type "dict_valueiterator",data:=.fields #[.ref d,.int 0 0,.int eF.length 0,.int ep 0]}).objs.size=s.heap.objs.size+1 from r];exact om _))) (bS _ (bS _ e));refine q 0 _ _ _ _ (O _ t ⟨⟨k,t,aB u⟩,λ X z y Z e=>?_⟩) (Trans.kept Rd.left.own Rd.left.nd w);obtain⟨j,L⟩:=aZ z;have B:=(bz.mp L).1;have:=V.2 j (li 0x5330110514111143111 [j,eF.length,eF.length-1] rfl B (cI eF.length 1));have Y:xd eF j=y:=by unfold xd;obtain⟨a,c⟩:=X;dsimp only at e;subst e;rw [L]
  rw [Y]at this;exact this⟩
noncomputable def UD(G:Good b)(eF:List (aR×aa)):Ok b:=⟨gD "dict.values" [.re] [.dd] λ d es ep=>⟨[d],λ a a a K=>(¬d=1/\dr b.w (ft es ep) eF)/\∀v,K 0 (.ok (.ret (.ref v))) [(d,ft es ep)] [(v,nV "dict_values" [.ref d])]⟩,bF λ d es ep=>.mk λ A s rest K R h i Rd q=>by obtain⟨⟨c,f⟩,g⟩:=h;rw [G.prog];exact bL (by decide+kernel) (aL (by kernel_rfl)) (meets_dict_values (strKind PW b.w) d (kh c) A _ s ⟨⟨eF,f.at (Rd.own (d,ft es ep) (.head _))⟩,q 0 _ _ _ _ (g s.heap.objs.size) (Trans.fresh Rd.left.own Rd.left.nd (λ a a e=>bS _ e) (y0 _) (eX _ rfl))⟩)⟩
noncomputable def pj:aR:=⟨#[118,97,108,117,101]⟩
noncomputable def vt:aR:=⟨#[98,101,115,116]⟩
noncomputable def rI:aR:=⟨#[102,111,117,110,100]⟩
noncomputable def vu:aR:=⟨#[114,97,110,107]⟩
noncomputable def rJ:aR:=⟨#[115,104,101,108,102]⟩
noncomputable def UE:List Kd:=[.fr Ui,.dd,.cl,.cl,.cl,.cl,.tb,.tb]
noncomputable def LA.v5(g:LA)(rw a:ae)(es:Array aj)(ep:Nat):List eK:=[(g.L,.fr [.ref rw,.bool ah]),(a,.dd es ep),(g.cg,.cl az),(g.ce,.cl az),(g.ca,.cl az),(g.cb,.cl az),(136,.fr []),(141,.fr [])]
noncomputable def Yt:List aR:=[oW,kH,pe,pj]
noncomputable def Qq:List Kd:=[.fr Yt,.cl,.cl,.cl,.tb,.tb]
noncomputable def LA.v6(g:LA)(rw:ae)(a:Int)(c:aX)(V:Int)(d:aX):List eK:=[(g.L,.fr [.ref rw,.bool ah,.int a c,.int V d]),(g.ce,.cl az),(g.ca,.cl az),(g.cb,.cl az),(136,.fr []),(141,.fr [])]
theorem Ga(t:Tr)(h:∀u∈t.nodes,u.kids=[]->f u.x=g u.x):Tr.worth f t=Tr.worth g t:=bg (gL t (λ u a c e=>h u a c▸e) (aN _)) (gL t (λ u a c e=>h u a c▸e) (aN _))
theorem An{b:Bs}{k0 k1:ae}(h:gB b k0 k1 n t):∃u∈t.nodes,u.kids=[]:=by induction h with|@mk n x a _ _ f _ _ d=>induction a with|nil=>exact⟨_,dm _,rfl⟩|cons k ks=>exact(d k (.head _)).elim λ u c=>⟨u,gg (.head _) c.1,c.2⟩
section
variable{b:Bs}{k0 k1:ae}{dG:List El}{R:Tr}{tk:aR->aX}
theorem q8.node(h:q8 b k0 k1 dG R){u:Tr}(a:u∈R.nodes):u.x.kids=u.kids.map Tr.e/\mz b.w u.x:=by obtain⟨n,c⟩:=h.T.node u a;induction c with|mk _ d _ f _=>exact⟨f,d⟩
theorem q8.leaf(h:q8 b k0 k1 dG R){u:Tr}(a:u∈R.nodes)(c:u.kids=[]):u.x∈vQ dG:=c_.mpr ⟨h.nd u a,by rw [(h.node a).1,c];rfl⟩
theorem rK(h:kv∈mV dG tk):∃x∈vQ dG,kv=(x.tag,.int x.n (tk x.tag)):=(ba.mp h).elim λ x h=>⟨x,h.1,h.2.symm⟩
theorem Qr(d:(dG.map (·.tag)).Nodup)(a:x∈vQ dG):cy (mV dG tk) x.tag=ab (.int x.n (tk x.tag)):=by
 unfold cy
 induction e:(mV dG tk).find? λ c=>decide (c.1=x.tag)with
  |none=>exact absurd (ku.mp e _ (aK a)) (by simp)
  |some c=>
   obtain⟨y,f,rfl⟩:=rK (iu e);have h:y.tag=x.tag:=by simpa using m5 e
   have i:=jG d (c_.mp f).1 (c_.mp a).1 h;subst i;rfl
theorem KL(h:cy (mV dG tk) k=ab v):∃x∈vQ dG,x.tag=k/\v=.int x.n (tk x.tag):=by unfold cy at h;induction e:(mV dG tk).find? λ a=>decide (a.1=k)with|none=>rw [e]at h;cases h|some a=>rw [e]at h;cases h;obtain⟨y,c,rfl⟩:=rK (iu e);exact⟨y,c,by simpa using m5 e,rfl⟩
theorem q8.kv(h:q8 b k0 k1 dG R):UB (mV dG tk):=by obtain⟨u,c,d⟩:=An h.T;exact⟨List.ne_nil_of_mem (aK (h.leaf c d)),λ i a=>(rK a).elim λ x f=>⟨x.n,tk x.tag,congrArg eY f.2⟩⟩
structure UG(b:Bs)(dG:List El)(tk:aR->aX)(es:Array aj)(ep:Nat):Prop where
 d:dr b.w (ft es ep) (mV dG tk)
 ok:lq ((vQ dG).map (·.tag)) b.w es ep
 av:∀x∈vQ dG,dF es x.tag=ab x.n
theorem Qs(h:q8 b k0 k1 dG R){es:Array aj}(d:dr b.w (ft es ep) (mV dG tk)):UG b dG tk es ep:=by
 have a:=d.ents;refine⟨d,⟨a▸d,λ j f=>?_,λ k v i=>?_⟩,λ x c=>?_⟩;.rw [a]at f;obtain⟨x,c,rfl⟩:=rK f;exact aK c
 .rw [a]at i;obtain⟨x,c,_,rfl⟩:=KL i;exact⟨_,_,rfl⟩
 .unfold dF;rw [a,Qr h.row.ok.tags c];rfl
theorem UG.worth{es:Array aj}(h:UG b dG tk es ep)(hE:q8 b k0 k1 dG R)(o:Int):Tr.worth (eV (dF es) o) R=R.V:=Ga R λ u a c=>by unfold eV;rw [h.av _ (hE.leaf a c)];rfl
end
section
variable{b:Bs}(G:Good b){g:LA}{k0 fQ rw:ae}{dG:List El}{R:Tr}{er:Nat}(hE:q8 b k0 fQ dG R)(qN:bN b rw (lO (refsOf (dG.map (·.e))) er))
include G hE qN
theorem Gb{e:Ev}{K:Kv}(c:e.un+130<9900)(d:∀a es ep tk,dr b.w (ft es ep) (mV dG tk)->K 0 (.ok .next) (g.v5 rw a es ep) [(g.ck,iF (ab (.ref a)))]):DS b e (bK g) (cj 1 (aC 4 (aP 23))) g.en JX (g.v4 rw) (k1 UE) K:=DS.run G [⟨_,_,qN⟩] [⟨_,Uz G hE.row qN⟩] (oo 0x8a9765413a1810f244312413622131332 []) λ n=>c5 (E [n.1 1,n.1 2,n.1 0,rw,g.1] 0x1433322210) (@rfl aT (jv (Cp.mk (n.1 2) g.1 (n.1 0) (n.1 1) 0 0 0))) ((by exact li 0x126ac40a103103113126ac40822031111 [e.2] rfl c):e.un+3+10<9900) (c3 (@rfl ae rw) (@rfl Int 0) (@rfl (Array aj) (bY []))) (λ(v:aa)(es:Array aj)(ep:Nat)(tk:aR->aX)(h:dr b.w (ft es ep) (mV dG tk))(f:Nw)=>c2 (E [g.9,n.1 2] 0x111100) (d (n.ad 1) es ep tk h))
theorem Gd{e:Ev}{K:Kv}{a:ae}(s:e.dp+330<900)(u:e.un+400<9900)(d:UG b dG tk es ep)(f:¬a=1)(i:bN b g.ck (iF (ab (.ref a))))(q:∀tg xs c ts m w y,bl xs ts->ts.Perm ((mV dG tk).map (·.1))->F' (mV dG tk) m->K 0 (.ok .next) (g.v6 rw (m+1) w R.V y) [(a,ft es ep),(g.cg,iF (ab (.ref tg))),(tg,lO xs c)]):DS b e (bK g) (cj 1 (aC 5 (aP 23))) g.en UE (g.v5 rw a es ep) (k1 Qq) K:=by have z:=d.worth hE 0;rw [<-z]at q;have r:dG.length=11:=hE.row.ok.len;have A:(0:Int)<=0/\(refsOf (dG.map (·.e))).length<=1048576/\bE (refsOf (dG.map (·.e))) (0:Int).toNat=ab (.ref R.e):=⟨aN _,by rw [kW,aM,r];decide,by obtain⟨tl,B⟩:=hE.hd;rw [B];rfl⟩;have j:(mV dG tk).length<64:=cM (Am dG tk) (li 0x14020332b103111 [dG.length] rfl r);have C:=hE.kv (tk:=tk);exact DS.run G [⟨_,_,qN⟩,⟨_,_,i⟩] [Qp G (mV dG tk),UD G (mV dG tk),UC G (mV dG tk),e8 qN (.ref R.e),⟨_,EY (T:=(vQ dG).map (·.tag)) G hE.T⟩] (oo 0xe85dcba97a17e7e810f212422121212422121212422121212422121221212222217151163133361111a3151121421222251122131511 []) λ n=>c3 (E [a,g.9] 0x110) (c3 f d.d j) (λ(l:ae)(xs:List aa)(c:Nat)(ts:List aR)(h:bl xs ts)(k:ts.Perm (cF (λ(x:aR×aa)=>x.fst) (mV dG tk)))(F:Nw)=>c3 (E [a,g.9] 0x11000000) (c2 f d.d) (λ(v:ae)(H:Nw)=>c3 (E [v,a] 0x110) (c2 d.d C) (λ(m:Int)(t:aX)(o:F' (mV dG tk) m)(D:Nw)=>c4 (E [rw,g.1] 0x110000) (@rfl ae rw) A (λ(I:Nw)=>c4 (E [a,R.x.1,g.9] 0x1210) (⟨by exact li 0x1384301420c101103111313843014a3031111 [e.1] rfl s,by exact li 0x126ac406420c1031231031113126ac401903031111 [e.2] rfl u⟩:Bd (e.dp+1) (e.un+3) 12) d.ok (λ(t':aX)(p:Nw)=>c2 (E [g.1,g.5,p.1 3,p.1 1,p.1 0] 0x14444333334333333433333343333334332110000) (q l xs c ts m (D.tk 1) t' h k o))))))
end
noncomputable def Ge:List aR:=[oW,kH,pe,pj,vt,rI,lI,lH,vu,rJ]
noncomputable def UH:List Kd:=[.fr Ge,.dd,.dd,.ls,.ls,.ls,.ls,.ls,.cl,.tb,.tb]
structure LF where
 rw:ae
 top:Int
 t1:aX
 V:Int
 t2:aX
 bs:ae
 fd:ae
 sd:ae
 rk:ae
 sh:ae
 se:ae
 ag:ae
noncomputable def LF.fr(f:LF)(m:Int)(tm:aX):List aa:=[.ref f.rw,.bool ah,.int f.top f.t1,.int f.V f.t2,.ref f.bs,.ref f.fd,.ref f.sd,.int m tm,.ref f.rk,.ref f.sh]
noncomputable def LA.v7(g:LA)(f:LF)(m:Int)(tm:aX)(es:Array aj)(ep:Nat)(a:Array aj)(c:Nat)(ys:List aa):List eK:=[(g.L,.fr (f.fr m tm)),(f.fd,.dd es ep),(f.sd,.dd a c),(f.ag,.ls ys),(f.se,.ls []),(f.bs,.ls []),(f.rk,.ls []),(f.sh,.ls []),(g.cb,.cl az),(136,.fr []),(141,.fr [])]
theorem Gf(G:Good b){g:LA}{rw:ae}{a V:Int}{c d:aX}{e:Ev}{K:Kv}(h:∀f:LF,f.rw=rw->f.top=a->f.V=V->∀tm,K 0 (.ok .next) (g.v7 f a tm #[] 0 #[] 0 []) [(g.ce,iF (ab (.ref f.se))),(g.ca,iF (ab (.ref f.ag)))]):DS b e (bK g) (cj 1 (aC 6 (aP 23))) g.en Qq (g.v6 rw a c V d) (k1 UH) K:=DS.run G [] [] (oo 0xed11f10f0ff56ab978ce1c18fc18fc18fc18fc18fe1cfc18fd1af21242212121242212121242212121242212121242212121242212121242212121242212121242212122121222c []) λ n=>c2 (E [g.1,g.7,g.6,n.1 10,n.1 8,n.1 7] 0x105555444445444444544444454444445444444544444454444445444444544444454432200110000000000) (h (LF.mk rw a c V d (n.ad 1) (n.ad 3) (n.ad 4) (n.ad 5) (n.ad 6) (n.ad 0) (n.ad 2)) rfl rfl rfl c)
theorem sS(h:cq (.mk x ks))(d:ks=pre++t::post):w9 t.x ks=post:=by
 have n:∀(i j:Nat)(t k:Tr),ks[i]?=ab t->ks[j]?=ab k->(tg t<tg k↔i<j):=λ i j t k hi d=>by
  rw [h.tag hi,h.tag d];refine⟨λ a=>?_,λ a=>vl (li 0x14612013612013143111 [i,j] rfl a)⟩;rcases Nat.lt_trichotomy i j with f|f|f;.exact f
  .subst f;exact absurd a (uu _)
  .exact absurd (vl (show 97+j<97+i by exact li 0x14612013612013143111 [j,i] rfl f)) (o_ a)
 have o:ks[pre.length]?=ab t:=by rw [d,de (bt _),yN];rfl
 unfold w9;conv=>lhs;rw [d]
 rw [iQ,xD.mpr,iX,BW.mpr,m3];.intro k g;obtain⟨j,c⟩:=aZ g;exact decide_eq_true ((n pre.length (pre.length+(j+1)) t k o (by rw [d,de (bX _ _),Nat.add_sub_cancel_left];exact c)).mpr (li 0x1110413133 [pre.length,j] rfl))
 .rw [decide_eq_true_iff];exact uu _
 .intro k g;obtain⟨j,c⟩:=aZ g;have l:=(bz.mp c).1;rw [decide_eq_true_iff];exact λ a=>absurd ((n pre.length j t k o (by rw [d,ip l];exact c)).mp a) (by lia)
theorem pn:Bz (.mk x ks)=match x.most with|ah=>ks|af=>ks.take 1:=rfl
theorem Br.mu(h:Br m us qs):∀q∈qs,q.2.mu=m:=λ q a=>by have:=aK (f:=eY) a;rw [show qs.map eY=_ from h]at this;obtain⟨t,_,e⟩:=ba.mp this;rw [<-e]
theorem Br.ne(h:Br m (u::us) qs):¬qs=[]:=λ e=>by subst e;exact nomatch(h:[]=_)
theorem Br.len(h:Br m us qs):qs.length=us.length:=by have:=congrArg nN (show qs.map eY=_ from h);rwa [aM,aM]at this
section
variable{b:Bs}{e:Ev}{p:Bp}{k0 fQ:ae}{R:Tr}{u2 u4 u5 u6:aa}{hx:Ht}{more:List aj}{rw tu st bT:ae}{m:Int}{tm:aX}{so:Bool}{o1 o2 o3:Option aa}{xs ys tv:List aa}{s0:aD}{C0:Cells}{Rr:dq->aD->Prop}{UI r:List Sq}{sn sn':List aR}{ps qs:List (ae×Sq)}{ep:Nat}
variable(G:Good b)
include G
theorem w3g(hi:bN b bT (lO (ef (u::us)) ep))(c:(u::us).length<=10)(h:e.un+110<9900)(k:∀a st ep qs,Good a->Ext b a->bN a st (lO (bQ qs) ep)->Br m (u::us) qs->(∀p∈qs,eO a p)->DW a e (bR p) (aC 5 gq) (cw p) dD (fH p [u1,u2,u3,.bool so,.ref bT] more rw (ab (.int m tm)) o2 (ab (.ref st)) xs ys tv) s0 C0 Rr):DW b e (bR p) (aC 3 gq) (cw p) dD (fH p [u1,u2,u3,.bool so,.ref bT] more rw (ab (.int m tm)) o2 o3 xs ys tv) s0 C0 Rr:=w3 G hi c λ t st ep qs i g d j l=>w4n i (hi.ext g) h λ n o f=>k n st ep qs o (g.trans f) (d.ext f) j λ q s=>(l q s).ext f
theorem Qt(f:¬us=[])(a:us.length<=10)(hi:bN b bT (lO (ef us) ep))(L:Lp b e p R u2 s0 C0 Rr (us.map (λ t=>⟨m,t,af⟩)++r) sn)(c:ps.map eY=r)(l:∀q∈ps,eO b q)(n:∀q∈r,q.mu<=m)(o:ps.length<=900)(s:e.dp+110<900)(v:e.un+110<9900)(w:ql b more tv)(g:bl ys sn):DW b e (bR p) (aC 3 gq) (cw p) dD (fH p [.ref R.e,u2,.ref p.sn,.bool so,.ref bT] (ie hx [f9] [u6]++more) rw (ab (.int m tm)) o2 o3 (bQ ps) ys tv) s0 C0 Rr:=by induction us with|nil=>exact absurd rfl f|cons u us=>exact w3g G hi a v λ z st ep qs x i j d y=>Yp x (L.ext i) (by rw [aU,c,show qs.map eY=_ from d]) j (λ q k=>(aO.mp k).elim (y q) λ h=>(l q h).ext i) d.mu (λ q k=>n _ (c▸aK k)) d.ne (by rw [bh,d.len];exact li 0x3e83034130a1041110384303111 [ps.length,(u::us).length] rfl o a) s (w.ext i) g
theorem UJ{x:El}{h:Nat}{T:Tr}(l:gB b k0 fQ h T)(c:T.x=x){j:List aa}(n:bN b fQ (hU j))(d:bZ j)(hi:bN b bT (lO [] ep))(f:ys.length<=1000)(o:e.dp+110<900)(q:e.un+110<9900)(k:∀a st tu t' ep,Good a->Ext b a->bN a st (lO [.ref tu] ep)->eO a (tu,⟨min m x.n,T,ah⟩)->DW a e (bR p) (aC 5 gq) (cw p) dD (fH p [.ref R.e,u2,.ref p.sn,.bool af,.ref bT] more rw (ab (.int m tm)) (ab (.ref x.e)) (ab (.ref st)) xs (snoc ys (.str x.tag t')) tv) s0 C0 Rr):DW b e (bR p) (aC 3 gq) (cw p) dD (fH p [.ref R.e,u2,.ref p.sn,.bool af,.ref bT] more rw (ab (.int m tm)) (ab (.ref x.e)) o3 xs ys tv) s0 C0 Rr:=by obtain⟨s,t,_⟩:=l.el;subst c;exact w3 (us:=[]) G hi (bJ _) λ C st ep qs u g v D F=>w4l u (hi.ext g) (g.lift (EM G s t n d)) o q f λ w st tu t' i y z A B=>k w st tu t' i y (g.trans z) A (B T rfl)
theorem turn(B:tQ b k0 fQ R)(st:Step R (q::r) sn UI sn')(J:q6 R (q::r))(T:eO b (tu,q))(j:ps.map eY=r)(P:∀q∈ps,eO b q)(H:ps.length<=900)(I:e.dp+110<900)(U:e.un+110<9900)(V:ql b more tv)(o:bl ys sn)(hys:sn.length<=1000)(L:Lp b e p R u2 s0 C0 Rr UI sn'):DW b e (bR p) gq (cw p) dD (fH p [.ref R.e,u2,.ref p.sn,u4,u5] (ie hx [f9] [u6]++more) rw o1 o2 o3 (.ref tu::bQ ps) ys tv) s0 C0 Rr:=by
 obtain⟨_,K⟩:=B.tr;obtain⟨cv,hc,Bv⟩:=B.co;have y:(bQ ps).length<=1000:=by rw [k4];exact li 0x3e830330384303111 [ps.length] rfl H
 have M:ys.length<=1000:=by rw [o.len];exact hys
 have mem:∀v∈ps,v.2.t∈R.nodes:=λ v c=>J.2 _ (.tail _ (j▸aK c));have el:∀v∈ps,ej b k0 fQ v.2.t.x:=λ v c=>(K.node _ (mem v c)).elim λ zz h=>h.el.1;have kd:∀{x:El}{ks:List Tr},Tr.mk x ks∈R.nodes->ks.length<=10:=λ{x ks}l=>by obtain⟨_,h⟩:=K.node _ l;have Y:=h.el.2.1.kd;rw [h.el.2.2,aM]at Y;exact Y
 generalize i:q::r=KN at st
 induction st with
  |@mx m x k ks r0 C l s g=>cases i;obtain⟨_,u⟩:=K.node _ l;refine Ry G T u y λ Q bT ep tm D f hi=>Ux D λ N F d=>?_;rw [pn,s]at hi;exact Qt F (us:=k::ks) (λ h=>(by injection h)) (kd l) (hi.ext d) (L.ext (f.trans d)) j (λ v c=>(P v c).ext (f.trans d)) g H I U (V.ext (f.trans d)) o|@mn m x k ks r0 C l s g=>cases i;obtain⟨_,u⟩:=K.node _ l;refine Ry G T u y λ Q bT ep tm D f hi=>Ux D λ N F d=>?_;rw [pn,s]at hi;exact Qt F (us:=[k]) (λ h=>(by injection h)) (by show 1<=10;decide) (hi.ext d) (L.ext (f.trans d)) j (λ v c=>(P v c).ext (f.trans d)) g H I U (V.ext (f.trans d)) o
  |@lt m x r0 C l s g=>
   cases i;obtain⟨_,u⟩:=K.node _ l;refine Ry G T u y λ Q bT ep tm D f hi=>Ux D λ N F d=>?_;have hi:bN Q bT (lO [] ep):=by rw [pn]at hi;revert hi;induction x.most<;>exact id
   refine UJ F (u.ext (f.trans d)) rfl (hc.ext (f.trans d)) Bv (hi.ext d) M I U λ b3 st tu t' ep G3 Z z n=>?_;have X:=(f.trans d).trans Z;have n:eO b3 (tu,⟨min m x.n,.mk x [],ah⟩):=n;rw [show min m x.n=m from by exact bg (iP m x.n) (b0 (t8 (a:=m) (b:=x.n) s).symm)]at n;exact Yp G3 (qs:=[(tu,⟨m,.mk x [],ah⟩)]) (L.ext X) (by rw [aU,j];rfl) z (λ v c=>(aF.mp c).elim (λ e=>e▸n) λ h=>(P v h).ext X) (λ v c=>by cases ay.mp c;rfl) (λ v c=>g _ (j▸aK c)) (λ h=>(by injection h)) (by show ps.length+1<=1000;exact li 0x3e8301103130384303111 [ps.length] rfl H) I (V.ext X) (o.app (.cons .nil))
  |@lf m x A w C l s Y h2 hso g=>
   cases i;obtain⟨_,u⟩:=K.node _ l;refine Ry G T u y λ Q bT ep tm D f hi=>Ux D λ N F d=>?_;have hi:bN Q bT (lO [] ep):=by rw [pn]at hi;revert hi;induction x.most<;>exact id
   obtain⟨pr,po,rfl,rfl,rfl⟩:∃pr po,ps=pr++po/\pr.map eY=A/\po.map eY=w:=by obtain⟨pr,po,Y,h2,h3⟩:=List.map_eq_append_iff.mp j;exact⟨pr,po,Y,h2,h3⟩
   refine UJ F (u.ext (f.trans d)) rfl (hc.ext (f.trans d)) Bv (hi.ext d) M I U λ b3 st tu t' ep G3 Z z n=>?_;have X:=(f.trans d).trans Z;have n:eO b3 (tu,⟨min m x.n,.mk x [],ah⟩):=n;rw [show min m x.n=x.n from by exact bg (iq m x.n) (b0 (sZ (a:=m) (b:=x.n) (cp s)).symm)]at n;exact w5n G3 (p0:=(tu,⟨x.n,.mk x [],ah⟩)) (L.ext X) (by rw [aU];rfl) z (λ v c=>(aF.mp c).elim (λ e=>e▸⟨n,u.el.1.ext X⟩) λ h=>⟨(P v h).ext X,(el v h).ext X⟩) (λ v c=>Y _ (aK c)) (λ v c=>h2 _ (aK c)) (by have:=hso;unfold vO at this;rwa [<-aU,gQ]at this) (Int.ne_of_lt s) (li 0x3e830330384303111 [(pr++po).length] rfl H) I (V.ext X) (o.app (.cons .nil))
  |@nx m x A w t k r0 C l s g=>cases i;obtain⟨_,hY⟩:=K.node _ l;have n:t∈A++t::k::w:=aq _ (.head _);obtain⟨⟨_,u⟩,_⟩:=hY.up t n;refine Ry G T u y λ Q bT ep tm D f zz=>Z_ D (hY.ext f) n λ N bT ep F d hi=>?_;rw [s]at hi;have hi:bN N bT (lO (ef ((w9 t.x (A++t::k::w)).take 1)) ep):=hi;rw [sS (fR R B.tg _ l) rfl]at hi;exact Qt F (us:=[k]) (λ h=>(by injection h)) (by show 1<=10;decide) hi (L.ext (f.trans d)) j (λ v c=>(P v c).ext (f.trans d)) g H I U (V.ext (f.trans d)) o
  |@up m x ks t r0 C l n S g=>
   cases i;obtain⟨_,hY⟩:=K.node _ l;obtain⟨⟨_,u⟩,_⟩:=hY.up t n;refine Ry G T u y λ Q bT ep tm D f zz=>Z_ D (hY.ext f) n λ N bT ep F d hi=>?_;have hi:bN N bT (lO [] ep):=by induction s:x.most with|true=>rw [s]at hi;exact hi|false=>rw [s]at hi;obtain⟨A,rfl⟩:=S s;have hi:bN N bT (lO (ef ((w9 t.x (A++[t])).take 1)) ep):=hi;rwa [sS (fR R B.tg _ l) rfl]at hi
   refine w3 (us:=[]) F hi (bJ _) λ b3 st ep qs G3 Z z e1 e2=>?_;have X:=(f.trans d).trans Z;refine w4u G3 (hi.ext Z) (hY.ext X) n (λ v c=>⟨(P v c).ext X,(el v c).ext X⟩) (li 0x3e830330384303111 [ps.length] rfl H) U λ b4 rw' st tu ep G4 X4 z w'=>?_;have X':=X.trans X4;have O:∀v∈Bt x ps,v∈ps:=λ v c=>(c_.mp c).1;have hlen:(Bt x ps).length<=ps.length:=fq _ _;exact Yp G4 (qs:=[(tu,⟨m,.mk x ks,ah⟩)]) (L.ext X') (by rw [aU,<-j,List.filter_map];rfl) z (λ v c=>(aF.mp c).elim (λ e=>e▸w') λ h=>(P v (O v h)).ext X') (λ v c=>by cases ay.mp c;rfl) (λ v c=>g _ (j▸aK (O v c))) (λ h=>(by injection h)) (by show(Bt x ps).length+1<=1000;exact li 0x3e8301104130341110384303111 [ps.length,(Bt x ps).length] rfl H hlen) I (V.ext X') o
end
set_option backward.match.sparseCases true
section
theorem DT.cmp(hm:i3 op r=af)(f:DE b e c l env ks vs (k1 ks) (eM u vs))(g:DE b e c r env ks vs (k1 ks) (eM v vs))(h:∀{H:Hs}{s:aD}{Q:aa->aD->Prop}{E:aa->aD->Prop},Ready b s (d' H ks vs)->Q (.bool w) s->bV (aW b.prog b.w) (e.ar.under c) (fA op u v) Q E s):DT b e c (.Compare l [op] [r] p) env ks vs (k1 ks) (eM (.bool w) vs):=λ H s0 C0 s a=>my hm (f.then a λ j k i=>g.then i λ m n d=>h d.R ⟨w,rfl,d.Mv⟩)
theorem DT.orT(f:DT b e c x env ks vs (k1 kj) (eM (.bool ah) ot)):DT b e c (.BoolOp .Or (x::rest) p) env ks vs (k1 kj) (eM (.bool ah) ot):=λ H s0 C0 s a=>by show a_ _ _ _ (eP x env (dh x env)>>=λ t=>match j1,t with|.And,af=>pure af|.Or,ah=>pure ah|_,_=>t9 .Or rest env) _ _ _;exact au (DT.mN f a λ h i g=>λ d d d d=>g.Mv)
theorem DT.or2(f:DT b e c x env ks vs (k1 kj) (eM (.bool af) zU))(g:DT b e c y env kj zU (k1 TU) (eM (.bool v) TV)):DT b e c (.BoolOp .Or [x,y] p) env ks vs (k1 TU) (eM (.bool v) TV):=λ H s0 C0 s a=>by show a_ _ _ _ (eP x env (dh x env)>>=λ t=>match j1,t with|.And,af=>pure af|.Or,ah=>pure ah|_,_=>t9 .Or [y] env) _ _ _;refine au (DT.mN f a λ j k h=>?_);show a_ _ _ _ (eP y env (dh y env)>>=λ t=>match j1,t with|.And,af=>pure af|.Or,ah=>pure ah|_,_=>pure (j1==.And)) _ _ _;refine au (DT.mN g h λ l m i=>?_);induction v<;>exact λ d d d d=>i.Mv
end
theorem sT{prog:d7}{w:cP}{A:dx}{s:aD}{E:aa->aD->Prop}(h:Q (.bool af) s):bV (aW prog w) A (fA .IsNot (.ref a) (.ref a)) Q E s:=by show bV _ A (G5 (.ref a) (.ref a)>>=λ b=>pure (d3 (!b))) _ _ _;unfold G5;simp only [beq_self_eq_true,if_true];exact aw (bc (bc h))
theorem xf:sE B6 0=.BoolOp .Or [.Compare (xE F0 0) [.IsNot] [xE F0 1] (aY F0),xE (sE B6 0) 1] (aY (sE B6 0)):=by kernel_rfl
theorem BE{b:Bs}{k0 k1:ae}(B:tQ b k0 k1 R)(h:Step R (q::r) s r' s')(d:q.so=ah):¬q.t.x.e=R.x.e:=by
 obtain⟨_,f⟩:=B.tr
 have key:∀{x:El}{ks:List Tr}{t:Tr},Tr.mk x ks∈R.nodes->t∈ks->¬t.x.e=R.x.e:=λ{x ks t}c e j=>by
  obtain⟨n,k⟩:=f.node _ (iV c e);have l:t.x.tag=R.x.tag:=by rw [<-sO k.el.1,j,sO f.el.1]
  obtain⟨i,hi⟩:=aZ e;have g:=(fR R B.tg _ c).tag hi;have m:(tg R).length<=(x.tag.cps.toList).length:=(mR B.tg c).length_le;have o:tg t=tg R:=congrArg (λ s:aR=>s.cps.toList) l;rw [o]at g;have:=congrArg nN g;rw [bh,jl]at this;exact li 0x2311041111043111 [(tg R).length,x.tag.cps.toList.length] rfl m this.symm
 generalize a:q::r=row at h;induction h with|nx c _ _=>cases a;exact key c (aq _ (.head _))|up c e _ _=>cases a;exact key c e|mx _ _ _=>cases a;exact(by injection d)|mn _ _ _=>cases a;exact(by injection d)|lt _ _ _=>cases a;exact(by injection d)|lf _ _ _ _ _ _=>cases a;exact(by injection d)
theorem Step.cons{R:Tr}{r a:List Sq}{s c:List aR}(h:Step R r s a c):∃q d,r=q::d:=by induction h<;>exact⟨_,_,rfl⟩
theorem Step.len(h:Step R r s r' s'):s.length<=s'.length:=by induction h<;>first|exact bt _|(rw [bh];exact bX _ _)
theorem g8.len(h:g8 R r s r' s'):s.length<=s'.length:=by induction h with|refl=>exact bt _|step a _ c=>exact ai a.len c
section
theorem MR(G:Good b)(B:tQ b k0 fQ R)(d:eO b (tu,q))(h:q.t∈R.nodes)(l:xs.length<=1000)(v:Bool)(m:v=ah->¬(q.so=ah/\q.t.x.e=R.x.e))(a:v=af->q.so=ah/\q.t.x.e=R.x.e):DT b e (bR p) (sE B6 0) (cw p) dD (fH p [.ref R.e,u2,u3,u4,u5] more rw o1 o2 o3 (.ref tu::xs) ys tv) (k1 dD) (eM (.bool v) (fH p [.ref R.e,u2,u3,u4,u5] more rw o1 o2 o3 (.ref tu::xs) ys tv)):=by
 obtain⟨t,ep,d⟩:=d;obtain⟨_,i⟩:=B.tr;obtain⟨_,k⟩:=i.node _ h;have c:(ao tu::xs).length<=1048576:=ai (bW l) (by decide);have u:q.t.x.e=q.t.e:=rfl
 have f:=DT.cmp (op:=.IsNot) (r:=xE F0 1) (w:=!decide (q.t.x.e=R.x.e)) (p:=aY F0) (by kernel_rfl) (Ko (x:=q.t.x) (p:=p) (e:=e) (u1:=.ref R.e) (u2:=u2) (u3:=u3) (u4:=u4) (u5:=u5) (more:=more) (rw:=rw) (o1:=o1) (o2:=o2) (o3:=o3) (xs:=xs) (ys:=ys) (tv:=tv) G d c) (Kq G) (λ{H s Q E}Rd g=>by
  by_cases he:q.t.x.e=R.x.e;.rw [decide_eq_true he]at g;rw [he];exact sT g
  .rw [decide_eq_false he]at g;exact Dx (T:="function") he (Rd.jq _ _ k.el.1.fn.1 k.el.1.fn.2) (Rd.jq _ _ i.el.1.fn.1 i.el.1.fn.2) rfl (by decide) g);rw [xf];by_cases he:q.t.x.e=R.x.e
 .rw [decide_eq_true he]at f;have n:=Kr (x:=q.t.x) (p:=p) (e:=e) (u1:=.ref R.e) (u2:=u2) (u3:=u3) (u4:=u4) (u5:=u5) (more:=more) (rw:=rw) (o1:=o1) (o2:=o2) (o3:=o3) (xs:=xs) (ys:=ys) (tv:=tv) G d c
  have j:v=!q.so:=by
   induction v with
    |true=>induction o:q.so with|true=>exact absurd ⟨o,he⟩ (m rfl)|false=>rfl
    |false=>rw [(a rfl).1];rfl
  rw [j];exact DT.or2 f n
 .rw [decide_eq_false he]at f;have j:v=ah:=by induction v with|true=>rfl|false=>exact absurd (a rfl).2 he
  rw [j];exact DT.orT f
theorem UK(B:tQ b k0 fQ R)(x:e.dp+110<900)(y:e.un+110<9900)(MS:vR.length<=1000)(g:∀l u4 u5 more tv rw o1 o2 o3 i ys,Good l->Ext b l->eO l (i,⟨v,R,ah⟩)->bl ys vR->∀H s,At l s0 C0 s (d' H dD (fH p [.ref R.e,u2,.ref p.sn,u4,u5] more rw o1 o2 o3 [.ref i] ys tv))->Rr (.ok .next) s)(st:g8 R row sn Yu vR):Yu=[⟨v,R,ah⟩]->q6 R row->Lp b e p R u2 s0 C0 Rr row sn:=by
 have j:∀{ps:List (ae×Sq)}{q:Sq}{r:List Sq},ps.map eY=q::r->∃i c,ps=(i,q)::c/\c.map eY=r:=λ{ps q r}h=>by induction ps with|nil=>exact(by injection h)|cons p ps=>rw [bu,List.cons.injEq]at h;obtain⟨z,n⟩:=h;exact⟨p.1,ps,by rw [<-z],n⟩
 induction st with
  |refl=>intro t J l ps ys u4 u5 A C more tv rw o1 o2 o3 G X f o m w;subst t;obtain⟨i,c,rfl,n⟩:=j f;rw [oB]at n;subst n;exact DL.yt (MR G (B.ext X) (o _ (.head _)) (dm R) (bJ _) af (λ h=>(by injection h)) λ u=>⟨rfl,rfl⟩) (λ h=>(by injection h)) λ u H s a=>g l u4 u5 _ tv rw o1 o2 o3 i ys G X (o _ (.head _)) m H s a
  |step a st D=>
   intro t J l ps ys u4 u5 A C more tv rw o1 o2 o3 G X f o m w;obtain⟨q,r,rfl⟩:=a.cons;obtain⟨i,c,rfl,n⟩:=j f;have k:((i,q)::c).length<=800:=by have:=J.len B.tg;rw [<-f,aM]at this;exact ai this B.n
   have d:c.length<=900:=by rw [eH]at k;exact li 0x384303303203011031111 [c.length] rfl k
   exact DL.yt (MR G (B.ext X) (o _ (.head _)) (J.2 _ (.head _)) (by rw [aM];exact li 0x3e830330384303111 [c.length] rfl d) ah (λ u h=>BE B a h.1 h.2) λ h=>(by injection h)) (λ u=>turn G (B.ext X) a J (o _ (.head _)) n (λ v F=>o v (.tail _ F)) d x y w m (ai (ai a.len st.len) MS) ((D MS g t (J.next B.tg a)).ext X)) λ h=>(by injection h)
theorem Gg(G:Good b)(B:tQ b k0 fQ R)(A:e.dp+110<900)(C:e.un+110<9900)(MS:vR.length<=1000)(hm:R.x.most=ah)(hk:¬R.kids=[])(m:eO b (f,⟨top,R,af⟩))(g:∀n u4 u5 more tv rw o1 o2 o3 f ys,Good n->Ext b n->eO n (f,⟨v,R,ah⟩)->bl ys vR->∀H s,At n s0 C0 s (d' H dD (fH p [.ref R.e,u2,.ref p.sn,u4,u5] more rw o1 o2 o3 [.ref f] ys tv))->Rr (.ok .next) s)(st:g8 R [⟨top,R,af⟩] [] [⟨v,R,ah⟩] vR):DL b e (bR p) qk (mU p [.ref R.e,u2,.ref p.sn] rw o1 o2 o3 [.ref f] [] []) s0 C0 Rr:=by
 obtain⟨x,ks⟩:=R;have F:=dm (Tr.mk x ks);have J:q6 (Tr.mk x ks) [⟨top,.mk x ks,af⟩]:=⟨f5 _ _,λ q h=>by cases ay.mp h;exact F⟩;obtain⟨_,o⟩:=B.tr;obtain⟨V,ep,i⟩:=id m
 induction ks with
  |nil=>exact absurd rfl hk
  |cons k ks=>
   cases st with
    |step a st=>
     have L:=UK (s0:=s0) (C0:=C0) (Rr:=Rr) (p:=p) (u2:=u2) B A C MS g st rfl (J.next B.tg a);have j:(k::ks).length<=10:=by have d:=o.el.2.1.kd;rw [o.el.2.2,aM]at d;exact d
     have t:DT b e (bR p) (sE B6 0) (cw p) qk (mU p [.ref x.e,u2,.ref p.sn] rw o1 o2 o3 [.ref f] [] []) (k1 qk) (eM (.bool ah) (mU p [.ref x.e,u2,.ref p.sn] rw o1 o2 o3 [.ref f] [] [])):=by have I:=DT.cmp (op:=.IsNot) (r:=xE F0 1) (w:=af) (p:=aY F0) (by kernel_rfl) (Ks (x:=x) (p:=p) (e:=e) (u1:=.ref x.e) (u2:=u2) (u3:=.ref p.sn) (rw:=rw) (o1:=o1) (o2:=o2) (o3:=o3) (xs:=[]) (ys:=[]) (tv:=[]) G i (show 1<=1048576 by decide)) (Kt G) (λ{H s Q E}Rd K=>sT K);rw [xf];exact DT.or2 I (Ku G i (show 1<=1048576 by decide))
     refine DL.yt t (λ M=>?_) λ h=>(by injection h);generalize c:[(⟨top,.mk x (k::ks),af⟩:Sq)]=KN at a;cases a with|mx u l y=>cases c;refine Yn (q:=⟨top,.mk x (k::ks),af⟩) G m o hm (bJ _) λ X bT ep tm N O hi=>Ux N λ Y P D=>?_;rw [pn,show x.most=ah from hm]at hi;exact w3g P (hi.ext D) j C λ Z st ep qs S T z d U=>w5z (qs:=qs) (ps:=[]) S (L.ext ((O.trans D).trans T)) (by rw [aA,aA];exact d) z (λ q m=>U q (by rwa [aA]at m)) d.mu (λ M h=>(absurd h ax)) d.ne (by rw [aA,d.len];exact ai j (by decide)) A .nil|mn u l y=>cases c;exact nomatch hm.symm.trans l|lt _ _ _=>cases c|lf _ _ _ _ _ _=>cases c|nx _ _ _=>cases c|up _ _ _ _=>cases c
end
noncomputable def Yv(v top:Int)(vR:List aR)(p:Bp)(i:Int)(t:aX)(sn:ae)(c0 e c2 c3:Option aa)(ys tv:List aa):Ct:=⟨[p.L,p.cr,p.cm,p.cn,p.cs,sn,136],λ d u f=>[d+120<900,u+120<9900,i=top,ys=[],tv=[]],λ K=>∀t c a,bl c vR->K 0 (.ok (.ret (.int v t))) [(sn,.ls c),(136,.fr a)] []⟩
noncomputable def UL(a:ae)(v top:Int)(vR:List aR):Sp:=gb (.of Ur jW) [.fr [.rq a,.it,.re],.cl,.cl,.cl,.cl,.ls,.fv] Uw (k1 [.ls,.tb]) (Yv v top vR)
noncomputable def cBf(v top:Int)(vR:List aR)(i:Int)(t:aX)(sn:ae)(ys tv:List aa):Ct:=⟨[sn,136],λ d u e=>[d+130<900,u+130<9900,i=top,ys=[],tv=[]],λ K=>∀t c a,bl c vR->K 0 (.ok (.ret (.int v t))) [(sn,.ls c),(136,.fr a)] []⟩
noncomputable def Yw(a:ae)(v top:Int)(vR:List aR):Sp:=gb (.call 139 [.rq a,.it,.re]) [.ls,.fv] [.ls,.tb] (k1 [.ls,.tb]) (cBf v top vR)
theorem Gh:aC 1 (aP 22)=.While (sE B6 0) gq [] (kP B6)::aC 2 (aP 22):=by kernel_rfl
section
variable(G:Good b)(B:tQ b k0 fQ R)(MS:vR.length<=1000)(hm:R.x.most=ah)(hk:¬R.kids=[])(st:g8 R [⟨top,R,af⟩] [] [⟨v,R,ah⟩] vR)
include G B MS hm hk st
theorem Qu:bj b (UL R.e v top vR):=ct λ p i g sn c0 m c2 c3 ys tv e rest K Y C hi n D F=>by
 subst hi n D;have o:(e.in (jW ⟨p.L,p.cr,p.cm,p.cn,p.cs,sn⟩)).dp+110<900:=by show e.dp+1+110<900;lia
 have q:(e.in (jW ⟨p.L,p.cr,p.cm,p.cn,p.cs,sn⟩)).un+110<9900:=by have:(jW ⟨p.L,p.cr,p.cm,p.cn,p.cs,sn⟩).cUnits<=5:=cu (by kernel_rfl);show e.un+(jW ⟨p.L,p.cr,p.cm,p.cn,p.cs,sn⟩).cUnits+110<9900;exact li 0x126ac406e204311305104111126ac40782031111 [e.2,(jW {L:=p.L,cr:=p.cr,cm:=p.cm,cn:=p.cn,cs:=p.cs,sn:=sn}).cUnits] rfl C this
 refine dg.fn λ H s0 C0 s a=>?_;show a_ (aW b.prog b.w) e.ar (jW ⟨p.L,p.cr,p.cm,p.cn,p.cs,sn⟩) (dU (aP 22) (cw ⟨p.L,p.cr,p.cm,p.cn,p.cs,sn⟩)) _ _ s;rw [<-eD 1 (aP 22),gX];refine au (aQ (Kw (p:=⟨p.L,p.cr,p.cm,p.cn,p.cs,sn⟩) (K:=λ Z r vs tl=>r=.ok .next/\∃rw c,vs=mU ⟨p.L,p.cr,p.cm,p.cn,p.cs,sn⟩ [.ref R.e,.int i g,.ref sn] rw m c2 c3 [.ref c] [] []/\tl=[(c,tO [.int i g,.ref R.e,.bool af] 0)]) G (λ rw c=>⟨rfl,rw,c,rfl,rfl⟩) H s0 C0 s a) (λ f k t=>t.out λ j u tl w d y=>?_) λ x k t=>t.out λ j u tl w d y=>(by injection d.1));obtain⟨I,rw,c,rfl,rfl⟩:=d;cases(cA I:f=.next);dsimp only;rw [Gh];refine yu ?_;rw [<-e.S7];obtain⟨J,L,X,M,N⟩:=rebase G y.R;have O:At J s0 C0 k (d' w qk (mU ⟨p.L,p.cr,p.cm,p.cn,p.cs,sn⟩ [.ref R.e,.int i g,.ref sn] rw m c2 c3 [.ref c] [] [])):=⟨M,(y.sub (a9 _ _)).T⟩;have z:=Gg (p:=⟨p.L,p.cr,p.cm,p.cn,p.cs,sn⟩) (u2:=.int i g) (rw:=rw) (o1:=m) (o2:=c2) (o3:=c3) (s0:=s0) (C0:=C0) (Rr:=λ r k=>r=.ok .next/\a_ (aW b.prog b.w) e.ar (jW ⟨p.L,p.cr,p.cm,p.cn,p.cs,sn⟩) (dU (aC 2 (aP 22)) (cw ⟨p.L,p.cr,p.cm,p.cn,p.cs,sn⟩)) (λ v=>Fi b s0 C0 (k1 [.ls,.tb]) (l3 K) (.ok v)) (λ x=>Fi b s0 C0 (k1 [.ls,.tb]) (l3 K) (.error x)) k) L (B.ext X) o q MS hm hk ⟨g,0,N _ (.head _)⟩ (λ b2 u4 u5 more tv rw o1 o2 o3 c ys P Q A n S T U=>⟨rfl,by obtain⟨V,ep,A⟩:=A;have l:=X.trans Q;have z:=Kx (p:=⟨p.L,p.cr,p.cm,p.cn,p.cs,sn⟩) (e:=e) (K:=l3 K) (u1:=.ref R.e) P A (F V ys tv n) S s0 C0 T U;rw [l.prog,l.w]at z;exact aQ z (λ v s h=>h.ext l) λ x s h=>h.ext l⟩) st w k O;rw [X.prog,X.w]at z;exact z
theorem UM:bj b (Yw R.e v top vR):=ct λ i l sn ys tv e rest K c f hi g j k=>by subst hi g j;exact dg.run G [] [⟨_,Qu G B MS hm hk st⟩] (oo 0x213176123458135a5a5a112 []) λ n=>c9 (jf c:e.dp+0<1000) (E [n.1 0,n.1 1,n.1 2,n.1 3,n.1 4,sn,136,R.x.1] 0x100000076543210) (@rfl aT (jW (Bp.mk (n.1 0) (n.1 1) (n.1 2) (n.1 3) (n.1 4) 0))) (fj c:e.dp+0+120<900) ((by exact li 0x126ac407820003113126ac40822031111 [e.2] rfl f:e.un+0+120<9900)) (@rfl Int i) (@rfl (List aa) []) (@rfl (List aa) []) (λ(t:aX)(d:List aa)(a:List aa)(h:bl d vR)(m:Nw)=>k t d a h)
end
set_option backward.match.sparseCases false
noncomputable def yw(R:Tr)(a mf:Int)(sf:TS):Nat->Int->TS->Prop|0,m,s=>Tr.test m R s=(ah,sf)/\m=mf|k+1,m,s=>(Tr.test m R s).1=af/\yw R a mf sf k (Tr.worth (eV (Tr.test m R s).2.known a) R) (Tr.test m R s).2
theorem KO(h:Ask R top m s mf sf):∃k,yw R top mf sf k m s:=by induction h with|done e=>exact⟨0,e,rfl⟩|again e _ a=>exact a.elim λ k h=>⟨k+1,by rw [e],by rw [e];exact h⟩
theorem yw.len:∀{k:Nat}{m:Int}{s:TS},yw R top mf sf k m s->(Tr.test m R s).2.seen.length<=sf.seen.length:=by intro k;cases k with|zero=>intro _ _ h;rw [h.1];exact bt _|succ _=>intro _ _ h;exact ai (o7 _ R _) h.2.len
noncomputable def w7:=bE (aP 23) 7
noncomputable def UN:List Kd:=[.fr Ge,.dd,.dd,.ls]
noncomputable def cWq(w:cP)(g:LA)(f:LF)(R:Tr)(mf:Int)(sf:TS)(n:Nat)(a:Unit)(vs:List aa)(ek:Array aj)(pk:Nat)(eh:Array aj)(ph:Nat)(ys:List aa):Ct:=⟨[g.L,f.fd,f.sd,f.ag],λ d u a=>[d+200<900,u+500<9900,∃k m s tm,k<n/\yw R f.top mf sf k m s/\e9 R.tags w ek pk eh ph ys s/\vs=f.fr m tm],λ K=>∀tm ek pk eh ph ys,e9 R.tags w ek pk eh ph ys sf->K 0 (.ok .next) [(g.L,.fr (f.fr mf tm)),(f.fd,.dd ek pk),(f.sd,.dd eh ph),(f.ag,.ls ys)] []⟩
noncomputable def Yx(w:cP)(g:LA)(f:LF)(R:Tr)(mf:Int)(sf:TS)(n:Nat):Sp:=gb (.of (λ a=>()) λ a=>dS w7 g.en) [.fv,.dd,.dd,.ls] UN (k1 UN) (cWq w g f R mf sf n)
section
variable(G:Good b)(hE:q8 b k0 fQ dG R)(qN:bN b rw (lO (refsOf (dG.map (·.e))) er)){f:LF}(hf:f.rw=rw){mf:Int}{sf:TS}(hs:sf.seen.length<=900)
include G hE qN
theorem q8.KN:(refsOf (dG.map (·.e))).length<=1048576/\bE (refsOf (dG.map (·.e))) 0=ab (.ref R.e):=⟨by rw [kW,aM,hE.row.ok.len];decide,by obtain⟨tl,a⟩:=hE.hd;rw [a];rfl⟩
theorem q8.te:bj b (Bc R.tags b.w 12 R m s):=by obtain⟨d,a,c⟩:=hE.bf.co;exact TY G (ai hE.bf.n (by decide)) a c hE.T (λ g h=>h) s
include hf hs
theorem UO(F:bN b g.ca (iF (ab (.ref f.ag)))):∀n,bj b (Yx b.w g f R mf sf n):=by
 intro n
 induction n with
  |zero=>exact ct λ H vs ek pk eh ph ys e rest K v w h z=>by obtain⟨k,m,s,tm,h,_⟩:=h;exact absurd h (cQ _)
  |succ N I=>
   exact ct λ H vs ek pk eh ph ys e rest K v w h z=>by
    obtain⟨k,m,s,tm,J,u,y,rfl⟩:=h;subst hf;obtain⟨C,D⟩:=hE.KN G qN;have L:=I;have M:(Tr.test m R s).1=ah->∀{ek pk eh ph ys},e9 R.tags b.w ek pk eh ph ys (Tr.test m R s).2->K 0 (.ok .next) [(g.L,.fr (f.fr m tm)),(f.fd,.dd ek pk),(f.sd,.dd eh ph),(f.ag,.ls ys)] []:=λ h=>by induction k with|zero=>obtain⟨u,rfl⟩:=u;rw [u];exact z tm _ _ _ _ _|succ k=>exact absurd (u.1.symm.trans h) bP
    have O:(Tr.test m R s).1=af->∀{ek pk eh ph ys t'},e9 R.tags b.w ek pk eh ph ys (Tr.test m R s).2->∃k m s A,k<N/\yw R f.top mf sf k m s/\e9 R.tags b.w ek pk eh ph ys s/\f.fr (Tr.worth (eV (dF ek) f.top) R) t'=f.fr m A:=λ h ek pk eh ph ys t' y=>by induction k with|zero=>rw [u.1]at h;exact(by injection h)|succ k=>exact⟨k,_,_,t',b8 J,u.2,y,by rw [y.ek]⟩
    have S:Bw (e.dp+1) (e.un+3) 12:=⟨by exact li 0x1384307820c1011031113138430c82031111 [e.1] rfl v,by exact li 0x126ac40fa20c1031231031113126ac401f43031111 [e.2] rfl w⟩;have P:=ai u.len hs;exact dg.run G [⟨_,_,qN⟩,⟨_,_,F⟩] [⟨_,hE.te G qN (m:=m) (s:=s)⟩,e8 qN (.ref R.e),⟨_,EY (T:=R.tags) G hE.T⟩,⟨_,L⟩] (oo 0x3214514324231522211431333211 [(oo 0x43215132145164812151881143133381 [])]) λ n=>c4 (E [f.1,g.1] 0x110000) (@rfl ae f.rw) (c3 (aN 0) C D) (λ(U:Nw)=>c7 (E [f.7,f.8,f.12,R.x.1,g.7,g.1] 0x155543210) (⟨by exact li 0x1384307820c100031113138430c82031111 [e.1] rfl v,by exact li 0x126ac40fa20c103120031113126ac401f43031111 [e.2] rfl w⟩:Bw (e.dp+0) (e.un+0) 12) (@rfl Int m) y P (λ(h:(Tr.test m R s).fst=ah)(a:Array aj)(c:Nat)(d:Array aj)(i:Nat)(j:List aa)(l:e9 R.tags b.w a c d i j (Tr.test m R s).snd)(Q:Nw)=>M h l) (λ(h:(Tr.test m R s).fst=af)(a:Array aj)(c:Nat)(d:Array aj)(i:Nat)(j:List aa)(l:e9 R.tags b.w a c d i j (Tr.test m R s).snd)(Q:Nw)=>c4 (E [f.1,g.1] 0x110000) (@rfl ae f.rw) (c3 (aN 0) C D) (λ(V:Nw)=>c4 (E [f.7,R.x.1,g.1] 0x12210) (⟨by exact li 0x1384301420c100031113138430c82031111 [e.1] rfl v,by exact li 0x126ac406420c103120031113126ac401f43031111 [e.2] rfl w⟩:Bd (e.dp+0) (e.un+0) 12) l.k (λ(t':aX)(X:Nw)=>c6 (E [g.1,f.7,f.8,f.12] 0x1003210) (@rfl aT (dS w7 g.en)) v w (O h (t':=t') l) (λ(x:aX)(o:Array aj)(p:Nat)(q:Array aj)(r:Nat)(t:List aa)(B:e9 R.tags b.w o p q r t sf)(Y:Nw)=>z x o p q r t B)))))
end
noncomputable def qO(x:aR):aa->Bool|.str y _=>y==x|_=>af
theorem qn(h:bl xs ts):∀y,y∈xs.toArray->MeetsSeq.EqGives y (.str x t) (qO x y):=λ y a=>by
 have key:∀{xs:List aa}{ts:List aR},bl xs ts->∀v∈xs,∃x t,v=.str x t:=λ h=>by induction h with|nil=>exact λ v h=>(absurd h ax)|cons _ b=>exact λ v c=>(aF.mp c).elim (λ e=>⟨_,_,e⟩) (b v)
 obtain⟨z,u,rfl⟩:=key h y (by simpa using a);exact λ prog w A E s Q d=>Wk d
theorem Gi(h:bl xs ts):xs.toArray.any (qO x)=decide (x∈ts):=by
 rw [List.any_toArray]
 induction h with
  |nil=>simp
  |@cons y t vs ts _ a=>
   rw [List.any_cons,a];show(y==x||_)=_;by_cases e:y=x;.simp [e]
   .have b:¬x=y:=λ h=>e h.symm;simp [e,b]
section
noncomputable def oIn(ts:List aR):Ok b:=⟨gD "list.__contains__" [.re,.st] [.ls] λ l x a xs ep=>⟨[l],λ a a a K=>bl xs ts/\(x∈ts->K 0 (.ok (.ret (.bool ah))) [(l,lO xs ep)] [])/\(¬x∈ts->K 1 (.ok (.ret (.bool af))) [(l,lO xs ep)] [])⟩,bF λ l x t xs ep=>.mk λ A s rest K R h f Rd q=>by
 obtain⟨c,d,e⟩:=h;refine cz (by decide+kernel) (aL (by kernel_rfl)) (uH l xs.toArray ep (.str x t) (qO x) (qn c)) ⟨Rd.own _ (.head _),?_⟩;rw [Gi c];by_cases hm:x∈ts;.rw [decide_eq_true hm];exact q 0 _ _ _ _ (d hm) (Trans.refl Rd.left)
 .rw [decide_eq_false hm];exact q 1 _ _ _ _ (e hm) (Trans.refl Rd.left)⟩
noncomputable def Qv(c:bN b l0 (lO rz AS))(ts:List aR):Ok b:=⟨gD "list.__contains__" [.re,.st] [] λ l x a=>⟨[],λ a a a K=>(l=l0/\bl rz ts)/\(x∈ts->K 0 (.ok (.ret (.bool ah))) [] [])/\(¬x∈ts->K 1 (.ok (.ret (.bool af))) [] [])⟩,bF λ l x t=>.mk λ A s rest K R h g Rd q=>by
 obtain⟨⟨rfl,d⟩,e,f⟩:=h;refine cz (by decide+kernel) (aL (by kernel_rfl)) (uH l rz.toArray AS (.str x t) (qO x) (qn d)) ⟨Rd.jq _ _ c.1 c.2,?_⟩;rw [Gi d];by_cases hm:x∈ts;.rw [decide_eq_true hm];exact q 0 _ _ _ _ (e hm) (Trans.refl Rd.left)
 .rw [decide_eq_false hm];exact q 1 _ _ _ _ (f hm) (Trans.refl Rd.left)⟩
noncomputable def UP(n:bN b l0 (lO rz AS))(ts:List aR):Ok b:=⟨gD "list.index" [.re,.st] [] λ l x i=>⟨[],λ i i i K=>(l=l0/\bl rz ts/\x∈ts/\ts.length<=1000)/\∀t,K 0 (.ok (.ret (.int (ts.idxOf x:Nat) t))) [] []⟩,bF λ l x t=>.mk λ A s rest K R h w Rd q=>by
 obtain⟨⟨rfl,d,r,z⟩,u⟩:=h;have a:∀{xs:List aa}{ts:List aR},bl xs ts->∀k(f:k<xs.length)(o:k<ts.length),qO x xs[k]=decide (ts[k]=x):=λ h=>by induction h with|nil=>exact λ k f=>absurd f (cQ _)|@cons y t vs ts _ v=>intro k f o;induction k with|zero=>show(y==x)=decide (y=x);by_cases e:y=x<;>simp [e]|succ k=>exact v k (b8 f) (b8 o)
 have p:=d.len;have g:ts.idxOf x<ts.length:=lh.mpr r;refine cz (by decide+kernel) (aL (by kernel_rfl)) (MeetsSeq.list_index l rz.toArray AS (.str x t) (qO x) (qn d) (ts.idxOf x) (by simpa [p]using g) (by lia) ?_ λ m j c=>?_) ⟨Rd.jq _ _ n.1 n.2,q 0 _ _ _ _ (u _) (Trans.same Rd.left _)⟩;.show qO x rz[ts.idxOf x]=ah;rw [a d _ (by exact li 0x1453135111243111 [ts.length,rz.length,Cg x ts] rfl p.symm g) g,Ci];exact decide_eq_true rfl
 .have j:m<rz.length:=by simpa using j
  show qO x rz[m]=af;rw [a d _ j (ik c g)];refine decide_eq_false λ e=>?_;have:=List.not_of_lt_findIdx c;simp [e]at this⟩
end
noncomputable def Qw:List Kd:=[.fr Ge,.ls,.ls,.ls,.ls,.ls,.cl,.tb,.tb]
noncomputable def LA.v8(g:LA)(f:LF)(tm:aX)(ys:List aa):List eK:=[(g.L,.fr (f.fr f.V tm)),(f.ag,.ls ys),(f.se,.ls []),(f.bs,.ls []),(f.rk,.ls []),(f.sh,.ls []),(g.cb,.cl az),(136,.fr []),(141,.fr [])]
noncomputable def tR:List Kd:=[.fr Ge,.ls,.ls,.cl,.tb]
noncomputable def LA.v9(g:LA)(f:LF)(tm:aX):List eK:=[(g.L,.fr (f.fr f.V tm)),(f.rk,.ls []),(f.sh,.ls []),(g.cb,.cl az),(141,.fr [])]
noncomputable def Yy:bO:=sE (bE (aP 23) 8) 0
noncomputable def UQ:bO:=xE Yy 0
noncomputable def m8B:bO:=xE Yy 1
noncomputable def uB:aR:=⟨#[109,105,115,114,101,97,100]⟩
theorem KP:aC 8 (aP 23)=.If (.BoolOp .Or [.Compare (xE UQ 0) [.NotEq] [xE UQ 1] (aY UQ),m8B] (aY Yy)) (sB (bE (aP 23) 8) 0) [] (kP (bE (aP 23) 8))::aC 9 (aP 23):=by kernel_rfl
theorem Gj(c:∀t∈ts,∀l h:Int,(Tr.fX t l h).2.Sublist t.tags):∀(most:Bool)(l h:Int),(Tr.d4 most ts l h).2.2.Sublist (Tr.gx ts):=by
 induction ts with
  |nil=>exact λ d d d=>cH _
  |cons t ts a=>
   have a:=a λ t i=>c t (.tail _ i);intro most l h;by_cases hl:l<h
   .induction most;.rw [p4 hl];exact(c t (.head _) l h).append (a af _ _)
    .rw [p3 hl];exact(c t (.head _) l h).append (a ah _ _)
   .rw [rG hl];exact(a most l h).trans (dQ _ _)
theorem vv(t:Tr):∀(l h:Int),(Tr.fX t l h).2.Sublist t.tags:=by induction t using Tr.oN with|h x ks a=>intro l h;induction ks with|nil=>exact .cons_cons _ (cH _)|cons k ks=>exact .cons _ (Gj a x.most l h)
theorem xg(c:cq R)(d:R.x.tag=Ed):uB∉R.tags:=λ h=>by obtain⟨t,a⟩:=jV R c _ h;unfold tg at a;rw [d]at a;exact absurd a (by show¬([101]++t=[109,105,115,114,101,97,100]);intro e;cases e)
theorem UR:lq T w #[] p:=⟨sk,λ a h=>(absurd h ax),λ a a h=>(by injection h)⟩
structure KQ(R:Tr)(top:Int)(sf:TS):Prop where
 ask:Ask R top top Hh R.V sf
 st:g8 R [⟨top,R,af⟩] [] [⟨R.V,R,ah⟩] sf.seen
 fX:(Tr.fX R (-1) top).1=R.V
 nd:sf.seen.Nodup
 B5:∀k∈sf.seen,k∈(Tr.fX R (-1) top).2
 top:0<=top
theorem KQ.len{b:Bs}{k0 k1:ae}(hE:q8 b k0 k1 dG R){a:Int}{sf:TS}(h:KQ R a sf):(Tr.fX R (-1) a).2.length<=800/\sf.seen.length<=800:=by have c:=ai (vv R (-1) a).length_le hE.bf.n;exact⟨c,ai (len_sub h.nd h.B5) c⟩
section
variable{b:Bs}(G:Good b){g:LA}{k0 fQ rw:ae}{dG:List El}{R:Tr}{er:Nat}(hE:q8 b k0 fQ dG R)(qN:bN b rw (lO (refsOf (dG.map (·.e))) er)){f:LF}(hf:f.rw=rw){sf:TS}(hs:KQ R f.top sf)(ha:bN b g.ca (iF (ab (.ref f.ag))))(Ao:bN b g.ce (iF (ab (.ref f.se))))(hV:f.V=R.V)
include G hE qN hf hs ha
theorem Gk{e:Ev}{K:Kv}{tm:aX}(i:e.dp+400<900)(j:e.un+600<9900)(hV:f.V=R.V)(l:∀tm ys,bl ys sf.seen->K 0 (.ok .next) (g.v8 f tm ys) []):DS b e (bK g) (cj 1 (aC 7 (aP 23))) g.en UH (g.v7 f f.top tm #[] 0 #[] 0 []) (k1 Qw) K:=by obtain⟨N,o⟩:=KO hs.ask;have p:=ai (hs.len hE).2 (by decide:800<=900);have d:∃k m s c,k<N+1/\yw R f.top R.V sf k m s/\e9 R.tags b.w #[] 0 #[] 0 [] s/\f.fr f.top tm=f.fr m c:=⟨N,_,Hh,_,dM _,o,⟨UR,UR,rfl,rfl,.nil⟩,rfl⟩;rw [<-hV]at d;have q:=UO (mf:=f.V) G hE qN hf p ha (N+1);exact DS.run G [] [⟨_,q⟩] (oo 0xba9876541a14321513 []) λ n=>c6 (E [g.1,f.7,f.8,f.12] 0x13210) (@rfl aT (dS w7 g.en)) (fj i:e.dp+1+200<900) ((by exact li 0x126ac401f4303103113126ac402583031111 [e.2] rfl j):e.un+3+500<9900) (d) (λ(a:aX)(ek:Array aj)(pk:Nat)(eh:Array aj)(ph:Nat)(ys:List aa)(h:e9 R.tags b.w ek pk eh ph ys sf)(r:Nw)=>l a ys h.sn)
include Ao
theorem BF(k:e.dp+400<900)(l:e.un+600<9900)(q:∀m xs c r s u,bl xs (Tr.fX R (-1) f.top).2->bl c sf.seen->D 0 (.ref m) [(g.L,.fr (f.fr f.V tm)),(f.rk,.ls []),(f.sh,.ls []),(g.cb,.cl az),(141,.fr []),(f.se,.ls xs),(f.bs,.ls c),(f.ag,.ls ys),(136,.fr u),(m,.ls [.int f.V tm,.int (Tr.fX R (-1) f.top).1 r,.int R.V s])]):DE b e (bK g) (xE UQ 0) g.en Qw (g.v8 f tm ys) (k1 (tR++[.ls,.ls,.ls,.tb,.ls])) (iS D):=by obtain⟨C,v,w⟩:=hE.bf.co;obtain⟨x,y⟩:=hs.len hE;obtain⟨o,p⟩:=hE.KN G qN;have z:=hs.top;have d:sf.seen.length<=1000:=ai y (by decide);have A:Bw (e.dp+1) (e.un+3) 12:=⟨by exact li 0x1384307820c10110311131384301903031111 [e.1] rfl k,by exact li 0x126ac40fa20c1031231031113126ac402583031111 [e.2] rfl l⟩;subst hf;exact DE.run G [⟨_,_,qN⟩,⟨_,_,Ao⟩] [e8 qN (.ref R.e),⟨_,TN G v w hE.T⟩,⟨_,UM G hE.bf d hE.most hE.ne hs.st⟩] (oo 0x13624a9875b184315144113313334132141521111331333212 []) λ n=>c4 (E [f.1,g.1] 0x1110000) (@rfl ae f.rw) (c3 ((aN 0)) o p) (λ(F:Nw)=>c5 (E [f.11,R.x.1,g.6,g.1] 0x13210) A ((by exact lj 0x16110440600112 [] [f.2] rfl z):-1<f.top) ((by exact li 0x38430300130320303111 [(R.fX (-1) f.top).snd.length] rfl x):0+(R.fX (-1) f.top).snd.length<=900) (λ(t':aX)(c:List aa)(h:bl c (R.fX (-1) f.top).snd)(H:Nw)=>c4 (E [f.1,g.1] 0x110000) (@rfl ae f.rw) (c3 ((aN 0)) o p) (λ(I:Nw)=>c7 (E [f.6,136,R.x.1,g.1] 0x133210) (fj k:e.dp+1+130<900) ((by exact li 0x126ac4082203103113126ac402583031111 [e.2] rfl l):e.un+3+130<9900) (@rfl Int f.top) (@rfl (List aa) ([])) (@rfl (List aa) ([])) (λ(t:aX)(a:List aa)(i:List aa)(j:bl a sf.seen)(B:Nw)=>w8 (q (B.ad 0) c a t' t i h j)))))
omit G hE qN hf hs ha Ao in theorem BG{e:Ev}{D:Nat->aa->List eK->Prop}{tm:aX}{xs ys a c d:List aa}{h:ae}(G:Good b)(j:∀i,D 0 (.ref i) [(g.L,.fr (f.fr f.V tm)),(f.rk,.ls []),(f.sh,.ls []),(g.cb,.cl az),(141,.fr []),(f.se,.ls xs),(f.bs,.ls a),(f.ag,.ls ys),(136,.fr d),(h,.ls c),(i,.ls [.int f.V f.t2,.int f.V f.t2,.int f.V f.t2])]):DE b e (bK g) (xE UQ 1) g.en (tR++[.ls,.ls,.ls,.tb,.ls]) [(g.L,.fr (f.fr f.V tm)),(f.rk,.ls []),(f.sh,.ls []),(g.cb,.cl az),(141,.fr []),(f.se,.ls xs),(f.bs,.ls a),(f.ag,.ls ys),(136,.fr d),(h,.ls c)] (k1 (tR++[.ls,.ls,.ls,.tb,.ls,.ls])) (iS D):=by exact DE.run G [] [] (oo 0x1cba9876543c12121221122 []) λ n=>c2 (E [n.1 0,g.1] 0x1100000) (w8 (j (n.ad 1)))
omit G hE qN hf hs in theorem BH{e:Ev}{K:Kv}{tm:aX}{xs ys i q us k:List aa}{r s:ae}{c d sy:List aR}(G:Good b)(l:bl xs c)(m:bl i d)(p:bl ys sy)(j:c.length<=800/\d.length<=800/\sy.length<=800)(t:¬uB∈c++d++sy)(u:K 0 (.ok (.ret (.bool af))) [(g.L,.fr (f.fr f.V tm)),(f.rk,.ls []),(f.sh,.ls []),(g.cb,.cl az),(141,.fr []),(f.se,.ls xs),(f.bs,.ls i),(f.ag,.ls ys),(136,.fr k)] []):DT b e (bK g) m8B g.en (tR++[.ls,.ls,.ls,.tb,.ls,.ls]) [(g.L,.fr (f.fr f.V tm)),(f.rk,.ls []),(f.sh,.ls []),(g.cb,.cl az),(141,.fr []),(f.se,.ls xs),(f.bs,.ls i),(f.ag,.ls ys),(136,.fr k),(r,.ls q),(s,.ls us)] (k1 (tR++[.ls,.ls,.ls,.tb])) K:=by
 have v:xs.length+i.length<=100000:=by rw [l.len,m.len];exact li 0x186a050431303203041110320303111 [c.length,d.length] rfl j.1 j.2.1
 have w:(xs++i).length+ys.length<=100000:=by rw [bh,l.len,m.len,p.len];exact li 0x186a050543113032030511103203041110320303111 [c.length,d.length,sy.length] rfl j.1 j.2.1 j.2.2
 have x:=(l.app m).app p;exact DT.run G [⟨_,_,ha⟩,⟨_,_,Ao⟩] [C8,oIn (c++d++sy)] (oo 0xb354a9876a1d2241af11af1af8c31318f118f10f18f376313c1cec25 [(oo 0xb354a9876a1 [])]) λ n=>c3 (E [f.11,f.6,g.1,g.6] 0x132010010) v (λ(a:ae)(z:Nw)=>c3 (E [a,f.12,g.7] 0x12010010) w (λ(o:ae)(A:Nw)=>c4 (E [o] 0x10000) x (λ(h:fb (bY [109,105,115,114,101,97,100])∈c++d++sy)(y:Nw)=>(absurd h t:K 0 (fy (nO (d3 ah))) [(g.L,Dv.fr [ao f.rw,d3 ah,ak f.top f.t1,ak f.V f.t2,ao f.bs,ao f.fd,ao f.sd,ak f.V tm,ao f.rk,ao f.sh]),(f.rk,Dv.ls []),(f.sh,Dv.ls []),(g.cb,Dv.cl az),(141,Dv.fr []),(f.se,Dv.ls xs),(f.bs,Dv.ls i),(f.ag,Dv.ls ys),(136,Dv.fr k)] [])) (λ(h:¬aG "misread"∈c++d++sy)(y:Nw)=>u)))
theorem Yz{e:Ev}{K:Kv}(p:e.dp+400<900)(m:e.un+600<9900)(q:bl ys sf.seen)(hV:f.V=R.V)(t:∀a xs c u v w,Good a->Ext b a->bl xs (Tr.fX R (-1) f.top).2->bl c sf.seen->bN a f.se (lO xs u)->bN a f.bs (lO c v)->bN a f.ag (lO ys w)->∀D,(∃h,(136,j_ h)∈D)->DS a e (bK g) (aC 9 (aP 23)) g.en tR (g.v9 f tm) (k1 []) (l3 λ j r vs tl=>K j r vs (tl++D))):DS b e (bK g) (aC 8 (aP 23)) g.en Qw (g.v8 f tm ys) (k1 []) (l3 K):=by
 have i:=hs.len hE;have k:(e.ar.under (bK g)).units<9900:=sI (by exact li 0x126ac408220313126ac402583031111 [e.2] rfl m);refine DS.text KP (DS.VR (kk:=k1 (tR++[.ls,.ls,.ls,.tb])) (DT.ZV (DT.yn (kB:=k1 (tR++[.ls,.ls,.ls,.tb,.ls,.ls])) (by kernel_rfl) (BF G hE qN hf hs ha Ao p m λ x xs c A B h n o=>BG G λ y=>⟨af,λ H s Rd=>?_,rfl,rfl,?_⟩))));.refine rH (Rd.own _ (b7 9 rfl:(x,lO _ (H 9).e)∈_)) (Rd.own _ (b7 10 rfl:(y,lO _ (H 10).e)∈_)) k ?_;rw [hs.fX,hV];exact⟨.inl ⟨_,_,_,rfl,rfl⟩,.inl ⟨_,_,_,rfl,rfl⟩,.inl ⟨_,_,_,rfl,rfl⟩,trivial⟩
 .refine BH ha Ao G n o q ⟨i.1,i.2,i.2⟩ (λ d=>xg hE.bf.tg hE.rt ((vv R (-1) f.top).subset ?_)) ⟨rfl,rfl,DS.MC (D:=λ H=>[(f.se,lO xs (H 5).e),(f.bs,lO c (H 6).e),(f.ag,lO ys (H 7).e),(136,j_ h)]) G (λ H=>⟨H,.refl _⟩) λ a H z X l=>t a xs c _ _ _ z X n o (l _ (.head _)).1 (l _ (.tail _ (.head _))).1 (l _ (.tail _ (.tail _ (.head _)))).1 _ ⟨h,.tail _ (.tail _ (.tail _ (.head _)))⟩⟩;rcases aO.mp d with d|d;.exact(aO.mp d).elim id (hs.B5 _)
  .exact hs.B5 _ d
end
noncomputable def qP(g:aR->Int)(ts:List aR)(a b:aR):Prop:=g a<g b\/g a=g b/\e6 [a,b] ts
noncomputable def BI(g:aR->Int)(ts:List aR)(a b:aR):Prop:=g a<g b\/g a=g b/\e6 [b,a] ts
theorem uC(h:a∈ts):e6 [a,x] (ts++[x]):=t6 (i7.mpr h) (ni [x])
theorem Gl{g:Type}{P:g->Prop}:∀(l:List g),l.Pairwise (λ a b=>P b->P a)->∃m,m<=l.length/\∀i v,l[i]?=ab v->(P v↔i<m):=by
 intro l
 induction l with
  |nil=>intro _;exact⟨0,bt _,λ i v h=>(by injection h)⟩
  |cons a l k=>
   intro h;obtain⟨n,o⟩:=bA.mp h;rcases Classical.em (P a)with d|d;.obtain⟨m,f,p⟩:=k o;exact⟨m+1,bW f,λ i v c=>match i,c with|0,c=>by cases c;exact iff_of_true d (Nat.zero_lt_succ _)|i+1,c=>(p i v c).trans (BY).symm⟩
   .exact⟨0,bJ _,λ i v c=>iff_of_false (λ j=>d ((aF.mp (aB c)).elim (λ e=>e▸j) λ f=>n v f j)) (cQ _)⟩
noncomputable def tS(a:List aR)(m:Nat)(x:aR):List aR:=a.take m++x::a.drop m
theorem xh(h:rs.Perm ts):(tS rs m x).Perm (ts++[x]):=by refine Hu.trans ?_;rw [eD];exact(List.Perm.cons x h).trans (bD (l₁:=[x]))
theorem Ap(h:rs.Pairwise R)(d:∀(i:Nat)y,rs[i]?=ab y->i<m->R y x)(f:∀(i:Nat)y,rs[i]?=ab y->m<=i->R x y):(tS rs m x).Pairwise R:=by
 have k:=h;rw [<-eD m rs,dt]at h;refine dt.mpr ⟨h.1,bA.mpr ⟨λ q g=>?_,h.2.1⟩,λ a c b j=>(aF.mp j).elim (λ e=>e▸?_) (h.2.2 a c b)⟩;.obtain⟨i,hi⟩:=aZ g;rw [ky]at hi;exact f _ q hi (bX _ _)
 .obtain⟨i,hi⟩:=aZ c;rw [List.getElem?_take]at hi;split at hi;.exact d i a hi ‹_›
  .cases hi
structure Rk(R:(aR->Int)->List aR->aR->aR->Prop)(g:aR->Int)(ts rs:List aR):Prop where
 p:rs.Perm ts
 s:rs.Pairwise (R g ts)
theorem Rk.YA(h:Rk qP g ts rs)(x:aR):∃m,m<=rs.length/\(∀(i:Nat)y,rs[i]?=ab y->(¬g x<g y↔i<m))/\Rk qP g (ts++[x]) (tS rs m x):=by
 obtain⟨m,j,e⟩:=Gl (P:=λ y=>¬g x<g y) rs (h.s.imp λ{a b}f k=>by have:g a<=g b:=f.elim cp λ h=>b0 h.1;exact λ q=>lj 0x187112068112076112 [] [g b,g x,g a] rfl (b_.mp k) this q);refine⟨m,j,e,xh h.p,Ap (h.s.imp λ{a b}h=>h.imp_right λ h=>⟨h.1,h.2.trans (a9 _ _)⟩) (λ i y d hi=>?_) λ i y d hi=>?_⟩
 .have:=(e i y d).mpr hi;rcases Ha (b_.mp this)with c|c;.exact .inl c
  .exact .inr ⟨c,uC (h.p.mem_iff.mp (aB d))⟩
 .exact .inl (Classical.not_not.mp λ c=>absurd ((e i y d).mp c) (fp.mpr hi))
theorem Rk.YB(h:Rk BI g ts rs)(x:aR):∃m,m<=rs.length/\(∀(i:Nat)y,rs[i]?=ab y->(g y<g x↔i<m))/\Rk BI g (ts++[x]) (tS rs m x):=by
 obtain⟨m,j,e⟩:=Gl (P:=λ y=>g y<g x) rs (h.s.imp λ{a b}f k=>by have:g a<=g b:=f.elim cp λ h=>b0 h.1;exact qz this k);refine⟨m,j,e,xh h.p,Ap (h.s.imp λ{a b}h=>h.imp_right λ h=>⟨h.1,h.2.trans (a9 _ _)⟩) (λ i y d hi=>.inl ((e i y d).mpr hi)) λ i y d hi=>?_⟩;have:¬g y<g x:=λ c=>absurd ((e i y d).mp c) (fp.mpr hi);rcases Ha (b_.mp this)with c|c;.exact .inl c
 .exact .inr ⟨c,uC (h.p.mem_iff.mp (aB d))⟩
theorem uD:ts.Nodup->e6 [a,b] ts->¬e6 [b,a] ts:=by
 induction ts with
  |nil=>intro _ h;cases h
  |cons c ts j=>
   intro g f d;obtain⟨i,g⟩:=bM.mp g;rcases nk.mp f with f|⟨_,e,f⟩
   .rcases nk.mp d with d|⟨_,e,d⟩;.exact j g f d
    .injection e with e e';exact i (e▸f.subset (.tail _ (.head _)))
   .injection e with e e';subst e e';rcases nk.mp d with d|⟨_,e,d⟩;.exact i (d.subset (.tail _ (.head _)))
    .injection e with e e';exact i (e▸f.subset (.head _))
theorem sU(c:∀a b,R a b->¬R b a):∀{l m:List aR},l.Perm m->l.Pairwise R->m.Pairwise R->l=m
 |[],m,h,_,_=>h.nil_eq|a::l,[],h,_,_=>absurd h.length_eq (s8 _)
 |a::l,b::m,h,d,f=>by
  obtain⟨g,i⟩:=bA.mp d;obtain⟨j,k⟩:=bA.mp f
  have e:a=b:=by
   rcases aF.mp (h.mem_iff.mp (.head _))with e|n;.exact e
   .rcases aF.mp (h.mem_iff.mpr (.head _))with e|o;.exact e.symm
    .exact absurd (j a n) (c _ _ (g b o))
  subst e;rw [sU c h.cons_inv i k]
theorem qP.Qx(d:ts.Nodup)(a b:aR)(h:qP g ts a b):¬qP g ts b a:=λ c=>by rcases h with h|h<;>rcases c with c|c<;>first|lia|exact uD d h.2 c.2
theorem BI.Qx(d:ts.Nodup)(a b:aR)(h:BI g ts a b):¬BI g ts b a:=λ c=>by rcases h with h|h<;>rcases c with c|c<;>first|lia|exact uD d h.2 c.2
theorem Rk.MT(b:ts.Nodup)(h:Rk qP g ts l)(a:Rk qP g ts m):l=m:=sU (qP.Qx b) (h.p.trans a.p.symm) h.s a.s
theorem Rk.US(b:ts.Nodup)(h:Rk BI g ts l)(a:Rk BI g ts m):l=m:=sU (BI.Qx b) (h.p.trans a.p.symm) h.s a.s
theorem Rk.rev(h:Rk qP g ts.reverse l):Rk BI g ts l:=⟨h.p.trans (List.reverse_perm ts),h.s.imp λ{a b}h=>h.imp_right λ h=>⟨h.1,by have:=h.2;rwa [<-List.reverse_sublist,nQ]at this⟩⟩
theorem xi(h:bl us a)(m:Nat)(x:aR)(t:aX):bl (gw us (m:Int) (.str x t)) (tS a m x):=by
 have tk:∀{us:List aa}{a:List aR},bl us a->∀m,bl (us.take m) (a.take m):=λ h=>by induction h with|nil=>intro m;rw [pD,pD];exact .nil|cons _ b=>intro m;induction m with|zero=>exact .nil|succ m=>exact .cons (b m)
 unfold gw tS;rw [bq];exact(tk h m).app (.cons (h.drop m))
theorem jE(h:bl xs ts):bE xs k=ab v->∃x t,v=.str x t/\ts[k]?=ab x:=by induction h generalizing k with|nil=>intro e;injection e|@cons x t vs ts h a=>intro e;induction k with|zero=>cases e;exact⟨_,t,rfl,rfl⟩|succ k=>exact a e
noncomputable def UT:aR:=⟨#[108,97,119,46,60,108,111,99,97,108,115,62,46,60,108,97,109,98,100,97,62]⟩
noncomputable def b9:List ea:=sB (bE (aP 23) 9) 0
noncomputable def vw(x:bO)(ck kc:ae)(tu:aa):eL:=uf x UT (.ref kc) [(lG,ck)] tu
noncomputable def V0:bO:=MN (sE (bE b9 0) 0)
noncomputable def V1:bO:=MN (sE (bE b9 1) 0)
noncomputable def lK(ka kb:ae):List aa:=[.int 186 0,.int 36 0,.ref ka,.int 187 0,.int 36 0,.ref kb]
noncomputable def pq(es:Array aj)(x:aR):Int:=(dF es x).getD 0
noncomputable def gV(es:Array aj):aa->Int|.str x _=>pq es x|_=>0
noncomputable def nL(T:List aR)(v:aa):Prop:=∃x t,v=.str x t/\x∈T
structure qQ(b:Bs)(ck kd:ae)(T:List aR)(es:Array aj)(ep:Nat):Prop where
 ck:bN b ck (iF (ab (.ref kd)))
 kd:bN b kd (ft es ep)
 ok:lq T b.w es ep
 av:∀x∈T,∃i,dF es x=ab i
theorem qQ.ext{b a:Bs}{ck kd:ae}(h:qQ b ck kd T es ep)(X:Ext b a):qQ a ck kd T es ep:=⟨h.ck.ext X,h.kd.ext X,X.w.symm▸h.ok,h.av⟩
theorem qQ.val{b:Bs}{ck kd:ae}(h:qQ b ck kd T es ep)(a:x∈T):∃u,cy (ents es) x=ab (.int (pq es x) u):=by obtain⟨i,hi⟩:=h.av x a;unfold pq;rw [hi];unfold dF at hi;induction e:cy (ents es) x with|none=>rw [e]at hi;exact(by injection hi)|some v=>obtain⟨j,u,rfl⟩:=h.ok.n x v e;rw [e]at hi;cases hi;exact⟨u,rfl⟩
section
variable{b:Bs}(G:Good b){ck kd kf kc:ae}{T:List aR}{es:Array aj}{ep:Nat}(h:qQ b ck kd T es ep){cv:List aa}(Bv:bZ cv)(Bx:bN b kc (hU cv)){tu:aa}
include G h Bv Bx
theorem Qy(a:bN b kf (fO (vw V0 ck kc tu) az)):bj b (gc kf (lk (gV es)) (nL T)):=ct λ v e rest K d i c=>by obtain⟨x,t,rfl,j⟩:=d;obtain⟨u,k⟩:=h.val j;obtain⟨l,q,ct,r,rfl⟩:=Bv;have c:∀t,K 0 (.ok (.ret (.int (pq es x) t))) [] []:=c;exact dg.run G [⟨_,_,a⟩,⟨_,_,Bx⟩,⟨_,_,h.ck⟩,⟨_,_,h.kd⟩] [lC G h.kd h.ok.d k] (oo 0x111139199927112532 []) λ n=>c4 (jf i:e.dp+0<1000) (E [kd,n.1 0,ck,kf,kc] 0x14311210000) (c2 (@rfl ae kd) (@rfl aR x)) (λ(m:Nw)=>c u)
theorem Qz(a:bN b kf (fO (vw V1 ck kc tu) az)):bj b (gc kf (lk (gV es)) (nL T)):=ct λ v e rest K d i c=>by obtain⟨x,t,rfl,j⟩:=d;obtain⟨u,k⟩:=h.val j;obtain⟨l,q,ct,r,rfl⟩:=Bv;have c:∀t,K 0 (.ok (.ret (.int (pq es x) t))) [] []:=c;exact dg.run G [⟨_,_,a⟩,⟨_,_,Bx⟩,⟨_,_,h.ck⟩,⟨_,_,h.kd⟩] [lC G h.kd h.ok.d k] (oo 0x111139199927112532 []) λ n=>c4 (jf i:e.dp+0<1000) (E [kd,n.1 0,ck,kf,kc] 0x14311210000) (c2 (@rfl ae kd) (@rfl aR x)) (λ(m:Nw)=>c u)
end
section
variable{b:Bs}{rest:Cells}{ck kd kf kc:ae}{T:List aR}{es:Array aj}{ep:Nat}(h:qQ b ck kd T es ep){tu:aa}
include h
theorem MU(c:(kf,fO (vw V0 ck kc tu) az)∈rest)(d:vP b rest kc):km b rest kf (lk (gV es)) (nL T):=λ j G X a=>d.elim λ k y=>y.elim λ e i=>⟨⟨_,_,(a _ c).1⟩,Qy G (h.ext X) e (i.in X a).1 (a _ c).1⟩
theorem MV(c:(kf,fO (vw V1 ck kc tu) az)∈rest)(d:vP b rest kc):km b rest kf (lk (gV es)) (nL T):=λ j G X a=>d.elim λ k y=>y.elim λ e i=>⟨⟨_,_,(a _ c).1⟩,Qz G (h.ext X) e (i.in X a).1 (a _ c).1⟩
end
theorem nL.str(v:aa)(h:nL T v):∃a t,v=.str a t:=h.elim λ x h=>h.elim λ t h=>⟨x,t,h.1⟩
theorem stU(h:Rk qP (pq es) ts rs)(a:bl us rs)(hT:∀y∈ts,y∈T)(j:ts.length<=1000)(tx:aX):∃m:Nat,(∀t,hN (λ v x=>¬vM (gV es) v x) ry (nL T) us (lk (gV es) (.str x tx) t) 0 (us.length:Int) (m:Int))/\Rk qP (pq es) (ts++[x]) (tS rs m x)/\bl (gw us (m:Int) (.str x tx)) (tS rs m x):=by
 obtain⟨m,l,n,o⟩:=h.YA x;have e:=a.len;have p:=h.p.length_eq;refine⟨m,λ t=>⟨aN _,aS _,by exact li 0x55354254111043111 [m,rs.length,us.length] rfl l e.symm,aN _,by exact li 0x100000604323511125411103e8303111 [ts.length,us.length,rs.length] rfl j e p,λ i v q q c=>?_,λ v c=>?_,⟨_,_,rfl⟩⟩,o,xi a m x tx⟩;.obtain⟨y,u,rfl,d⟩:=jE a c;exact(n i y d).trans e_.symm
 .obtain⟨k,r⟩:=aZ c;obtain⟨y,u,rfl,d⟩:=jE a ((dH _ _).trans r);exact⟨y,u,rfl,hT y (h.p.mem_iff.mp (aB d))⟩
theorem stD(h:Rk BI (pq es) ts rs)(a:bl us rs)(hT:∀y∈ts,y∈T)(j:ts.length<=1000)(tx:aX):∃m:Nat,(∀t,hN (ltI (gV es)) ry (nL T) us (lk (gV es) (.str x tx) t) 0 (us.length:Int) (m:Int))/\Rk BI (pq es) (ts++[x]) (tS rs m x)/\bl (gw us (m:Int) (.str x tx)) (tS rs m x):=by
 obtain⟨m,l,n,o⟩:=h.YB x;have e:=a.len;have p:=h.p.length_eq;refine⟨m,λ t=>⟨aN _,aS _,by exact li 0x55354254111043111 [m,rs.length,us.length] rfl l e.symm,aN _,by exact li 0x100000604323511125411103e8303111 [ts.length,us.length,rs.length] rfl j e p,λ i v q q c=>?_,λ v c=>?_,⟨_,_,rfl⟩⟩,o,xi a m x tx⟩;.obtain⟨y,u,rfl,d⟩:=jE a c;exact(n i y d).trans e_.symm
 .obtain⟨k,r⟩:=aZ c;obtain⟨y,u,rfl,d⟩:=jE a ((dH _ _).trans r);exact⟨y,u,rfl,hT y (h.p.mem_iff.mp (aB d))⟩
noncomputable def YC:List aR:=[oW,kH,pe,pj,vt,rI,lI,lH,vu,rJ,nG]
noncomputable def nsI:Bool->List aR|ah=>Ge|af=>YC
structure Gp where
 it:ae
noncomputable def xj(g:LA)(p:Gp):aT:=.forLoop (sE (bE (aP 23) 9) 0) (.ref p.it) b9 [] g.en
noncomputable def yx(c:aT):Gp:=⟨N0 c⟩
noncomputable def kd9(f:Bool):List Kd:=[.it,.fr (nsI f),.ls,.ls,.tb]
noncomputable def UU:List Kd:=[.fr YC,.ls,.ls,.tb]
noncomputable def QA(b:Bs)(rest:Cells)(tv:List aa):Prop:=∃ka kb,tv=lK ka kb/\vP b rest ka/\vP b rest kb
structure S9(es:Array aj)(sn ts:List aR)(us vs:List aa):Prop where
 u:∃rs,Rk qP (pq es) ts rs/\bl us rs
 v:∃rs,Rk BI (pq es) ts rs/\bl vs rs
noncomputable def cR9(b:Bs)(sel:List Nat)(g:LA)(f:LF)(tm:aX)(es:Array aj)(zs:List aa)(sn:List aR)(n:Nat)(p:Gp)(l:ae)(i:Int)(a us vs tv:List aa):Ct:=⟨[p.it,g.L,f.rk,f.sh,141],λ d u r=>[d+100<900,l=f.bs/\(∃v,a=f.fr f.V tm++[v])/\QA b (pick r sel) tv,∃k:Nat,i=k/\k+n=sn.length/\S9 es sn (sn.take k) us vs],λ K=>∀v us vs,S9 es sn sn us vs->K 0 (.ok .next) [(g.L,.fr (f.fr f.V tm++[v])),(f.rk,.ls us),(f.sh,.ls vs),(141,.fr tv)] []⟩
noncomputable def YD(b:Bs)(sel:List Nat)(g:LA)(f:LF)(tm:aX)(es:Array aj)(zs:List aa)(sn:List aR)(n:Nat):Sp:=gb (.of yx (xj g)) [.it,.fv,.ls,.ls,.fv] (kd9 af) (k1 UU) (cR9 b sel g f tm es zs sn n)
section
variable{g:LA}{f:LF}{tm:aX}{kd:ae}{T:List aR}{es:Array aj}{ep:Nat}{zs:List aa}{sn:List aR}{ez:Nat}(hz:bl zs sn)(hn:sn.length<=800)(hT:∀y∈sn,y∈T)
include hz hn hT
theorem UW:∀(n:Nat)(sel:List Nat){b:Bs}(G:Good b),qQ b g.ck kd T es ep->bN b f.bs (lO zs ez)->bj b (YD b sel g f tm es zs sn n):=by
 intro n
 induction n with
  |zero=>intro sel b G h c;exact x5 G λ p l i fv us vs tv C e rest K G X I F J a L=>by obtain⟨rfl,⟨v,rfl⟩,ka,kb,rfl,_⟩:=J;obtain⟨k,rfl,a,H⟩:=a;have a:k=sn.length:=a;rw [a,fY]at H;have M:0<=(k:Int)/\bE zs (k:Int).toNat=az:=⟨aS _,by rw [bq,dH];exact cY (by rw [hz.len];exact cR a.symm)⟩;have c:=c.ext X;exact dg.run G [⟨_,_,c⟩] [fN c] (oo 0x5432511c12132121 []) λ n=>c4 (E [p.1] 0x1000) (@rfl ae f.bs) M (λ(O:ae)(D:Array aa)(P:Nw)=>c2 (E [O] 0x10) (L v us vs H))
  |succ N ih=>
   intro sel b G h c
   exact x5 G λ p l i fv us vs tv C e rest K G X I F J a L=>by
    obtain⟨rfl,⟨v,rfl⟩,ka,kb,rfl,⟨cva,Q,d⟩,cvb,R,j⟩:=J;obtain⟨k,rfl,a,H⟩:=a;have s:k<sn.length:=by exact li 0x1533251104131111 [k,N,sn.length] rfl a
    have d:=d.in X λ p S=>I p (dw S);have j:=j.in X λ p S=>I p (dw S);have h:=h.ext X;have c:=c.ext X;obtain⟨x,t,e1,e2⟩:=jE hz (k:=k) (v:=zs[k]'(by rw [hz.len];exact s)) ((dH _ _).trans (aJ _));have M:0<=(k:Int)/\bE zs (k:Int).toNat=ab (.str x t):=⟨aS _,by rw [bq,dH,aJ (by rw [hz.len];exact s),e1]⟩;obtain⟨⟨rs,hu,U⟩,rs',hv,V⟩:=H;have u:∀y∈sn.take k,y∈T:=λ y hy=>hT y (List.mem_of_mem_take hy);have hl:(sn.take k).length<=1000:=by rw [eG];exact li 0x3e830430341110320303111 [sn.length,min k sn.length] rfl hn (fh k sn.length)
    obtain⟨m,Y,Z,w⟩:=stU (x:=x) hu U u hl t;obtain⟨m',hv2,hv',z⟩:=stD (x:=x) hv V u hl t;have hx:nL T (.str x t):=⟨x,t,rfl,hT x (aB e2)⟩;have hS':∃k':Nat,(k:Int)+1=k'/\k'+N=sn.length/\S9 es sn (sn.take k') (gw us (m:Int) (.str x t)) (gw vs (m':Int) (.str x t)):=⟨k+1,rfl,by exact a7 (li 0x541103113251104131111 [k,N,sn.length] rfl a) (li 0x511041133211051413111 [sn.length,k,N] rfl a.symm),by rw [i8,e2];exact⟨⟨_,Z,w⟩,_,hv',z⟩⟩;have IH:=ih [] G h c;obtain⟨xa,qa,ca,ra,rfl⟩:=Q;obtain⟨xb,qb,cb',rb,rfl⟩:=R;have A:∀l,vP C l ka:=λ l=>⟨_,⟨_,_,_,_,rfl⟩,.inr d⟩;have B:∀l,vP C l kb:=λ l=>⟨_,⟨_,_,_,_,rfl⟩,.inr j⟩;exact dg.run G [⟨_,_,c⟩,⟨_,_,d.1⟩,⟨_,_,j.1⟩] [fc c (.str x t),⟨_,zw (ok:=nL T) (g:=gV es) G [0] nL.str m⟩,⟨_,zv (ok:=nL T) (g:=gV es) G [0] nL.str m'⟩,⟨_,IH⟩] (oo 0x432151914876168215111110f1aa152141111c14412412132121 []) λ n=>c4 (E [p.1] 0x1000) (@rfl ae f.bs) M (λ(P:Nw)=>c6 (E [f.9,23,141,g.1] 0x13333210) (MU (rest:=[(P.ad 1,fO (vw V0 g.ck ka (.ref (P.ad 0))) az)]) h (.head _) (A _)) (fj F:e.dp+0+60<900) hx (λ(r:aX)=>Y r) (λ(n2:Nw)=>c6 (E [f.10,41,141,g.1] 0x133210) (MV (rest:=[(n2.ad 1,fO (vw V1 g.ck kb (.ref (n2.ad 0))) az)]) h (.head _) (B _)) (fj F:e.dp+0+60<900) hx (λ(r:aX)=>hv2 r) (λ(n3:Nw)=>c6 (E [p.1,g.1,f.9,f.10,141] 0x143210) (@rfl aT (xj g (yx (ic (sE (bE (aP 23) 9) 0) (ao p.it) b9 [] g.en)))) F (c3 (@rfl ae f.bs) (⟨_,rfl⟩:∃(v:aa),[ao f.rw,d3 ah,ak f.top f.t1,ak f.V f.t2,ao f.bs,ao f.fd,ao f.sd,ak f.V tm,ao f.rk,ao f.sh,cW x t]=[ao f.rw,d3 ah,ak f.top f.t1,ak f.V f.t2,ao f.bs,ao f.fd,ao f.sd,ak f.V tm,ao f.rk,ao f.sh,v]) ((⟨ka,kb,rfl,A _,B _⟩:QA C [] (lK ka kb)))) hS' (λ(v_1:aa)(o:List aa)(q:List aa)(h_1:S9 es sn sn o q)(n4:Nw)=>L v_1 o q h_1))))
noncomputable def BJ(c:Int)(a:Nat->ae)(d e i j k:aX):List aa:=[.str oO d,.str UT e,.str pT i,.int c 0,.int 1 0,.int 0 0,.int 0 0,.int 19 0,.ref (a 1),.bool ah,.int 181 0,.ref (a 2),.none,.ref (a 3),.ref (a 4),.ref (a 5),.int (j:Nat) 0,.int c 0,.str pT k]
omit hz hn hT in theorem jw{c:Int}:bZ (BJ c a t1 t2 t3 t4 t5):=⟨_,_,_,_,rfl⟩
noncomputable def cR0(g:LA)(f:LF)(tm:aX)(es:Array aj)(sn:List aR)(p:Gp)(l:ae)(i:Int)(e us vs tv:List aa):Ct:=⟨[p.it,g.L,f.rk,f.sh,141],λ d u r=>[d+100<900,l=f.bs/\e=f.fr f.V tm/\tv=[]/\i=0/\us=[]/\vs=[]],λ K=>∀v us vs ka kb a c,bZ a->bZ c->S9 es sn sn us vs->K 0 (.ok .next) [(g.L,.fr (f.fr f.V tm++[v])),(f.rk,.ls us),(f.sh,.ls vs),(141,.fr (lK ka kb))] [(ka,hU a),(kb,hU c)]⟩
noncomputable def YE(g:LA)(f:LF)(tm:aX)(es:Array aj)(sn:List aR):Sp:=gb (.of yx (xj g)) [.it,.fv,.ls,.ls,.fv] (kd9 ah) (k1 UU) (cR0 g f tm es sn)
theorem QB(N:Nat)(q:N+1=sn.length){b:Bs}(G:Good b)(h:qQ b g.ck kd T es ep)(r:bN b f.bs (lO zs ez)):bj b (YE g f tm es sn):=ct λ p l i U us vs tv e rest K s M O=>by
 obtain⟨rfl,rfl,rfl,rfl,rfl,rfl⟩:=M;have u:0<sn.length:=by exact li 0x140032411031111 [N,sn.length] rfl q
 obtain⟨x,t,P,I⟩:=jE hz (k:=0) (v:=zs[0]'(by rw [hz.len];exact u)) ((dH _ _).trans (aJ _));have Q:(0:Int)<=0/\bE zs (0:Int).toNat=ab (.str x t):=⟨aN _,by rw [dH,<-P];exact aJ _⟩;have R:Rk qP (pq es) [] []:=⟨.nil,.nil⟩;have S:Rk BI (pq es) [] []:=⟨.nil,.nil⟩;obtain⟨m,w,z,j⟩:=stU (x:=x) (T:=T) (us:=[]) R .nil (λ y A=>(absurd A ax)) (bJ _) t;obtain⟨J,B,C,o⟩:=stD (x:=x) (T:=T) (us:=[]) S .nil (λ y A=>(absurd A ax)) (bJ _) t;have L:nL T (.str x t):=⟨x,t,rfl,hT x (aB I)⟩;have D:∃F:Nat,(0:Int)+1=F/\F+N=sn.length/\S9 es sn (sn.take F) (gw [] (m:Int) (.str x t)) (gw [] (J:Int) (.str x t)):=⟨1,rfl,by exact a7 (li 0x43110132411031111 [N,sn.length] rfl q) (li 0x41101332110413111 [sn.length,N] rfl q.symm),by rw [i8,I];exact⟨⟨_,z,j⟩,_,C,o⟩⟩;exact dg.run G [⟨_,_,r⟩] [fc r (.str x t),⟨_,zw (ok:=nL T) (g:=gV es) G [0,1] nL.str m⟩,⟨_,zv (ok:=nL T) (g:=gV es) G [0,1] nL.str J⟩,⟨_,UW (tm:=tm) hz hn hT N [1,9] G h r⟩] (oo 0x6e43217115f1a14f13f61614f215111128f14f28f1cf116f16f1b214111118fc18fc14412412132121 []) λ n=>c4 (E [p.1] 0x1000) (@rfl ae f.bs) Q (λ(a:Nw)=>c6 (E [f.9,23,141,g.1] 0x13333222210) (MU (rest:=[(a.ad 7,fO (vw V0 g.ck (a.ad 6) (.ref (a.ad 0))) az),(a.ad 6,hU (BJ 186 a.ad (a.tk 1) (a.tk 2) (a.tk 3) (a.tk 6) (a.tk 7)))]) h (.head _) ⟨_,jw,.inl (.tail _ (.head _))⟩) (fj s:e.dp+0+60<900) L (λ(d:aX)=>w d) (λ(c:Nw)=>c6 (E [f.10,41,141,g.1] 0x133222210) (MV (rest:=[(c.ad 7,fO (vw V1 g.ck (c.ad 6) (.ref (c.ad 0))) az),(c.ad 6,hU (BJ 187 c.ad (c.tk 0) (c.tk 1) (c.tk 2) (c.tk 5) (c.tk 6)))]) h (.head _) ⟨_,jw,.inl (.tail _ (.head _))⟩) (fj s:e.dp+0+60<900) L (λ(d:aX)=>B d) (λ(V:Nw)=>c6 (E [p.1,g.1,f.9,f.10,141] 0x143210) (@rfl aT (xj g (yx (ic (sE (bE (aP 23) 9) 0) (ao p.it) b9 [] g.en)))) s (c3 (@rfl ae f.bs) (⟨_,rfl⟩:∃(v:aa),[ao f.rw,d3 ah,ak f.top f.t1,ak f.V f.t2,ao f.bs,ao f.fd,ao f.sd,ak f.V tm,ao f.rk,ao f.sh,cW x t]=[ao f.rw,d3 ah,ak f.top f.t1,ak f.V f.t2,ao f.bs,ao f.fd,ao f.sd,ak f.V tm,ao f.rk,ao f.sh,v]) ((⟨a.ad 6,c.ad 6,rfl,⟨_,jw,.inl (.tail _ (.head _))⟩,_,jw,.inl (.head _)⟩:QA b [(c.ad 6,hU (BJ 187 c.ad (c.tk 0) (c.tk 1) (c.tk 2) (c.tk 5) (c.tk 6))),(a.ad 6,hU (BJ 186 a.ad (a.tk 1) (a.tk 2) (a.tk 3) (a.tk 6) (a.tk 7)))] (lK (a.ad 6) (c.ad 6))))) D (λ(v:aa)(us:List aa)(vs:List aa)(H:S9 es sn sn us vs)(X:Nw)=>O v us vs (a.ad 6) (c.ad 6) (BJ 186 a.ad (a.tk 1) (a.tk 2) (a.tk 3) (a.tk 6) (a.tk 7)) (BJ 187 c.ad (c.tk 0) (c.tk 1) (c.tk 2) (c.tk 5) (c.tk 6)) jw jw H))))
end
noncomputable def ij:List Kd:=[.fr YC,.cl,.tb]
noncomputable def LA.v10(g:LA)(f:LF)(tm:aX)(v:aa)(tv:List aa):List eK:=[(g.L,.fr (f.fr f.V tm++[v])),(g.cb,.cl az),(141,.fr tv)]
theorem Gm(G:Good b){g:LA}{f:LF}{tm:aX}(hz:bl zs sn)(hn:sn.length<=800)(hT:∀y∈sn,y∈T)(d:¬sn=[])(h:qQ b g.ck kd T es ep)(m:bN b f.bs (lO zs ez)){e:Ev}{K:Kv}(p:e.dp+400<900)(q:∀v us vs ka kb a c,bZ a->bZ c->S9 es sn sn us vs->∀r s,K 0 (.ok .next) (g.v10 f tm v (lK ka kb)) [(f.rk,lO us r),(f.sh,lO vs s),(ka,hU a),(kb,hU c)]):DS b e (bK g) (cj 1 (aC 9 (aP 23))) g.en tR (g.v9 f tm) (k1 ij) K:=by
 obtain⟨N,t⟩:∃N,N+1=sn.length:=by induction sn with|nil=>exact absurd rfl d|cons _ _=>exact⟨_,rfl⟩
 have u:=QB (tm:=tm) hz hn hT N t G h m;exact DS.run G [⟨_,_,m⟩] [⟨_,u⟩] (oo 0x763245181643216132131332 []) λ n=>c5 (E [n.1 0,g.1,f.9,f.10,141,f.6] 0x11555043210) (@rfl aT (xj g (yx (ic (cC (aG "tag") (bB 185 8 185 11)) (ao (n.ad 0)) [rR ((cC (aG "insort_right") (bB 186 8 186 20)).Call [cC (aG "rank") (bB 186 21 186 25),cC (aG "tag") (bB 186 27 186 30)] [oq (ab (aG "key")) (nR (k9 [] [G9 (aG "one") az (bB 186 43 186 46)] az [] [] az []) ((cC (aG "known") (bB 186 48 186 53)).Subscript (cC (aG "one") (bB 186 54 186 57)) (bB 186 48 186 58)) (ua iv [(aG "one",NameKind.local),(aG "known",tA)] af af []) (bB 186 36 186 58)) (bB 186 32 186 58)] (bB 186 8 186 59)) (bB 186 8 186 59),rR ((cC (aG "insort_left") (bB 187 8 187 19)).Call [cC (aG "shelf") (bB 187 20 187 25),cC (aG "tag") (bB 187 27 187 30)] [oq (ab (aG "key")) (nR (k9 [] [G9 (aG "one") az (bB 187 43 187 46)] az [] [] az []) ((cC (aG "known") (bB 187 48 187 53)).Subscript (cC (aG "one") (bB 187 54 187 57)) (bB 187 48 187 58)) (ua iv [(aG "one",NameKind.local),(aG "known",tA)] af af []) (bB 187 36 187 58)) (bB 187 32 187 58)] (bB 187 8 187 59)) (bB 187 8 187 59)] [] g.en)))) (fj p:e.dp+1+100<900) (c6 (@rfl ae f.bs) (@rfl (List aa) [ao f.rw,d3 ah,ak f.top f.t1,ak f.V f.t2,ao f.bs,ao f.fd,ao f.sd,ak f.V tm,ao f.rk,ao f.sh]) (@rfl (List aa) []) (@rfl Int 0) (@rfl (List aa) []) (@rfl (List aa) [])) (λ(v:aa)(us:List aa)(vs:List aa)(ka:ae)(kb:ae)(a:List aa)(c:List aa)(i:bZ a)(k:bZ c)(l:S9 es sn sn us vs)(o:Nw)=>(q v us vs ka kb a c i k l _ _:K 0 (fy j8) [(g.L,Dv.fr [ao f.rw,d3 ah,ak f.top f.t1,ak f.V f.t2,ao f.bs,ao f.fd,ao f.sd,ak f.V tm,ao f.rk,ao f.sh,v]),(g.cb,Dv.cl az),(141,Dv.fr [ak 186 0,ak 36 0,ao ka,ak 187 0,ak 36 0,ao kb])] [(f.rk,lO us ((λ(j:Nat)=>o.hs (j+1)) 0).e),(f.sh,lO vs ((λ(j:Nat)=>(λ(j:Nat)=>o.hs (j+1)) (j+1)) 0).e),(ka,s6 (dZ "code") az (k6 (bY a)) (bY [])),(kb,s6 (dZ "code") az (k6 (bY c)) (bY []))]))
theorem At.new(a:At b s0 C0 s C)(c:o.isFreed=af):At b s0 C0 {s with heap:=s.heap.push o} ((s.heap.objs.size,o)::C):=a.to (Trans.eA a.R (Trans.new c s.toks))
theorem At.Gn(a:At b s0 C0 s ((x,fV c xs n)::D))(f:Array aa->Array aa):∃d,At b s0 C0 {s with heap:=s.heap.update x (mZ f)} ((x,fV c (f xs) d)::D):=⟨_,a.upd (Trans.one (get?_update_seq (a.R.own _ (.head _)) f) (fw _ _ _))⟩
theorem BK{vs:List aa}{ns:List Int}(h:RI vs ns):∀(i:Nat)(v:aa),vs[i]?=ab v->∃n t,ns[i]?=ab n/\v=.int n t:=by induction h with|nil=>intro _ _ h;injection h|cons n t _ a=>intro i v e;induction i with|zero=>exact⟨n,t,rfl,(bw e).symm⟩|succ i=>exact a i v e
noncomputable def fz(a:List aa)(i:Nat):aa:=a.getD i .none
noncomputable def UX(g:aa->Int)(vs a:List aa):Prop:=∃p:List Nat,p.Perm (eI vs.length)/\p.Pairwise (λ i j=>g (fz vs i)<g (fz vs j)\/g (fz vs i)=g (fz vs j)/\i<j)/\a=p.map (fz vs)
section
variable{b:Bs}{A:dx}{s0 s:aD}{C0 C:Cells}{kS x:ae}{g:aa->Int}{vs:List aa}{keys:Array aa}{e0 e1:Nat}{P:PySem.Fin->aD->Prop}{E:aa->aD->Prop}
theorem KR{st:SortSt}(a:At b s0 C0 s ((kS,fV "list" keys e1)::(x,fV "list" #[] e0)::C))(f:keys.size<=1000)(i:((Ly st).map (·.2)).size<=1000)(j:failedOf st=az)(h:∀e c,At b s0 C0 e ((x,fV "list" ((Ly st).map (·.2)) c)::C)->P (.done (.ret .none)) e):bV (aW PW b.w) A (Lz x af e0 (.ref kS) st) P E s:=by obtain⟨m,d⟩:=a.Gn λ k=>#[];have d:=(d.sub (.cons _ (.refl _)));obtain⟨c2,l⟩:=d.Gn λ k=>(Ly st).map (·.2);unfold Lz;dsimp only;refine aw (rS (a.R.own _ (.head _)) rfl ?_ (by rw [di];exact li 0x1000000703303e8303111 [keys.size] rfl f) (bJ _));refine aw (wpAny_letGo ?_);refine aw (seqEpoch_at (d.R.own _ (.head _)) rfl ?_);refine aw (rS (d.R.own _ (.head _)) rfl ?_ (bJ _) (ai i (by rw [di];decide)));rw [j];simp only [bne_self_eq_false,pG,if_false];exact bc (h _ c2 l)
theorem QC(a:At b s0 C0 s ((kS,fV "list" keys e1)::(x,fV "list" #[] e0)::C))(z:RI keys.toList (vs.map g))(B:vs.length<64)(h:∀d o c,At b s0 C0 d ((x,fV "list" o c)::C)->UX g vs o.toList->P (.done (.ret .none)) d):bV (aW PW b.w) A (ksk_end x af vs.toArray e0 (.ref kS) keys) P E s:=by
 have D:keys.size=vs.length:=by have m:=z.length;rw [cx,aM]at m;exact m
 have q:(keys.zip vs.toArray).size=vs.length:=by rw [Array.size_zip,D,b6,Nat.min_self]
 have r:∀(st:SortSt)(p:Array Nat),Ly st=p.map (qC (keys.zip vs.toArray))->failedOf st=az->pU vs.length p vs.length->sb (λ i=>g (fz vs i)) p vs.length->∀d,At b s0 C0 d ((kS,fV "list" keys e1)::(x,fV "list" #[] e0)::C)->bV (aW PW b.w) A (Lz x af e0 (.ref kS) st) P E d:=λ st p K L y M d a=>by
  have k:((Ly st).map (·.2)).toList=p.toList.map (fz vs):=by rw [K,Array.map_map,Array.toList_map];refine eZ λ i hi=>?_;have hi:i<vs.length:=hG.mp (lU.mp (y.pm.mem_iff.mp (yQ.mp hi)));show(qC (keys.zip vs.toArray) i).2=_;unfold qC fz;rw [b5,fB (by lia),cL,aJ hi];simp
  refine KR a (by lia) (by rw [<-cx,k,aM,cx,y.sz];lia) L λ d c a=>h d _ c a ⟨p.toList,?_,?_,k⟩;.exact Array.perm_iff_toList_perm.mp y.pm
  .refine kO.mpr λ i j hi v F=>?_;have:=M i j F (by rw [cx,y.sz]at v;exact v);rw [b5,b5,fB (by rwa [cx]at hi),fB (by rwa [cx]at v)]at this;exact this
 unfold ksk_end;dsimp only;rw [if_neg bP];by_cases f:vs.toArray.size<2
 .rw [if_pos f,if_pos f];rw [b6]at f;refine aw (bc ?_);rw [StateT.run_pure];refine aw (bc ?_);dsimp only;refine r _ (eI vs.length).toArray ?_ rfl ⟨yS _,λ i m f=>by lia,λ i hi=>?_⟩ (λ i j m U=>by lia) s a;.have e:=kas_range (keys.zip vs.toArray);rw [q]at e;exact e.symm
  .rw [b5,eC,jY hi];exact hi
 .rw [if_neg f,if_neg f];rw [b6]at f;rw [ksk_kind z (by lia)];refine aw (bc ?_);have H:RJ LC (keys.zip vs.toArray) #[] 7 az=kas_st LC (keys.zip vs.toArray) (eI vs.length).toArray:=by have e:=kas_range (keys.zip vs.toArray);rw [q]at e;show _=RJ LC ((eI vs.length).toArray.map (qC (keys.zip vs.toArray))) #[] 7 az;rw [e]
  have key:∀i,i<vs.length->∃t,(qC (keys.zip vs.toArray) i).1=.int (g (fz vs i)) t:=λ i hi=>by
   have e1:(qC (keys.zip vs.toArray) i).1=keys.toList[i]'(by rw [cx];lia):=by unfold qC;rw [b5,fB (by lia)];simp
   rw [e1];obtain⟨n,t,J,I⟩:=BK z i _ (aJ _);refine⟨t,I.trans ?_⟩;rw [d9,aJ hi]at J;unfold fz;rw [cL,aJ hi];exact congrArg (λ n=>ak n t) (bw J).symm
  have run:=kas_runs (prog:=PW) (w:=b.w) (A:=A) (E:=E) (Q:=λ(V:Unit)l d=>bV (aW PW b.w) A (Lz x af e0 (.ref kS) l) P E d) (κ:=LC) (it:=keys.zip vs.toArray) (s:=s) (n:=vs.length) (by lia) B (G:=λ p d=>d=s/\pU vs.length p vs.length/\sb (λ i=>g (fz vs i)) p vs.length) (λ N l d X O R⟨b1,b2,b3⟩=>r l N O R b2 b3 d (b1▸a)) (IB (key:=λ i=>g (fz vs i)) (λ i j C d hi v S=>by obtain⟨t,I⟩:=key i hi;obtain⟨u,T⟩:=key j v;unfold kas_cmp;rw [I,T,keyLt'_oneType];exact oneLt_int S) (by lia) λ p m f=>⟨rfl,m,f⟩);rw [<-H]at run;exact aw run
theorem KU{f:aa}(a:At b s0 C0 s ((kS,fV "list" #[] 0)::(x,fV "list" #[] e0)::C))(e:vs.length<64)(turn:∀v∈vs,∀s C',At b s0 C0 s C'->bV (aW PW b.w) A (call f [v]) (λ r d=>∃t,r=.int (g v) t/\At b s0 C0 d C') (λ m m=>False) s)(h:∀d l c,At b s0 C0 d ((x,fV "list" l c)::C)->UX g vs l.toList->P (.done (.ret .none)) d):bV (aW PW b.w) A (ksk_rest x f af vs.toArray e0 (.ref kS)) P E s:=by
 unfold ksk_rest;refine aw (lM ?_);rw [List.forIn_toArray];refine aw (ksk_fold (λ i d=>∃kA e1,At b s0 C0 d ((kS,fV "list" kA e1)::(x,fV "list" #[] e0)::C)/\RI kA.toList ((vs.map g).take i)) vs 0 s ⟨#[],0,a,by simpa using IntsAre.nil⟩ (λ j v d n=>?_) λ d=>?_)
 .rintro⟨kA,e1,a,k⟩;have z:j<vs.length:=(bz.mp n).1;rw [cN]at k⊢;have o:kA.size<=vs.length:=by have p:=k.length;rw [cx,eG,aM]at p;exact li 0x533054111243111 [kA.size,min j vs.length,vs.length] rfl p (fh j vs.length)
  refine aw (wpAny_attempt (iE (turn v (aB n) d _ a) (λ r B u=>?_) λ m m w=>w.elim));obtain⟨t,rfl,q⟩:=u;dsimp only;obtain⟨c2,y⟩:=q.Gn (·.push (.int (g v) t));refine aw (rS (q.R.own _ (.head _)) rfl ?_ (by rw [di];exact li 0x10000007043034111140203111 [vs.length,kA.size] rfl e o) (ai (cR (Array.size_push ..)) (by rw [di];exact li 0x1101000000701110413034111140203111 [vs.length,kA.size] rfl e o)));refine bc ⟨rfl,_,c2,y,?_⟩;rw [show(kA.push (ak (g v) t)).toList=kA.toList++[ak (g v) t]by simp,i8,d9,n];exact ksk_snoc k
 .rintro⟨kA,e1,a,k⟩;rw [show 0+vs.length=(vs.map g).length by rw [aM,cN],fY]at k;refine aw (listItems_at (a.R.own _ (.head _)) rfl ?_);exact QC a k e h
theorem KV{f:ae}(a:At b s0 C0 s ((x,fV "list" vs.toArray n)::C))(d:vs.length<64)(turn:∀v∈vs,∀s C',At b s0 C0 s C'->bV (aW PW b.w) A (call (.ref f) [v]) (λ r i=>∃t,r=.int (g v) t/\At b s0 C0 i C') (λ j j=>False) s)(h:∀i e c,At b s0 C0 i ((x,fV "list" e c)::C)->UX g vs e.toList->P (.done (.ret .none)) i):bV (aW PW b.w) A (Zd x (.ref f) af) P E s:=by obtain⟨e1,k⟩:=a.Gn λ j=>#[];unfold Zd;refine aw (listItems_at (a.R.own _ (.head _)) rfl ?_);refine aw (rS (a.R.own _ (.head _)) rfl ?_ (by rw [b6,di];exact li 0x10000007033140203111 [vs.length] rfl d) (bJ _));refine aw (seqEpoch_at (k.R.own _ (.head _)) rfl ?_);refine aw (Za ?_ (by show vs.length<=_;rw [di];exact li 0x10000007033140203111 [vs.length] rfl d));refine aw (BZ ?_ (bJ _));refine hD ?_;exact KU (((k.new rfl).sub (.cons _ (.refl _))).new rfl) d turn h
theorem UY{l:ae}(a:At b s0 C0 s C)(q:s.heap.get? l=ab (fV "list" vs.toArray n))(e:vs.length<64)(j:∀x,argsOk "list.sort" ⟨[.ref x],kw⟩)(u:∀x,cK.«list.sort» ⟨[.ref x],kw⟩=Zd x (.ref f) af)(turn:∀v∈vs,∀s C',At b s0 C0 s C'->bV (aW PW b.w) B.in1.in1 (call (.ref f) [v]) (λ r i=>∃t,r=.int (g v) t/\At b s0 C0 i C') (λ w w=>False) s)(h:∀i m d c,At b s0 C0 i ((m,fV "list" d c)::C)->UX g vs d.toList->R (.ok (.ret (.ref m))) i):bx (aW PW b.w) B (.builtin "sorted" ⟨[.ref l],kw⟩) R s:=by refine bL plain_sorted entry_sorted ?_;unfold cK.«sorted»;refine aw (bc ?_);refine aw (collect_list ⟨_,q,rfl,n,rfl⟩ ?_ (by rw [di];exact li 0x10000007033140203111 [vs.length] rfl e));obtain⟨z,y⟩:=(a.new rfl).Gn (·++vs.toArray);refine aw (BZ ?_ (by rw [di];exact li 0x10000007033140203111 [vs.length] rfl e));have p:=(y.sub (.cons _ (.refl _))).new (o:=fV "list" vs.toArray 0) rfl;refine aw (hD (wpAny_call_entry_kw Zc ⟨_,p.R.own _ (.head _),rfl⟩ Wj ?_ (j _)));show bV _ _ (cK.«list.sort» ⟨[.ref _],kw⟩) _ _ _;rw [u];exact KV p e turn λ i d c b k=>⟨_,rfl,bc (h i _ d c b k)⟩
end
theorem QE(e:b.prog=PW)(f:bj b (gc kf (lk g) ok))(i:ok v)(k:B.depth+20<900)(l:B.handled=az)(a:At b s0 C0 s C):bV (aW PW b.w) B (call (.ref kf) [v]) (λ r d=>∃t,r=.int (g v) t/\At b s0 C0 d C) (λ c c=>False) s:=by
 rw [<-e];refine yT (dj (f.ok B (λ c=>False) (.call (.ref kf) ⟨[v],[]⟩) [] C [] (λ j r cs tl=>(∃t,r=.ok (.ret (.int (g v) t)))/\cs=(λ c=>[])/\tl=[]) s (λ c h=>h.elim) l a.R ?_) ?_);.exact⟨⟨rfl,trivial⟩,i,k,λ t=>⟨⟨t,rfl⟩,rfl,rfl⟩⟩
 .rintro r d⟨j,m,tl,n,⟨⟨t,rfl⟩,rfl,rfl⟩,T⟩;exact⟨t,rfl,a.to (Trans.eA a.R T)⟩
theorem KW:∀{i j:Nat}{a b:α},ts[i]?=ab a->ts[j]?=ab b->i<j->e6 [a,b] ts:=by induction ts with|nil=>intro i j a b e1;injection e1|cons t ts d=>intro i j a b e1 c h;induction j with|zero=>exact absurd h (cQ _)|succ j=>induction i with|zero=>cases e1;exact .cons_cons _ (i7.mpr (aB c))|succ i=>exact .cons _ (d e1 c (b8 h))
theorem UZ(f:bl vs ts)(h:UX (gV es) vs out):∃k,bl out k/\Rk qP (pq es) ts k:=by
 obtain⟨p,l,o,rfl⟩:=h;have m:=f.len;have a:∀i,i∈p->∃x t,fz vs i=.str x t/\ts[i]?=ab x/\ts.getD i default=x:=λ i hi=>by have hi:i<vs.length:=hG.mp (l.mem_iff.mp hi);obtain⟨x,t,e1,c⟩:=jE f ((dH _ _).trans (aJ hi));exact⟨x,t,by unfold fz;rw [cL,aJ hi];exact e1,c,by rw [cL,c];rfl⟩
 have key:∀q:List Nat,(∀i∈q,i∈p)->bl (q.map (fz vs)) (q.map λ i=>ts.getD i default):=λ q=>by induction q with|nil=>exact λ B=>.nil|cons i q r=>intro n;obtain⟨x,t,e1,_,d⟩:=a i (n i (.head _));rw [bu,bu,e1,d];exact .cons (r λ j e=>n j (.tail _ e))
 refine⟨p.map λ i=>ts.getD i default,key p λ i hi=>hi,?_,?_⟩
 .refine(l.map _).trans (List.Perm.of_eq (List.ext_getElem? λ i=>?_));rw [d9];by_cases hi:i<ts.length;.rw [jY (by exact li 0x1453135111243111 [ts.length,vs.length,i] rfl m.symm hi),aJ hi];show ab (ts.getD i default)=_;rw [cL,aJ hi];rfl
  .rw [cY (by rw [qU];exact li 0x533054111243111 [vs.length,ts.length,i] rfl m (fp.mp hi)),cY ((fp.mp hi))];rfl
 .refine gQ.mpr (o.imp_of_mem λ{i j}hi e h=>?_);obtain⟨x,t,e1,c,d⟩:=a i hi;obtain⟨y,u,v,w,z⟩:=a j e;rw [d,z];rw [e1,v]at h;exact h.imp_right λ h=>⟨h.1,KW c w h.2⟩
noncomputable def U0:aT->ae×ae|.builtin _ ⟨[a],[(_,v)]⟩=>(xZ a,xZ v)|_=>(0,0)
noncomputable def qo(q:ae×ae):aT:=.builtin "sorted" ⟨[.ref q.1],[(oL,.ref q.2)]⟩
noncomputable def cSo(b:Bs)(sel:List Nat)(es:Array aj)(T ts:List aR)(q:ae×ae)(vs:List aa):Ct:=⟨[q.1],λ d u r=>[km b (pick r sel) q.2 (lk (gV es)) (nL T),d+60<900,bl vs ts/\ts.length<64/\∀y∈ts,y∈T],λ K=>∀m a c,bl a c->Rk qP (pq es) ts c->K 0 (.ok (.ret (.ref m))) [(m,.ls a)] []⟩
noncomputable def YF(b:Bs)(sel:List Nat)(es:Array aj)(T ts:List aR):Sp:=gb (.of U0 qo) [.ls] [.ls] (k1 [.ls]) (cSo b sel es T ts)
theorem MW(G:Good b){e:Ev}{s0 s:aD}{C0 C:Cells}{es:Array aj}(j:bj b (gc q.2 (lk (gV es)) (nL T)))(a:At b s0 C0 s C)(p:s.heap.get? q.1=ab (lO vs n))(r:e.dp+60<900)(h:bl vs ts/\ts.length<64/\∀y∈ts,y∈T)(u:∀f m d i c,At b s0 C0 f ((m,lO d c)::C)->bl d i->Rk qP (pq es) ts i->R (.ok (.ret (.ref m))) f):bx (aW b.prog b.w) e.ar (qo q) R s:=by
 obtain⟨l,w,z⟩:=h;rw [G.prog];refine UY a p (by rw [l.len];exact w) (λ x=>ksk_l1 _ _) (λ x=>ksk_t1 _ _) (λ v o s C' a=>QE G.prog j ?_ (show e.dp+20<900 by exact li 0x13843014203131384303c2031111 [e.1] rfl r) rfl a) λ f m d c B D=>?_;.obtain⟨k,j⟩:=aZ o;obtain⟨x,t,rfl,F⟩:=jE l ((dH _ _).trans j);exact⟨x,t,rfl,z x (aB F)⟩
 .obtain⟨i,H,I⟩:=UZ l D;exact u f m _ i c (by rw [show lO d.toList c=fV "list" d c by unfold lO fV;rw [fF]];exact B) H I
theorem MX{b:Bs}(G:Good b)(sel:List Nat)(es:Array aj)(T ts:List aR):bj b (YF b sel es T ts):=x5 G λ q vs j e rest K G X k d l h n=>λ H s0 C0 s a=>MW G (d j G X λ p o=>k p (dw o)).2 a (a.R.own _ (.head _)) l h λ w m f r c t u v=>⟨0,[(m,.ls f)],[],λ i=>⟨λ i=>0,λ i=>0,c⟩,n m _ r u v,t.sub (.cons_cons _ (cH _))⟩
noncomputable def YG(b:Bs)(sel:List Nat)(es:Array aj)(T ts:List aR)(l:ae)(q:ae×ae):Ct:=⟨[],λ d u r=>[q.1=l,km b (pick r sel) q.2 (lk (gV es)) (nL T),d+60<900],λ K=>∀m a c,bl a c->Rk qP (pq es) ts c->K 0 (.ok (.ret (.ref m))) [(m,.ls a)] []⟩
noncomputable def U1(b:Bs)(sel:List Nat)(es:Array aj)(T ts:List aR)(l:ae):Sp:=gb (.of U0 qo) [] [] (k1 [.ls]) (YG b sel es T ts l)
theorem QF(G:Good b)(sel:List Nat)(es:Array aj)(T ts:List aR){l:ae}(i:bN b l (lO vs n))(h:bl vs ts/\ts.length<64/\∀y∈ts,y∈T):bj b (U1 b sel es T ts l):=x5 G λ q k e rest K G X o r d t u=>λ H s0 C0 s a=>MW G (d k G X λ p v=>o p (dw v)).2 a (by rw [r];exact a.R.jq _ _ (X.h _ _ i).1 (X.h _ _ i).2) t h λ F m f w c z B D=>⟨0,[(m,.ls f)],[],λ j=>⟨λ j=>0,λ j=>0,c⟩,u m _ w B D,z.sub (.cons_cons _ (cH _))⟩
set_option backward.match.sparseCases true
noncomputable def mT:bO:=sE (bE (aP 23) 10) 0
noncomputable def mA:bO:=xE mT 1
noncomputable def mB:bO:=xE mT 2
theorem Gq:aC 10 (aP 23)=.If (.BoolOp .Or [xE mT 0,.Compare (xE mA 0) [.NotEq] [xE mA 1] (aY mA),.Compare (xE mB 0) [.NotEq] [xE mB 1] (aY mB)] (aY mT)) (sB (bE (aP 23) 10) 0) [] (kP (bE (aP 23) 10))::aC 11 (aP 23):=by kernel_rfl
noncomputable def V2:bO:=MN (wb (xE mB 1))
theorem Gr(h:bl vs ts):bl vs.reverse ts.reverse:=by induction h with|nil=>exact .nil|cons _ a=>rw [k8,k8];exact a.app (.cons .nil)
theorem KX(xs:List aa):fe xs az az (ab 1)=xs:=by
 have:fe xs az az (ab 1)=fe xs (ab ((0:Nat):Int)) az az:=by unfold fe vG;simp [Lv];rw [show max 0 (min 0 (xs.length:Int))=0 by exact bg (b0 (t7 (iP 0 (↑xs.length)))) (j0 0 (min 0 ↑xs.length))]
 rw [this,r6,nM]
theorem KY(G:Good b)(h:qQ b ck kd T es ep)(a:bZ cv)(c:bN b kc (hU cv))(d:bN b kf (fO (vw V2 ck kc tu) az)):bj b (gc kf (lk (gV es)) (nL T)):=ct λ v e rest K j k i=>by obtain⟨x,t,rfl,l⟩:=j;obtain⟨u,m⟩:=h.val l;obtain⟨o,q,ct,r,rfl⟩:=a;have i:∀t,K 0 (.ok (.ret (.int (pq es x) t))) [] []:=i;exact dg.run G [⟨_,_,d⟩,⟨_,_,c⟩,⟨_,_,h.ck⟩,⟨_,_,h.kd⟩] [lC G h.kd h.ok.d m] (oo 0x111139199927112532 []) λ n=>c4 (jf k:e.dp+0<1000) (E [kd,n.1 0,ck,kf,kc] 0x14311210000) (c2 (@rfl ae kd) (@rfl aR x)) (λ(p:Nw)=>i u)
theorem Gs(h:qQ b ck kd T es ep)(c:(kf,fO (vw V2 ck kc tu) az)∈rest)(d:vP b rest kc):km b rest kf (lk (gV es)) (nL T):=λ k G X a=>d.elim λ l y=>y.elim λ i j=>⟨⟨_,_,(a _ c).1⟩,KY G (h.ext X) i (j.in X a).1 (a _ c).1⟩
section
variable{b:Bs}(G:Good b){g:LA}{f:LF}{e:Ev}{tm:aX}{v:aa}{ka kb kd:ae}{T sn:List aR}{es:Array aj}{ep ey:Nat}{ys:List aa}
include G
theorem Gu:DT b e (bK g) (xE mT 0) g.en ij (g.v10 f tm v (lK ka kb)) (k1 ij) (eM (.bool af) (g.v10 f tm v (lK ka kb))):=DT.run G [] [] (oo 0x321412 []) λ n=>c2 (E [g.1] 0x10) (iG (.bool af) (g.v10 f tm v (lK ka kb)))
theorem Gv:DE b e (bK g) (xE mA 0) g.en ij (g.v10 f tm v (lK ka kb)) (k1 ij) (eM (.ref f.bs) (g.v10 f tm v (lK ka kb))):=DE.run G [] [] (oo 0x321412 []) λ n=>c2 (E [g.1] 0x10) (iG (.ref f.bs) (g.v10 f tm v (lK ka kb)))
theorem Gw(a:bN b g.ca (iF (ab (.ref f.ag)))):DE b e (bK g) (xE mA 1) g.en ij (g.v10 f tm v (lK ka kb)) (k1 ij) (eM (.ref f.ag) (g.v10 f tm v (lK ka kb))):=DE.run G [⟨_,_,a⟩] [] (oo 0x321413 []) λ n=>c2 (E [g.7] 0x10) (iG (.ref f.ag) (g.v10 f tm v (lK ka kb)))
theorem Gx(c:∀a,D 0 (.ref a) (g.v10 f tm v (lK ka kb)++[(a,.ls [.ref f.rk,.ref f.sh])])):DE b e (bK g) (xE mB 0) g.en ij (g.v10 f tm v (lK ka kb)) (k1 (ij++[.ls])) (iS D):=DE.run G [] [] (oo 0x14325122 []) λ n=>c2 (E [g.1] 0x100) (w8 (c (n.ad 0)))
noncomputable def mW(ka kb kc:ae):List aa:=lK ka kb++[.int 188 0,.int 80 0,.ref kc]
theorem Gy(Q:bN b g.ca (iF (ab (.ref f.ag))))(p:bN b f.ag (lO ys ey))(h:qQ b g.ck kd T es ep)(H:e.dp+400<900)(q:bl ys sn)(r:sn.length<64)(I:∀y∈sn,y∈T)(R:∀kc J K L M o1 o2 N O,bZ J->bl o1 N->Rk qP (pq es) sn N->bl o2 O->Rk qP (pq es) sn.reverse O->D 0 (.ref K) (g.v10 f tm v (mW ka kb kc)++[(la,.ls [.ref f.rk,.ref f.sh]),(K,.ls [.ref L,.ref M]),(L,.ls o1),(M,.ls o2),(kc,.fr J)])):DE b e (bK g) (xE mB 1) g.en (ij++[.ls]) (g.v10 f tm v (lK ka kb)++[(la,.ls [.ref f.rk,.ref f.sh])]) (k1 (ij++[.ls,.ls,.ls,.ls,.fl "code"])) (iS D):=by
 have P:ys.length<=1048576:=by rw [q.len];exact li 0x1000006033140203111 [sn.length] rfl r
 have s:bl (fe ys az az (ab 1)) sn:=by rw [KX];exact q
 have t:bl (fe ys az az (ab (-1))) sn.reverse:=by rw [vr];exact Gr q
 have u:sn.reverse.length<64:=by rw [oz];exact r
 have w:∀y∈sn.reverse,y∈T:=λ y p=>I y (jo.mp p);exact DE.run G [⟨_,_,Q⟩,⟨_,_,p⟩] [kg p,⟨_,MX G [0,1] es T sn⟩,⟨_,MX G [0,6] es T sn.reverse⟩,dP] (oo 0xa48318f17f16f15f9112f24f24f211f22f24f22f22f122f122f15216a116f215111126f112135155518f311c18fd1af1cf1af1af11af11af1c21618f112f21411111ef0ff1ef12f112135155523111236866161616221212211 []) λ n=>c3 (E [n.1 4,f.12,n.1 3,g.7,n.1 1,n.1 0] 0x1555444444544223211110) (c3 (@rfl ae f.ag) ((nofun:¬(ab 1:Option Int)=ab 0)) P) (λ(a:ae)(c:Nw)=>c6 (E [a,141] 0x111110) (@rfl aT (qo (a,c.ad 7))) (Gs (rest:=[(c.ad 7,fO (vw V2 g.ck (c.ad 6) (.ref (c.ad 0))) az),(c.ad 6,hU (BJ 188 c.ad (c.tk 0) (c.tk 1) (c.tk 2) (c.tk 5) (c.tk 6)))]) h (.head _) ⟨_,jw,.inl (.tail _ (.head _))⟩) (fj H:e.dp+1+60<900) (c3 s r (λ(y:aR)(j:y∈sn)=>I y j)) (λ(m:ae)(l:List aa)(x:List aR)(j:bl l x)(z:Rk qP (pq es) sn x)(X:Nw)=>c3 (E [n.1 2] 0x100) ((by decide:0<=1048576)) (λ(S:Nat)(U:Nw)=>c3 (E [U.1 0,f.12,n.1 3,g.7,n.1 1,n.1 0] 0x14444544223211110) (c3 (@rfl ae f.ag) ((nofun:¬(ab (-1):Option Int)=ab 0)) P) (λ(o:ae)(A:Nw)=>c6 (E [o,141] 0x110) (@rfl aT (qo (o,A.ad 1))) (Gs (rest:=[(A.ad 1,fO (vw V2 g.ck (c.ad 6) (.ref (A.ad 0))) az),(c.ad 6,hU (BJ 188 c.ad (c.tk 0) (c.tk 1) (c.tk 2) (c.tk 5) (c.tk 6)))]) h (.head _) ⟨_,jw,.inl (.tail _ (.head _))⟩) (fj H:e.dp+1+60<900) (c3 t u (λ(y:aR)(k:y∈sn.reverse)=>w y k)) (λ(B:ae)(d:List aa)(i:List aR)(k:bl d i)(C:Rk qP (pq es) sn.reverse i)(Y:Nw)=>c3 (E [n.1 2] 0x100) ((by decide:1<=1048576)) (λ(F:Nat)(V:Nw)=>c2 (E [n.1 3,V.1 1,n.1 1,n.1 0] 0x122223221000) (w8 (R (c.ad 6) (BJ 188 c.ad (c.tk 0) (c.tk 1) (c.tk 2) (c.tk 5) (c.tk 6)) (n.ad 2) m B l d x i jw j z k C))))))))
end
theorem DT.YH{b:Bs}{e:Ev}{c:aT}{ks:List Kd}{vs:List eK}{K:Kv}(o:DT b e c x env ks vs kA λ j r d tl=>r=.ok (.ret (.bool af))/\tl=[]/\DT b e c y env (kA j) d kB λ j r h tl=>r=.ok (.ret (.bool af))/\tl=[]/\DT b e c z env (kB j) h kC K):DT b e c (.BoolOp .Or [x,y,z] p) env ks vs kC K:=λ H s0 C0 s a=>by show a_ _ _ _ (eP x env (dh x env)>>=λ t=>match j1,t with|.And,af=>pure af|.Or,ah=>pure ah|_,_=>t9 .Or [y,z] env) _ _ _;refine au (aQ (o H s0 C0 s a) (λ t m i=>i.out λ j d tl n k l=>?_) λ x m i=>i.out λ j d tl n k l=>(by injection k.1));obtain⟨q,rfl,u⟩:=k;cases(jB (eU (cA q)):t=af);rw [aA]at l;exact DT.ZV (p:=p) u n s0 C0 m l
theorem Ready.neB(R:Ready b s C)(d:p∈C)(h:bN b a o):¬a=p.1:=λ e=>by
 rcases R.off p d with c|c;.exact h.2 (e▸c)
 .rw [<-e,h.1]at c;cases c
theorem DT.iG{b:Bs}{e:Ev}{c:aT}{ks:List Kd}{vs:List eK}{env:fJ}{x:bO}{v:aa}{d:List eK}{kk:Nat->List Kd}{K:Kv}(h:DT b e c x env ks vs kk (eM v d))(o:K 0 (.ok (.ret v)) d []):DT b e c x env ks vs kk K:=λ H s0 C0 s a=>aQ (h H s0 C0 s a) (λ u p k=>k.out λ j l tl m i n=>by generalize q:(fy (Rb u):dq)=r at i;induction i;exact⟨0,d,[],m,q▸o,n⟩) λ x p k=>k.out λ j l tl m i n=>nomatch i
section
variable{b:Bs}(G:Good b){g:LA}{f:LF}{e:Ev}{tm:aX}{v:aa}{ka kb kd:ae}{T sn:List aR}{es:Array aj}{ep ey ez eu ev:Nat}{ys zs us vs:List aa}
include G
theorem U2{K:Kv}(O:e.dp+400<900)(B:e.un+600<9900)(C:bN b g.ca (iF (ab (.ref f.ag))))(u:bN b f.ag (lO ys ey))(F:bN b f.bs (lO zs ez))(l:bN b f.rk (lO us eu))(d:bN b f.sh (lO vs ev))(h:qQ b g.ck kd T es ep)(I:bl ys sn)(P:bl zs sn)(Q:sn.length<64)(S:∀y∈sn,y∈T)(m:sn.Nodup)(U:S9 es sn sn us vs)(w:∀k kc i,Good k->Ext b k->bZ i->bN k kc (hU i)->DS k e (bK g) (aC 11 (aP 23)) g.en ij (g.v10 f tm v (mW ka kb kc)) (k1 []) (l3 K)):DS b e (bK g) (aC 10 (aP 23)) g.en ij (g.v10 f tm v (lK ka kb)) (k1 []) (l3 K):=by
 have n:(e.ar.under (bK g)).units<9900:=sI (li 0x126ac408220313126ac402583031111 [e.2] rfl B);have o:(e.ar.under (bK g)).in1.units<9900:=by show e.un+(bK g).cUnits+1<9900;rw [FA];exact li 0x126ac401103103113126ac402583031111 [e.2] rfl B
 obtain⟨⟨ru,V,Y⟩,rv,Z,q4⟩:=U;refine DS.text Gq (DS.VR (kk:=k1 (ij++[.ls,.ls,.ls,.ls,.fl "code"])) (DT.YH (kA:=k1 ij) (kB:=k1 ij) ((Gu G).iG ⟨rfl,rfl,DT.yn (kA:=k1 ij) (by kernel_rfl) ((Gv G).iG ((Gw G C).iG ⟨af,λ H s R=>rH (R.jq _ _ F.1 F.2) (R.jq _ _ u.1 u.2) n (iT.tags P I),rfl,rfl,?_⟩))⟩)));refine DT.yn (by kernel_rfl) (Gx G λ q=>Gy G C u h O I Q S λ kc i r a c o1 o2 r1 r2 x t1 z t2 A=>⟨af,λ H s R=>?_,rfl,rfl,DS.keep (D:=λ H=>[(q,lO [.ref f.rk,.ref f.sh] (H 3).e),(r,lO [.ref a,.ref c] (H 4).e),(a,lO o1 (H 5).e),(c,lO o2 (H 6).e),(kc,hU i)]) G (λ H=>⟨H,.refl _⟩) λ k H G' X l=>w k kc i G' X x (l _ (b7 4 rfl)).1⟩);have J:(a,lO o1 (H 5).e)∈d' H (ij++[.ls,.ls,.ls,.ls,.fl "code"]) (g.v10 f tm v (mW ka kb kc)++[(q,.ls [.ref f.rk,.ref f.sh]),(r,.ls [.ref a,.ref c]),(a,.ls o1),(c,.ls o2),(kc,.fr i)]):=b7 5 rfl;have L:(c,lO o2 (H 6).e)∈d' H (ij++[.ls,.ls,.ls,.ls,.fl "code"]) (g.v10 f tm v (mW ka kb kc)++[(q,.ls [.ref f.rk,.ref f.sh]),(r,.ls [.ref a,.ref c]),(a,.ls o1),(c,.ls o2),(kc,.fr i)]):=b7 6 rfl;have M:iT us o1:=iT.tags Y (V.MT m z▸t1);have N:iT vs o2:=iT.tags q4 (Z.US m A.rev▸t2);refine w6 (R.own _ (b7 3 rfl:(q,lO [.ref f.rk,.ref f.sh] (H 3).e)∈_)) (R.own _ (b7 4 rfl:(r,lO [.ref a,.ref c] (H 4).e)∈_)) n rfl λ j p t=>?_;induction j with|zero=>exact vX (R.neB J l) (sG (R.jq _ _ l.1 l.2) (R.own _ J) o M.len λ j p t=>(M.at j p t).at)|succ j=>induction j with|succ j=>exact absurd (b8 (b8 p)) (cQ _)|zero=>exact vX (R.neB L d) (sG (R.jq _ _ d.1 d.2) (R.own _ L) o N.len λ j p t=>(N.at j p t).at)
end
set_option backward.match.sparseCases false
noncomputable def RA(xs:List aa):Int->List aR->Prop|i,[]=>0<=i/\bE xs i.toNat=az|i,o::os=>0<=i/\(∃t,bE xs i.toNat=ab (.str o t))/\RA xs (i+1) os
theorem Gz{os:List aR}{xs ys:List aa}(h:bl xs os):RA (ys++xs) (ys.length:Int) os:=by induction h generalizing ys with|nil=>exact⟨aS _,by rw [aA,bq,dH];exact cY (bt _)⟩|@cons o t xs os h a=>have z:=a (ys:=ys++[.str o t]);rw [bb,bh]at z;exact⟨aS _,⟨t,by rw [bq,dH,de (bt _),yN];rfl⟩,z⟩
noncomputable def MY:Ok b:=⟨gD "int.__pow__" [.it,.it] [] λ x a y a=>⟨[],λ a a a K=>(x=2/\0<=y/\y<=64)/\∀t,K 0 (.ok (.ret (.int ((2^y.toNat:Nat):Int) t))) [] []⟩,bF λ x t y u=>.mk λ A s rest K R h j Rd k=>by
 obtain⟨⟨rfl,d,i⟩,c⟩:=h;have e:(2:Int)^y.toNat=((2^y.toNat:Nat):Int):=C2 (by decide);by_cases hy:y=0;.exact cz (by decide+kernel) (aL (by kernel_rfl)) (PySem.AutoIntG9.int___pow___int_int_0 2 t y u d (by rw [hy];rfl)).meets (by subst hy;exact k 0 _ _ _ _ (c _) (Trans.nil s _))
 .exact cz (by decide+kernel) (aL (by kernel_rfl)) (Sk 2 y t u (by decide) (by decide) (by lia) i).meets (by rw [e];exact k 0 _ _ _ _ (c _) (Trans.nil s _))⟩
noncomputable def e11:bO:=xE (sE (bE (aP 23) 11) 0) 1
noncomputable def mI:bO:=xE (wb e11) 1
noncomputable def qp(p:Cp):aT:=.compLoop mI 0 (.ref p.it) (.ref p.acc) (lQ mI q0 143 p.L p.F [(Fg,p.c0),(oV,p.c1)])
noncomputable def kI(c0:Int)(ts:List aR)(x:aR):Int:=((2^(Z.modQ c0 23+((ts.idxOf x:Nat):Int)).toNat:Nat):Int)
theorem GA(c0:Int):0<=Z.modQ c0 23/\Z.modQ c0 23<23:=by rw [<-Z.modQ_eq];exact⟨eb _ (by decide),gv _ (by decide)⟩
structure MZ(b:Bs)(g:LA)(lc tl:ae)(cs tv:List aa)(ec et:Nat)(c0:Int)(t0:aX)(ts:List aR):Prop where
 cc:bN b g.cc (iF (ab (.ref lc)))
 lc:bN b lc (lO cs ec)
 c0:(0:Int)<=0/\cs.length<=1048576/\bE cs (0:Int).toNat=ab (.int c0 t0)
 cg:bN b g.cg (iF (ab (.ref tl)))
 tl:bN b tl (lO tv et)
 tg:bl tv ts
 n:ts.length<=10
theorem MZ.ext{b a:Bs}{g:LA}{lc tl:ae}{cs tv:List aa}{ec et:Nat}{c0:Int}(h:MZ b g lc tl cs tv ec et c0 t0 ts)(X:Ext b a):MZ a g lc tl cs tv ec et c0 t0 ts:=⟨h.cc.ext X,h.lc.ext X,h.c0,h.cg.ext X,h.tl.ext X,h.tg,h.n⟩
noncomputable def QG:Bool->List Kd|ah=>[.dc [],.it,.ls]|af=>[.dc [nG],.it,.ls]
noncomputable def GB:List Kd:=[.dc [nG],.ls]
noncomputable def cMk(g:LA)(lp:ae)(ps:List aa)(c0:Int)(ts qs:List aR)(p:Cp)(l:ae)(i:Int)(ys:List aa):Ct:=⟨[p.L,p.it,p.acc],λ d u a=>[d+20<900,p.c0=g.cg/\p.c1=g.cc/\l=lp,RA ps i qs,ys.length+qs.length<=1000],λ K=>∀v zs,aV zs (qs.map (kI c0 ts))->K 0 (.ok .next) [(p.L,.fr [v]),(p.acc,.ls (ys++zs))] []⟩
noncomputable def YI(g:LA)(lp:ae)(ps:List aa)(c0:Int)(ts qs:List aR)(p:Cp)(v:aa):=cMk g lp ps c0 ts qs p
noncomputable def U3(g:LA)(lp:ae)(ps:List aa)(c0:Int)(ts qs:List aR):Sp:=gb (.of fo qp) [.fr [],.it,.ls] (QG ah) (k1 GB) (cMk g lp ps c0 ts qs)
noncomputable def M0(g:LA)(lp:ae)(ps:List aa)(c0:Int)(ts qs:List aR):Sp:=gb (.of fo qp) [.fr [.an],.it,.ls] (QG af) (k1 GB) (YI g lp ps c0 ts qs)
section
variable{b:Bs}(G:Good b){g:LA}{lc tl lp:ae}{cs tv ps:List aa}{ec et epp:Nat}{c0:Int}{t0:aX}{ts:List aR}(h:MZ b g lc tl cs tv ec et c0 t0 ts)(hp:bN b lp (lO ps epp))
include G h hp
theorem GC{e:Ev}{K:Kv}{x:aR}{qs:List aR}{p:Cp}(z:bj b (M0 g lp ps c0 ts qs))(A:e.dp+20<900)(f:Bool){j:List aa}(B:mv f j)(hx:x∈ts)(C:p.c0=g.cg/\p.c1=g.cc)(k:RA ps i (x::qs))(u:ys.length+(x::qs).length<=1000)(D:∀v zs,aV zs ((x::qs).map (kI c0 ts))->K 0 (.ok .next) [(p.L,.fr [v]),(p.acc,.ls (ys++zs))] []):dg b e (qp p) (QG f) [(p.L,.fr j),(p.it,.it lp i),(p.acc,.ls ys)] (k1 GB) K:=by
 obtain⟨p0,F,c,a,H,I,P⟩:=p;obtain⟨rfl,rfl⟩:H=g.cg/\I=g.cc:=C;obtain⟨J,⟨t,L⟩,k⟩:=k;have M:∀v t zs,aV zs (qs.map (kI c0 ts))->K 0 (.ok .next) [(p0,.fr [v]),(a,.ls (snoc ys (.int (kI c0 ts x) t)++zs))] []:=λ v t zs hz=>by rw [fu];exact D v _ ⟨⟨t,rfl⟩,hz⟩
 have l:ys.length<=1048576:=ai (ai (bX _ _) u) (by decide);have m:∀v,(snoc ys v).length+qs.length<=1000:=λ v=>iz _ u;have w:=GA c0;have hi:ts.idxOf x<ts.length:=lh.mpr hx;have y:=h.n;have o:(2:Int)=2/\0<=Z.modQ c0 23+((ts.idxOf x:Nat):Int)/\Z.modQ c0 23+((ts.idxOf x:Nat):Int)<=64:=⟨rfl,by exact lj 0x35610040600112 [Cg x ts] [Z.modQ c0 23] rfl w.1,by exact lj 0x4020356140a104111143111117206112 [Cg x ts,ts.length] [Z.modQ c0 23] rfl w.2 hi y⟩;have q:bl tv ts/\x∈ts/\ts.length<=1000:=⟨h.tg,hx,by exact li 0x3e830330a103111 [ts.length] rfl y⟩;induction f<;>rcases j with _|⟨v,_|⟨_,_⟩⟩<;>induction B;all_goals exact dg.run G [⟨_,_,hp⟩,⟨_,_,h.cc⟩,⟨_,_,h.lc⟩,⟨_,_,h.cg⟩,⟨_,_,h.tl⟩] [fc hp (.str x t),e8 h.lc (.int c0 t0),UP h.tl ts,MY,dP,⟨_,z⟩] (oo 0x2131123418321761116111115b14bbbb9111147177752422134141 []) λ n=>c4 (E [c] 0x1000) (@rfl ae lp) (c2 J L) (λ(Q:Nw)=>c4 (E [lc,g.3,p0] 0x12210000) (@rfl ae lc) h.c0 (λ(R:Nw)=>c3 (E [tl,p0,g.5] 0x12000010) (c4 (@rfl ae tl) h.tg hx q.2.2) (λ(N:aX)(S:Nw)=>c2 o (λ(d:aX)(T:Nw)=>c3 (E [a] 0x100) l (λ(O:Nat)(U:Nw)=>c7 (E [p0,c,a] 0x1210) (@rfl aT (qp (Cp.mk p0 F c a g.5 g.3 0))) A (c3 (@rfl ae g.5) (@rfl ae g.3) (@rfl ae lp)) k (m (.int (kI c0 ts x) d)) (λ(r:aa)(zs:List aa)(s:aV zs (cF (kI c0 ts) qs))(V:Nw)=>M r d zs s))))))
theorem QH:∀qs,(∀x∈qs,x∈ts)->bj b (M0 g lp ps c0 ts qs):=by intro qs;induction qs with|nil=>intro _;exact ct λ p v l i ys e rest K q c d r j=>by obtain⟨_,_,a⟩:=c;obtain rfl:=a.symm;exact dg.run G [⟨_,_,hp⟩] [fN hp] (oo 0x3231822134141 []) λ n=>c4 (E [p.3] 0x1000) a d (λ(k:ae)(D:Array aa)(u:Nw)=>c2 (E [k] 0x10) (aA ys▸j v [] trivial))|cons x qs s=>intro hx;exact ct λ p v l i ys e rest K q c d r j=>by obtain⟨m,o,a⟩:=c;obtain rfl:=a.symm;exact GC G h hp (s λ y t=>hx y (.tail _ t)) q af trivial (hx x (.head _)) ⟨m,o⟩ d r j
theorem GD(x:aR)(qs:List aR)(hx:∀y∈x::qs,y∈ts):bj b (U3 g lp ps c0 ts (x::qs)):=ct λ p l i ys e rest K j k m n o=>by obtain⟨a,c,d⟩:=k;obtain rfl:=d.symm;exact GC G h hp (QH G h hp qs λ y q=>hx y (.tail _ q)) j ah trivial (hx x (.head _)) ⟨a,c⟩ m n o
end
noncomputable def Aq:aR:=⟨#[109,97,115,107,115]⟩
noncomputable def nsY:List aR:=[oW,kH,pe,pj,vt,rI,lI,lH,vu,rJ,nG,Aq]
noncomputable def M1:List Kd:=[.fr nsY,.tb]
noncomputable def LA.v12(g:LA)(f:LF)(tm:aX)(v:aa)(mk:ae)(tv:List aa):List eK:=[(g.L,.fr (f.fr f.V tm++[v,.ref mk])),(141,.fr tv)]
section
variable(G:Good b){g:LA}{lc tl:ae}(h:MZ b g lc tl cs tv ec et c0 t0 ts){f:LF}(hx:bN b f.se (lO xs ex))(hz:bN b f.bs (lO zs ez))(Ao:bN b g.ce (iF (ab (.ref f.se))))
include G h hx hz Ao
theorem BL{e:Ev}{K:Kv}{tm:aX}(z:e.dp+400<900)(l:bl xs (x::sw))(m:bl zs (y::sn))(A:(x::sw).length<=800/\∀q∈x::sw,q∈ts)(B:(y::sn).length<=800/\∀q∈y::sn,q∈ts)(C:∀mk o u1 u2 D,K 0 (.ok .next) (g.v12 f tm v mk tb) [(g.cb,iF (ab (.int (Z.modQ c0 23) o))),(mk,lO [.int ((x::sw).map (kI c0 ts)).sum u1,.int ((y::sn).map (kI c0 ts)).sum u2] D)]):DS b e (bK g) (cj 1 (aC 11 (aP 23))) g.en ij (g.v10 f tm v tb) (k1 M1) K:=by have F:RA xs 0 (x::sw):=Gz (ys:=[]) l;have H:RA zs 0 (y::sn):=Gz (ys:=[]) m;have I:([]:List aa).length+(x::sw).length<=1000:=ai (cR (cN _)) (ai A.1 (by decide));have J:([]:List aa).length+(y::sn).length<=1000:=ai (cR (cN _)) (ai B.1 (by decide));exact DS.run G [⟨_,_,h.cc⟩,⟨_,_,h.lc⟩,⟨_,_,Ao⟩,⟨_,_,h.cg⟩,⟨_,_,hx⟩,⟨_,_,hz⟩] [e8 h.lc (.int c0 t0),⟨_,GD G h hx x sw A.2⟩,⟨_,GD G h hz y sn B.2⟩,Fe ((x::sw).map (kI c0 ts)),Fe ((y::sn).map (kI c0 ts)),dP] (oo 0x710f11f0ff510ff1ef10f20f21242212121242212121242212122121222810f10f27e10fee1e1e1321861412417214144111222314156221d1dd811485acaa1a1a1421881412416214144111222314146221b1bb211123686616161622121222711113515553 []) λ n=>c4 (E [lc,g.3] 0x110000) (@rfl ae lc) h.c0 (λ(a:Nw)=>c7 (E [a.1 6,a.1 4,a.1 5,f.11,a.1 3,a.1 1,a.1 0,g.1,g.6] 0x18766655555565544433311210) (@rfl aT (qp (Cp.mk (a.1 6) g.1 (a.1 4) (a.1 5) g.5 g.3 0))) (fj z:e.dp+1+20<900) (c3 (@rfl ae g.5) (@rfl ae g.3) (@rfl ae f.se)) F I (λ(L:aa)(i:List aa)(p:aV i (cF (kI c0 ts) (x::sw)))(r:Nw)=>c3 (E [r.1 0,r.1 1,a.1 5,a.1 6] 0x13332220210) (c2 (c6 (@rfl Int 0) (@rfl aX 0) (@rfl Int 0) (@rfl aX 0) (@rfl Int 0) (⟨_,rfl⟩:∃(t:aX),[ak 0 (r.tk 0)]=[ak 0 t])) p) (λ(t:aX)(O:Nw)=>c3 (E [a.1 2] 0x100) ((by decide:0<=1048576)) (λ(M:Nat)(c:Nw)=>c7 (E [c.1 2,c.1 0,c.1 1,f.6,a.1 3,a.1 1,a.1 0] 0x1555565544433311210) (@rfl aT (qp (Cp.mk (c.1 2) g.1 (c.1 0) (c.1 1) g.5 g.3 0))) (fj z:e.dp+1+20<900) (c3 (@rfl ae g.5) (@rfl ae g.3) (@rfl ae f.bs)) H J (λ(N:aa)(j:List aa)(s:aV j (cF (kI c0 ts) (y::sn)))(u:Nw)=>c3 (E [u.1 0,u.1 1,c.1 1,c.1 2] 0x13332220210) (c2 (c6 (@rfl Int 0) (@rfl aX 0) (@rfl Int 0) (@rfl aX 0) (@rfl Int 0) (⟨_,rfl⟩:∃(t:aX),[ak 0 (u.tk 0)]=[ak 0 t])) s) (λ(w:aX)(P:Nw)=>c3 (E [a.1 2] 0x100) ((by decide:1<=1048576)) (λ(d:Nat)(k:Nw)=>c2 (E [g.1,g.8,k.1 5,k.1 3,k.1 2,a.1 3,k.1 1,a.1 1,a.1 0] 0x1777787765554444333334333333433333343321100) (C (a.ad 2) _ _ _ _:K 0 (fy j8) [(g.L,Dv.fr [ao f.rw,d3 ah,ak f.top f.t1,ak f.V f.t2,ao f.bs,ao f.fd,ao f.sd,ak f.V tm,ao f.rk,ao f.sh,v,ao (a.ad 2)]),(141,Dv.fr tb)] [(g.cb,s6 (dZ "cell") az (Data.cell (ab (ak (Z.modQ c0 23) (a.tk 1)))) (bY [])),(a.ad 2,lO [ak (cF (kI c0 ts) (x::sw)).sum t,ak (cF (kI c0 ts) (y::sn)).sum w] d)]))))))))
end
noncomputable def QI(a:bN b l0 (lO xs ep)):Ok b:=⟨gD "enumerate.__new__" [.ty,.re] [] λ c l=>⟨[],λ d d d K=>(c="enumerate"/\l=l0)/\∀it i,K 0 (.ok (.ret (.ref i))) [] [(i,DC it 0 .none),(it,nU l0 0)]⟩,bF λ c l=>.mk λ A s rest K R h n Rd k=>by obtain⟨⟨rfl,rfl⟩,m⟩:=h;refine cz (by decide+kernel) (aL (by kernel_rfl)) (Nh l xs.toArray ep) ⟨Rd.jq _ _ a.1 a.2,k 0 _ _ _ _ (m s.heap.objs.size (s.heap.push (nU l 0)).objs.size) ?_⟩;have j:=Trans.new (s:=s) (o:=nU l 0) rfl s.toks;exact(Trans.trans j (Trans.eA (C:=[]) (D:=[(s.heap.objs.size,nU l 0)]) (Trans.ready Rd.left j) (Trans.new rfl s.toks)))⟩
noncomputable def x12:bO:=sE (bE (aP 23) 12) 0
noncomputable def dA:bO:=xE x12 0
noncomputable def dB:bO:=xE (xE x12 1) 0
noncomputable def M3(p:Cp):fJ:=lQ dA q0 143 p.L p.F [(i',p.c0),(ym,p.c1),(vg,p.c2)]
noncomputable def M4(p:Cp):fJ:=lQ dB q0 143 p.L p.F [(ym,p.c0),(vg,p.c1)]
noncomputable def yy(p:Cp):aT:=.compLoop dA 0 (.ref p.it) (.ref p.acc) (M3 p)
noncomputable def yz(p:Cp):aT:=.compLoop dB 0 (.ref p.it) (.ref p.acc) (M4 p)
theorem U4:tN dA 0:=⟨by kernel_rfl,by kernel_rfl,by kernel_rfl,xE (kD dA 0).target 0::[xE (kD dA 0).target 1],0,aY (kD dA 0).target,by kernel_rfl⟩
theorem U5:tN dB 0:=⟨by kernel_rfl,by kernel_rfl,by kernel_rfl,xE (kD dB 0).target 0::[xE (kD dB 0).target 1],0,aY (kD dB 0).target,by kernel_rfl⟩
noncomputable def sV:Bool->List Kd|ah=>[.dc [],.ls]|af=>[.dc [WS,nG],.ls]
section
variable{b:Bs}(G:Good b){e:Ev}{K:Kv}{p:Cp}{gt lx ly:ae}{k B:Int}{t tx tb:aX}{x:aR}{pg ex ey:Nat}{xs ys zs:List aa}{sw sn:List aR}(hg:bN b gt (tO [.int k t,.str x tx] pg))(hl:ys.length<=1000)(hy:bN b ly (lO zs ey))(tz:bl zs sn)
include G hg hl hy tz
theorem QJ(hx:bN b lx (lO xs ex))(KZ:bl xs sw)(c:bN b p.c0 (iF (ab (.ref lx))))(d:bN b p.c1 (iF (ab (.int B tb))))(i:bN b p.c2 (iF (ab (.ref ly))))(f:Bool){j:List aa}(q:Bi f j)(r:x∈sw->¬x∈sn->∀u,K 0 (.ok .next) [(p.L,.fr [.int k t,.str x tx]),(p.acc,.ls (snoc ys (.int (B+k) u)))] [])(m:¬x∈sw\/x∈sn->K 0 (.ok .next) [(p.L,.fr [.int k t,.str x tx]),(p.acc,.ls ys)] []):DQ b e (yy p) dA 0 (.ref p.acc) (.ref gt) (M3 p) (sV f) [(p.L,.fr j),(p.acc,.ls ys)] (k1 (sV af)) K:=by have l:ys.length<=1048576:=ai hl (by decide);induction f<;>rcases j with _|⟨v,_|⟨y,_|⟨_,_⟩⟩⟩<;>induction q;all_goals exact DQ.run G [⟨_,_,hg⟩,⟨_,_,hx⟩,⟨_,_,hy⟩,⟨_,_,c⟩,⟨_,_,d⟩,⟨_,_,i⟩] [Qv hx sw,Qv hy sn,dP] (oo 0x54311247177d8123515598484821232212121232212121232212122131333 [(oo 0x5431 []),(oo 0x15315215a1118b [])]) λ n=>c4 (E [lx,p.5,p.1,n.1 2,n.1 0,gt] 0x1555544444544444454444445443222221000) (c2 (@rfl ae lx) KZ) (λ(h:x∈sw)(s:Nw)=>c4 (E [ly,p.7,p.1] 0x121000) (c2 (@rfl ae ly) tz) (λ(a:x∈sn)(o:Nw)=>m (.inr a)) (λ(a:¬x∈sn)(o:Nw)=>c3 (E [p.4,p.1,p.6] 0x12100) l (λ(w:Nat)(z:Nw)=>r h a (o.tk 0)))) (λ(h:¬x∈sw)(s:Nw)=>m (.inl h))
theorem QK(a:bN b p.c0 (iF (ab (.int B tb))))(c:bN b p.c1 (iF (ab (.ref ly))))(f:Bool){d:List aa}(l:Bi f d)(m:x∈sn->∀u,K 0 (.ok .next) [(p.L,.fr [.int k t,.str x tx]),(p.acc,.ls (snoc ys (.int (B+k) u)))] [])(o:¬x∈sn->K 0 (.ok .next) [(p.L,.fr [.int k t,.str x tx]),(p.acc,.ls ys)] []):DQ b e (yz p) dB 0 (.ref p.acc) (.ref gt) (M4 p) (sV f) [(p.L,.fr d),(p.acc,.ls ys)] (k1 (sV af)) K:=by have i:ys.length<=1048576:=ai hl (by decide);induction f<;>rcases d with _|⟨v,_|⟨r,_|⟨_,_⟩⟩⟩<;>induction l;all_goals exact DQ.run G [⟨_,_,hg⟩,⟨_,_,hy⟩,⟨_,_,a⟩,⟨_,_,c⟩] [Qv hy sn,dP] (oo 0x15315214a11187123515598484821232212121232212121232212122131333 [(oo 0x5431 [])]) λ n=>c4 (E [ly,p.6,p.1,n.1 2,n.1 0,gt] 0x1555544444544444454444445443222221000) (c2 (@rfl ae ly) tz) (λ(h:x∈sn)(j:Nw)=>c3 (E [p.4,p.1,p.5] 0x12100) i (λ(q:Nat)(s:Nw)=>m h (j.tk 0))) (λ(h:¬x∈sn)(j:Nw)=>o h)
end
noncomputable def vS(b:Int)(ts:List aR)(p:aR->Bool)(k:Nat):List Int:=((eI k).filter λ j=>p (ts.getD j default)).map λ j:Nat=>b+(j:Int)
theorem xk(h:ts[k]?=ab x):vS b ts p (k+1)=vS b ts p k++cond (p x) [b+(k:Int)] []:=by unfold vS;rw [List.range_succ,iQ,aU];congr 1;rw [Hw,cL,h];show cF _ (if p x=ah then _ else _)=_;induction p x<;>rfl
theorem Ar:(vS b ts p k).length<=k:=by unfold vS;rw [aM];exact ai (fq _ _) (cR qU)
structure DuS(L acc:ae)(B:Int)(ts:List aR)(pr:aR->Bool)(f:Bool)(k:Nat)(vs:List eK):Prop where
 h:∃dv ys,vs=[(L,.fr dv),(acc,.ls ys)]/\Bi f dv/\aV ys (vS B ts pr k)
 f:f=ah->k=0
 k:k<=ts.length
theorem As(G:Good b){e:Ev}{K:Kv}{x:bO}(I:tN x 0)(m:bN b tl (lO tv et))(r:bl tv ts)(z:ts.length<=10)(QL:¬ts=[])(turn:∀d f k y t tx g pg ys i K,Good d->Ext b d->bN d g (tO [.int (k:Nat) t,.str y tx] pg)->ys.length<=1000->Bi f i->(pr y=ah->∀u,K 0 (.ok .next) [(L,.fr [.int (k:Nat) t,.str y tx]),(acc,.ls (snoc ys (.int (B+(k:Nat)) u)))] [])->(pr y=af->K 0 (.ok .next) [(L,.fr [.int (k:Nat) t,.str y tx]),(acc,.ls ys)] [])->DQ d e (.compLoop x 0 (.ref en) (.ref acc) env) x 0 (.ref acc) (.ref g) env (sV f) [(L,.fr i),(acc,.ls ys)] (k1 (sV af)) K)(A:∀C D zs,aV zs (vS B ts pr ts.length)->K 0 (.ok .next) [(L,.fr [C,D]),(acc,.ls zs)] []):dg b e (.compLoop x 0 (.ref en) (.ref acc) env) ([.fl "enumerate",.it]++sV ah) ([(en,.fr [.none,.bool af,.ref it,.int (0:Nat) 0,.none,old]),(it,.it tl (0:Nat))]++[(L,.fr []),(acc,.ls [])]) (k1 (sV af)) K:=by
 have a:=r.len;refine En G I m sV (S:=DuS L acc B ts pr) (λ d F X f k v g t p vs H n hg=>?_) (λ f vs n=>?_) tv.length 0 (cN _) ah _ old ⟨⟨[],[],rfl,trivial,trivial⟩,λ M=>rfl,bJ _⟩
 .obtain⟨⟨i,ys,rfl,c,j⟩,s,w⟩:=n;obtain⟨y,tx,rfl,hy⟩:=jE r H;have l:=(bz.mp hy).1;have o:ys.length<=1000:=by rw [j.len];exact ai Ar (li 0x3e830430341110a103111 [ts.length,k] rfl z w)
  refine turn d f k y t tx g p ys i _ F X hg o c (λ q u=>⟨rfl,⟨_,_,rfl,trivial,?_⟩,(λ h=>(by injection h)),l⟩) λ q=>⟨rfl,⟨_,_,rfl,trivial,?_⟩,(λ h=>(by injection h)),l⟩;.rw [xk hy,q];exact j.snoc _ u
  .rw [xk hy,q];show aV ys (_++[]);rw [aA];exact j
 .obtain⟨⟨i,ys,rfl,c,j⟩,s,w⟩:=n;induction f with|true=>exact absurd (xt.mp (a▸s rfl)) QL|false=>rcases i with _|⟨v,_|⟨J,_|⟨_,_⟩⟩⟩<;>induction c;exact⟨rfl,A v J ys (a▸j)⟩
noncomputable def pA(sw sn:List aR)(x:aR):Bool:=decide (x∈sw)&&!decide (x∈sn)
noncomputable def pB(sn:List aR)(x:aR):Bool:=decide (x∈sn)
noncomputable def M5:List Kd:=[.fl "enumerate",.it,.dc [],.ls]
noncomputable def cDu(c0 a c2:ae)(n:Bool)(tl:ae)(ts:List aR)(B:Int)(c:aR->Bool)(q:Cp)(bf:Bool)(it:ae)(i:Int)(m:aX)(o:aa)(l:ae)(j:Int)(ys:List aa):Ct:=⟨[q.it,it,q.L,q.acc],λ d u v=>[bf=af/\i=0/\m=0/\j=0/\ys=[]/\l=tl,q.c0=c0/\q.c1=a/\(n=ah->q.c2=c2)],λ K=>∀r s zs,aV zs (vS B ts c ts.length)->K 0 (.ok .next) [(q.L,.fr [r,s]),(q.acc,.ls zs)] []⟩
noncomputable def YJ(a c d tl:ae)(ts:List aR)(B:Int)(i:aR->Bool):Sp:=gb (.of fo yy) [.fr [.no,.bo,.re,.it,.no,.an],.it,.fr [],.ls] M5 (k1 (sV af)) (cDu a c d ah tl ts B i)
noncomputable def YK(a c tl:ae)(ts:List aR)(B:Int)(d:aR->Bool):Sp:=gb (.of fo yz) [.fr [.no,.bo,.re,.it,.no,.an],.it,.fr [],.ls] M5 (k1 (sV af)) (cDu a c 0 af tl ts B d)
noncomputable def K1:aR:=⟨#[100,117,101,115]⟩
noncomputable def V3:List aR:=[oW,kH,pe,pj,vt,rI,lI,lH,vu,rJ,nG,Aq,K1]
noncomputable def pv:List Kd:=[.fr V3,.tb]
noncomputable def LA.K2(g:LA)(f:LF)(tm:aX)(v:aa)(mk du:ae)(tv:List aa):List eK:=[(g.L,.fr (f.fr f.V tm++[v,.ref mk,.ref du])),(141,.fr tv)]
section
variable(G:Good b){g:LA}{lc tl:ae}{cs tv xs ys:List aa}(h:MZ b g lc tl cs tv ec et c0 t0 ts){f:LF}(hx:bN b f.se (lO xs ex))(hy:bN b f.ag (lO ys ey))(Ao:bN b g.ce (iF (ab (.ref f.se))))(U6:bN b g.ca (iF (ab (.ref f.ag))))(U7:bN b g.cb (iF (ab (.int B tb))))(QL:¬ts=[])(KZ:bl xs sw)(tys:bl ys sn)
include G h hx hy Ao U6 U7 QL KZ tys
theorem U8:bj b (YJ g.ce g.cb g.ca tl ts B (pA sw sn)):=ct λ q bf it i I n l j zs e rest K o c r=>by
 obtain⟨rfl,rfl,rfl,rfl,rfl,hl⟩:=o;obtain⟨p0,J,s,m,u,v,w⟩:=q;obtain⟨rfl,rfl,c⟩:u=g.ce/\v=g.cb/\(ah=ah->w=g.ca):=c;obtain rfl:=c rfl;obtain rfl:=hl.symm;refine As G U4 h.tl h.tg h.n QL (λ L f k y t tx M pg zs N K z X hg d A C D=>?_) r;refine QJ z hg d (hy.ext X) tys (hx.ext X) KZ (Ao.ext X) (U7.ext X) (U6.ext X) f A (λ F H=>C ?_) λ a=>D ?_;.unfold pA;rw [decide_eq_true F,decide_eq_false H];rfl
 .unfold pA;rcases a with a|a;.rw [decide_eq_false a];rfl
  .rw [decide_eq_true a];exact uG _
theorem U9:bj b (YK g.cb g.ca tl ts B (pB sn)):=ct λ q bf it i H n l j zs e rest K o d r=>by obtain⟨rfl,rfl,rfl,rfl,rfl,hl⟩:=o;obtain⟨p0,I,s,m,u,v,w⟩:=q;obtain⟨rfl,rfl,d⟩:u=g.cb/\v=g.ca/\(af=ah->w=0):=d;obtain rfl:=hl.symm;refine As G U5 h.tl h.tg h.n QL (λ J f k y t tx L pg zs M K z X hg c A C D=>?_) r;exact QK z hg c (hy.ext X) tys (U7.ext X) (U6.ext X) f A (λ F=>C (decide_eq_true F)) λ a=>D (decide_eq_false a)
theorem BM{e:Ev}{K:Kv}{tm:aX}{v:aa}(L:∀du z A C D u M N O,aV C (vS B ts (pA sw sn) ts.length)->aV D (vS B ts (pB sn) ts.length)->K 0 (.ok .next) (g.K2 f tm v mk du M6) [(du,lO [.ref z,.ref A] M),(z,lO C N),(A,lO (D++[.int 40 u]) O)]):DS b e (bK g) (cj 1 (aC 12 (aP 23))) g.en M1 (g.v12 f tm v mk M6) (k1 pv) K:=by
 have o:=h.tl;have q:∀{zs w},aV zs (vS B ts w ts.length)->zs.length+1<=100000:=λ{zs w}P=>by have Q:=h.n;have R:=P.len;have S:=Ar (b:=B) (ts:=ts) (p:=w) (k:=ts.length);exact li 0x186a0501104130351112541110a103111 [ts.length,zs.length,(vS B ts w ts.length).length] rfl Q R S
 exact DS.run G [⟨_,_,h.cg⟩,⟨_,_,o⟩] [QI o,⟨_,U8 G h hx hy Ao U6 U7 QL KZ tys⟩,⟨_,U9 G h hx hy Ao U6 U7 QL KZ tys⟩,C8] (oo 0x96187617e13316616261221222187515e2a1a1aaa1a1aa1131113111221222165514a2616166616166113111311 []) λ n=>c3 (E [g.5] 0x10) (c2 (@rfl String ("enumerate")) (@rfl ae tl)) (λ(it:ae)(F:ae)(d:Nw)=>c5 (E [F,it,d.1 1,d.1 0] 0x10000000003210) (@rfl aT (yy (Cp.mk (d.1 1) g.1 F (d.1 0) g.6 g.8 g.7))) (c6 (@rfl Bool af) (@rfl Int 0) (@rfl aX 0) (@rfl Int 0) (@rfl (List aa) []) (@rfl ae tl)) (c3 (@rfl ae g.6) (@rfl ae g.8) (λ(r:ah=ah)=>@rfl ae g.7)) (λ(U:aa)(V:aa)(zs:List aa)(r:aV zs (vS B ts (pA sw sn) ts.length))(T:Nw)=>c3 (E [g.5,d.1 1] 0x11111110) (c2 (@rfl String ("enumerate")) (@rfl ae tl)) (λ(s:ae)(i:ae)(m:Nw)=>c5 (E [i,s,m.1 1,m.1 0] 0x10000000003210) (@rfl aT (yz (Cp.mk (m.1 1) g.1 i (m.1 0) g.8 g.7 0))) (c6 (@rfl Bool af) (@rfl Int 0) (@rfl aX 0) (@rfl Int 0) (@rfl (List aa) []) (@rfl ae tl)) (c3 (@rfl ae g.8) (@rfl ae g.7) (λ(l:af=ah)=>@rfl ae 0)) (λ(H:aa)(I:aa)(c:List aa)(l:aV c (vS B ts (pB sn) ts.length))(J:Nw)=>c3 (E [m.1 0,J.1 0,m.1 1] 0x1222222010010) (q l) (λ(a:ae)(y:Nw)=>c2 (E [g.1] 0x100) (L (y.ad 0) (d.ad 0) a zs c _ _ _ _ r l:K 0 (fy j8) [(g.L,Dv.fr [ao f.rw,d3 ah,ak f.top f.t1,ak f.V f.t2,ao f.bs,ao f.fd,ao f.sd,ak f.V tm,ao f.rk,ao f.sh,v,ao mk,ao (y.ad 0)]),(141,Dv.fr M6)] [(y.ad 0,lO [ao (d.ad 0),ao a] 0),(d.1 0,lO zs ((λ(j:Nat)=>T.hs (j+1)) 0).e),(a,lO (c++[ak 40 (J.tk 0)]) 0)]))))))
end
noncomputable def fT:bO:=sE (bE (aP 23) 13) 0
theorem GF:aC 13 (aP 23)=.If (.Compare (xE fT 0) [.NotEq] [xE fT 1] (aY fT)) (sB (bE (aP 23) 13) 0) [] (kP (bE (aP 23) 13))::aC 14 (aP 23):=by kernel_rfl
structure W13(s0 s1:Int)(z1 z2:List aa)(md f2:Nat)(p1 p2:List Nat):Prop where
 x:fU s0 s1=md
 a:s1+1099511627776=f2
 l1:md<2^41
 l2:f2<2^41
 i1:aV z1 (o8 p1)
 i2:aV z2 (o8 p2)
 h1:(∀p∈p1,p<=40)/\p1.length<=45
 h2:(∀p∈p2,p<=40)/\p2.length<=45
 w1:nK (rF 32 0 md)=gp p1
 w2:nK (rF 32 0 f2)=gp p2
section
variable(G:Good b)(hW:W13 s0 s1 z1 z2 md f2 p1 p2)
include G hW
theorem yA(a:bN b mk (lO [.int s0 u0,.int s1 u1] em))(h:e.dp+400<900)(p:e.un+600<9900)(i:∀j t t',D 0 (.ref j) (g.K2 f tm v mk du M6++[(j,.ls [.str (gp p1) t,.str (gp p2) t'])])):DE b e (bK g) (xE fT 0) g.en pv (g.K2 f tm v mk du M6) (k1 (pv++[.ls])) (iS D):=by have q:=hW.a;have l:(0:Int)<=0/\[ak s0 u0,.int s1 u1].length<=1048576/\bE [ak s0 u0,.int s1 u1] (0:Int).toNat=ab (.int s0 u0):=⟨by decide,cu rfl,rfl⟩;have k:(0:Int)<=1/\[ak s0 u0,.int s1 u1].length<=1048576/\bE [ak s0 u0,.int s1 u1] (1:Int).toNat=ab (.int s1 u1):=⟨by decide,cu rfl,rfl⟩;rw [<-hW.w1,<-hW.w2]at i;exact DE.run G [⟨_,_,a⟩] [e8 a (.int s0 u0),e8 a (.int s1 u1),Mh md,⟨_,Ml G md⟩,MY,⟨_,Ml G f2⟩] (oo 0x1324111811111711143133321116111511143133321133133321 []) λ n=>c4 (E [mk,g.1] 0x110000) (@rfl ae mk) l (λ(r:Nw)=>c4 (E [mk,g.1] 0x110000) (@rfl ae mk) k (λ(s:Nw)=>c2 hW.x (λ(t:aX)(u:Nw)=>c4 (fj h:e.dp+1+20<900) (@rfl Int ((↑md:Int))) hW.l1 (λ(c:aX)(w:Nw)=>c4 (E [mk,g.1] 0x110000) (@rfl ae mk) k (λ(x:Nw)=>c2 (c3 (@rfl Int 2) ((by decide:(0:Int)<=40)) ((by decide:(40:Int)<=64))) (λ(m:aX)(y:Nw)=>c4 (fj h:e.dp+1+20<900) hW.a hW.l2 (λ(d:aX)(o:Nw)=>w8 (i (o.ad 0) c d))))))))
theorem yB(a:bN b du (lO [.ref d1,.ref d2] ed))(h:bN b d1 (lO z1 e1))(i:bN b d2 (lO z2 e2))(j:e.dp+400<900)(k:e.un+600<9900)(m:∀l t t',D 0 (.ref l) (g.K2 f tm v mk du M6++[(la,.ls [.str (gp p1) t1,.str (gp p2) t2]),(l,.ls [.str (gp p1) t,.str (gp p2) t'])])):DE b e (bK g) (xE fT 1) g.en (pv++[.ls]) (g.K2 f tm v mk du M6++[(la,.ls [.str (gp p1) t1,.str (gp p2) t2])]) (k1 (pv++[.ls,.ls])) (iS D):=DE.run G [⟨_,_,a⟩,⟨_,_,h⟩,⟨_,_,i⟩] [⟨_,Mz G h hW.i1 hW.h1.1 hW.h1.2⟩,⟨_,Mz G i hW.i2 hW.h2.1 hW.h2.2⟩,dP] (oo 0x38765148823636616161121521114141243636616161221541113121123636616161622131332 []) λ n=>c4 (E [d1,n.1 2,n.1 0,du,g.1] 0x143332222223221110) (fj j:e.dp+1+50<900) ((by exact li 0x126ac401e203103113126ac402583031111 [e.2] rfl k):e.un+3+30<9900) (λ(t:aX)(q:Nw)=>c3 (E [n.1 1] 0x100) ((by decide:0<=1048576)) (λ(o:Nat)(r:Nw)=>c4 (E [d2,n.1 2,n.1 0,du] 0x122223221110) (fj j:e.dp+1+50<900) ((by exact li 0x126ac401e203103113126ac402583031111 [e.2] rfl k):e.un+3+30<9900) (λ(c:aX)(s:Nw)=>c3 (E [n.1 1] 0x100) ((by decide:1<=1048576)) (λ(d:Nat)(p:Nw)=>c2 (E [n.1 2,p.1 1,n.1 0,du] 0x122223221000) (w8 (m (n.ad 1) t c))))))
theorem U_{e:Ev}{K:Kv}(c:bN b mk (lO [.int s0 u0,.int s1 u1] em))(d:bN b du (lO [.ref d1,.ref d2] ed))(k:bN b d1 (lO z1 e1))(l:bN b d2 (lO z2 e2))(j:e.dp+400<900)(h:e.un+600<9900)(QM:∀a,Good a->Ext b a->DS a e (bK g) (aC 14 (aP 23)) g.en pv (g.K2 f tm v mk du M6) (k1 []) (l3 K)):DS b e (bK g) (aC 13 (aP 23)) g.en pv (g.K2 f tm v mk du M6) (k1 []) (l3 K):=by have i:(e.ar.under (bK g)).units<9900:=sI (li 0x126ac408220313126ac402583031111 [e.2] rfl h);refine DS.text GF (DS.VR (DT.yn (by kernel_rfl) (yA G hW c j h λ m n o=>yB G hW d k l j h λ p q r=>⟨af,λ H s R=>?_,rfl,rfl,DS.keep G (λ H=>⟨H,.refl _⟩) λ a H t X u=>QM a t X⟩)));exact rH (R.own _ (b7 2 rfl:(m,lO [.str (gp p1) n,.str (gp p2) o] (H 2).e)∈_)) (R.own _ (b7 3 rfl:(p,lO [.str (gp p1) q,.str (gp p2) r] (H 3).e)∈_)) i ⟨.inr ⟨_,_,_,rfl,rfl⟩,.inr ⟨_,_,_,rfl,rfl⟩,trivial⟩
end
noncomputable def QN:aR:=⟨#[100,101,101,100]⟩
noncomputable def M7:List aR:=V3++[QN]
noncomputable def GG:Option ea->List ea|ab (.Try b _ _ _ _)=>b|_=>[]
noncomputable def YL:Option ea->List rL|ab (.Try _ h _ _ _)=>h|_=>[]
noncomputable def s14:Option ea:=bE (aP 23) 14
noncomputable def Hk:List ea:=sB s14 0
noncomputable def RB:bO:=sE s14 0
noncomputable def QM:List rL:=YL (bE Hk 0)
theorem K3:Hk=[.Try (GG (bE Hk 0)) QM [] [] (kP (bE Hk 0))]:=by kernel_rfl
noncomputable def kJ(g:LA)(p:Gp):aT:=.forLoop RB (.ref p.it) Hk [] g.en
noncomputable def LF.mX(f:LF)(tm:aX)(v:aa)(mk du:ae):List aa:=f.fr f.V tm++[v,.ref mk,.ref du]
noncomputable def j6(ka kb kc ke:ae):List aa:=mW ka kb kc++[.int 196 0,.int 40 0,.ref ke]
noncomputable def nsT:Bool->List aR|ah=>V3|af=>M7
noncomputable def dT(f:Bool)(d:List aa)(a:ae):List aa:=match f with|ah=>d|af=>d++[.ref a]
noncomputable def V4(f:Bool)(ka kb kc ke:ae):List aa:=match f with|ah=>mW ka kb kc|af=>j6 ka kb kc ke
noncomputable def sW(f:Bool):List Kd:=[.fs (nsT f),.tb]
noncomputable def uE:List aa:=[.ref 50,.ref 32,.ref 41,.ref 23]
noncomputable def LA.qq(g:LA)(d:List aa)(sl:Array (Option aa))(tv:List aa):List eK:=[(g.L,.fs d sl),(141,.fr tv)]
noncomputable def tU:List Kd:=[.fl "tuple_iterator",.tp]
theorem GH{x:Ht}{ns:List aR}:mi (LN x (.fs ns) (.fs vs sl)):=λ d h=>(by injection h)
noncomputable def V5:bO:=MN (match bE (GG (bE Hk 0)) 0 with|ab (.Expr x _)=>x|_=>default)
section
variable{b:Bs}(G:Good b)
include G
theorem K4(h:qQ b ck kd T es ep)(d:bZ cv)(i:bN b kc (hU cv))(j:bN b kf (fO (vw V5 ck kc tu) az)):bj b (gc kf (lk (gV es)) (nL T)):=ct λ v e rest K l hd k=>by obtain⟨x,t,rfl,hx⟩:=l;obtain⟨u,m⟩:=h.val hx;obtain⟨o,q,ct,r,rfl⟩:=d;have k:∀t,K 0 (.ok (.ret (.int (pq es x) t))) [] []:=k;exact dg.run G [⟨_,_,j⟩,⟨_,_,i⟩,⟨_,_,h.ck⟩,⟨_,_,h.kd⟩] [lC G h.kd h.ok.d m] (oo 0x111139199927112532 []) λ n=>c4 (jf hd:e.dp+0<1000) (E [kd,n.1 0,ck,kf,kc] 0x14311210000) (c2 (@rfl ae kd) (@rfl aR x)) (λ(s:Nw)=>k u)
omit G in theorem GI(h:qQ b ck kd T es ep)(i:(kf,fO (vw V5 ck kc tu) az)∈rest)(j:vP b rest kc):km b rest kf (lk (gV es)) (nL T):=λ m G X d=>j.elim λ n y=>y.elim λ k l=>⟨⟨_,_,(d _ i).1⟩,K4 G (h.ext X) k (l.in X d).1 (d _ i).1⟩
variable{g:LA}{p:Gp}{f:LF}{tm:aX}{v:aa}{mk du ka kb kc ke it tu:ae}{e:Ev}{c:aT}{K:Kv}{sl:Array (Option aa)}
theorem K5{i:Int}{a:ae}(h:0<=i/\bE uE i.toNat=ab (.ref a))(d:K 0 (.ok (.ret (.ref a))) [(it,.fr [.ref tu,.int (i+1) 0]),(tu,.ls uE)] []):DN b e c (.ref it) tU [(it,.fr [.ref tu,.int i 0]),(tu,.ls uE)] (k1 tU) K:=DN.run G [] [C7 (.ref a)] (oo 0x213121313212 []) λ n=>c4 (E [it,tu] 0x10010) (@rfl aX 0) (h) (λ(j:Nw)=>d)
theorem GJ{i:Int}(h:0<=i/\bE uE i.toNat=az)(j:K 0 (.ok .next) [] []):DN b e c (.ref it) tU [(it,.fr [.ref tu,.int i 0]),(tu,.ls uE)] (k1 []) K:=DN.run G [] [zf] (oo 0x11621313212 []) λ n=>c4 (E [it,tu] 0x10010) (@rfl aX 0) (h) (λ(d:ae)(D:Array aa)(k:Nw)=>c2 (E [d] 0x10) j)
theorem K6{tv:List aa}{a d:ae}(q:Bool)(i:K 0 (.ok .next) (g.qq (f.mX tm v mk du++[.ref a]) sl tv) []):DB b e c RB (.ref a) [] g.en (sW q) (g.qq (dT q (f.mX tm v mk du) d) sl tv) (k1 (sW af)) K:=by induction q;all_goals exact DB.run G [] [] (oo 0x213112 []) λ n=>c2 (E [g.1] 0x100) i
noncomputable def YM(g:LA)(d tv:List aa)(P:ae->List eK->Prop):Prop:=∀y i T oT t u sl,gI (.type "ValueError") (.ref t) T i oT->P y [(g.L,.fs d sl),(y,.ob i),(T,.ob oT),(141,.fr tv),(t,.ls [.str l4 u])]
section
variable{a tg:ae}{zs:List aa}{ez:Nat}{x:aR}{tx:aX}{T:List aR}{es:Array aj}{kd:ae}{ep:Nat}{fd:eL}{dk:Option ae}(hF:l_ e.rT [g.L])(hd:e.dp+100<900)(yC:bN b g.cg (iF (ab (.ref tg))))(xm:bN b tg (lO zs ez))(hz:(0:Int)<=0/\zs.length<=1048576/\bE zs (0:Int).toNat=ab (.str x tx))(hx:x∈T)(h:qQ b g.ck kd T es ep)(ha:bN b a (fO fd dk)){P:ae->List eK->Prop}
include hF hd yC xm hz hx h ha
theorem K7(j:bj b (wG b [0] (gV es) (nL T) a)){o:List aa}(k:bZ o)(l:iN b ke (hU o))(s:YM g (f.mX tm v mk du++[.ref a]) (j6 ka kb kc ke) P):DS b e (kJ g p) (GG (bE Hk 0)) g.en (sW af) (g.qq (f.mX tm v mk du++[.ref a]) sl (j6 ka kb kc ke)) (k1 [.fs M7,.ob,.ob,.tb,.tp]) (L6 P):=DS.run G [⟨_,_,ha⟩,⟨_,_,yC⟩,⟨_,_,xm⟩] [e8 xm (.str x tx),⟨_,j⟩] (oo 0x473216132143111611111371777522 []) λ n=>c4 (E [tg,g.5,g.1] 0x12210000) (@rfl ae tg) (hz) (λ(q:Nw)=>c8 (E [g.1,a,141] 0x12110) (hF) (GI (rest:=[(q.ad 1,fO (vw V5 g.ck ke (.ref (q.ad 0))) az)]) h (.head _) ⟨_,k,.inr l⟩) ((⟨_,_,rfl,hx⟩:nL T (.str x tx))) ((by decide:(-1:Int)<0)) (GH (x:=n.hs 0) (ns:=M7) (vs:=f.mX tm v mk du++[.ref a]) (sl:=sl)) (fj hd:e.dp+0+60<900) (λ(d:Array (Option aa))(y:ae)(r:dR)(i:ae)(oT:dR)(t:ae)(u:aX)(m:gI (dZ "ValueError") (ao t) i r oT)(w:Nw)=>(Xa (s y r i oT t u d m) 0)))
theorem GK(l:bj b (wG b [0,1] (gV es) (nL T) a))(q:∀ke o y i T oT t u sl,bZ o->gI (.type "ValueError") (.ref t) T i oT->P y [(g.L,.fs (f.mX tm v mk du++[.ref a]) sl),(y,.ob i),(T,.ob oT),(141,.fr (j6 ka kb kc ke)),(t,.ls [.str l4 u]),(ke,.fr o)]):DS b e (kJ g p) (GG (bE Hk 0)) g.en (sW af) (g.qq (f.mX tm v mk du++[.ref a]) sl (mW ka kb kc)) (k1 [.fs M7,.ob,.ob,.tb,.tp,.fl "code"]) (L6 P):=DS.run G [⟨_,_,ha⟩,⟨_,_,yC⟩,⟨_,_,xm⟩] [e8 xm (.str x tx),⟨_,l⟩] (oo 0x64d321719214311112f912f611111371777522 []) λ n=>c4 (E [tg,g.5,g.1] 0x12210000) (@rfl ae tg) (hz) (λ(d:Nw)=>c8 (E [g.1,a,141] 0x12222110) (hF) (GI (rest:=[(d.ad 7,fO (vw V5 g.ck (d.ad 6) (.ref (d.ad 0))) az),(d.ad 6,hU (BJ 196 d.ad (d.tk 2) (d.tk 3) (d.tk 4) (d.tk 7) (d.tk 8)))]) h (.head _) ⟨_,jw,.inl (.tail _ (.head _))⟩) ((⟨_,_,rfl,hx⟩:nL T (.str x tx))) ((by decide:(-1:Int)<0)) (GH (x:=n.hs 0) (ns:=M7) (vs:=f.mX tm v mk du++[.ref a]) (sl:=sl)) (fj hd:e.dp+0+60<900) (λ(j:Array (Option aa))(y:ae)(i:dR)(k:ae)(oT:dR)(t:ae)(u:aX)(m:gI (dZ "ValueError") (ao t) k i oT)(r:Nw)=>(Xa (q (d.ad 6) (BJ 196 d.ad (d.tk 2) (d.tk 3) (d.tk 4) (d.tk 7) (d.tk 8)) y i k oT t u j jw m) 0)))
end
theorem K8{a y t T:ae}{u:aX}{tv:List aa}{dk:Option ae}{more us:List aa}{cT d u1 u2:aa}{dT:Option ae}(i:e.un+600<9900)(j:K 0 (.ok .next) (g.qq (f.mX tm v mk du++[.ref a]) sl tv) []):Do b e (kJ g p) (Lh (.ref y) g.en QM) id [.fs M7,.ob,.ob,.tb,.tp] [(g.L,.fs (f.mX tm v mk du++[.ref a]) sl),(y,.ob ⟨.type "ValueError",dk,.fields (.ref t::.ref T::more).toArray,s1⟩),(T,.ob ⟨cT,dT,.fields (d::u1::u2::.none::us).toArray,s2⟩),(141,.fr tv),(t,.ls [.str l4 u])] (k1 (sW af)) K:=DH.run G [] [] (oo 0x533136361111523131112111236414111 []) λ n=>c3 (E [y,t,g.1,T] 0x1003322210) ((by exact li 0x126ac402101103113126ac402583031111 [e.2] rfl i):e.un+1+2<9900) (λ(k:Nw)=>c2 (E [g.1] 0x10000) (j))
end
theorem GL(i:Nat)(h:i<4):∃a,bE uE i=ab (.ref a):=by
 rcases i with _|_|_|_|i;.exact⟨_,rfl⟩
 .exact⟨_,rfl⟩
 .exact⟨_,rfl⟩
 .exact⟨_,rfl⟩
 .exact absurd h (fp.mpr (Nq 4 i))
theorem YN(c:vs[0]?=ab a)(d:vs[1]?=ab b):∃more,vs=(a::b::more).toArray:=by obtain⟨l⟩:=vs;match l,c,d with|x::y::l,c,d=>exact⟨l,by cases c;cases d;rfl⟩|[_],_,d=>cases d|[],c,_=>cases c
theorem YO(h:vs[3]?=ab a):∃c u1 u2 us,vs=(c::u1::u2::a::us).toArray:=by obtain⟨l⟩:=vs;match l,h with|x::y::z::u::l,h=>exact⟨x,y,z,l,by cases h;rfl⟩|[_,_,_],h=>cases h|[_,_],h=>cases h|[_],h=>cases h|[],h=>cases h
theorem QO:QM.isEmpty=af:=by kernel_rfl
theorem GN:∃h c,QM=h::c:=by have e:=QO;induction h:QM with|nil=>rw [h]at e;cases e|cons a l=>exact⟨a,l,rfl⟩
noncomputable def nmE:bO->aR|.Name x _=>x|_=>default
theorem QP:RB=.Name (nmE RB) (aY RB):=by kernel_rfl
noncomputable def QQ:Bool->List Kd|ah=>[.fl "code"]|af=>[]
noncomputable def M8(q:Bool)(ke:ae)(c:List aa):List eK:=match q with|ah=>[(ke,.fr c)]|af=>[]
section
variable{b:Bs}(G:Good b){g:LA}{p:Gp}{f:LF}{tm:aX}{v:aa}{mk du ka kb kc ke:ae}{e:Ev}{sl:Array (Option aa)}{a tg:ae}{zs:List aa}{ez:Nat}{x:aR}{tx:aX}{T:List aR}{es:Array aj}{kd:ae}{ep:Nat}{fd:eL}{dk:Option ae}(hF:l_ e.rT [g.L])(hd:e.dp+100<900)(hu:e.un+600<9900)(yC:bN b g.cg (iF (ab (.ref tg))))(xm:bN b tg (lO zs ez))(hz:(0:Int)<=0/\zs.length<=1048576/\bE zs (0:Int).toNat=ab (.str x tx))(hx:x∈T)(h:qQ b g.ck kd T es ep)(ha:bN b a (fO fd dk))
include G hF hd hu yC xm hz hx h ha
theorem YP(q:Bool)(F:∀sel,bj b (wG b sel (gV es) (nL T) a))(L:q=af->∃m,bZ m/\iN b ke (hU m)):DS b e (kJ g p) Hk g.en (sW af) (g.qq (f.mX tm v mk du++[.ref a]) sl (V4 q ka kb kc ke)) (k1 (sW af++QQ q)) (λ j r vs tl=>r=.ok .next/\tl=[]/\∃o c d,bZ d/\(q=af->c=ke)/\vs=g.qq (f.mX tm v mk du++[.ref a]) o (j6 ka kb kc c)++M8 q c d):=λ H s0 C0 s a3=>by
 have hb:DS b e (kJ g p) (GG (bE Hk 0)) g.en (sW af) (g.qq (f.mX tm v mk du++[.ref a]) sl (V4 q ka kb kc ke)) (k1 ([.fs M7,.ob,.ob,.tb,.tp]++QQ q)) (L6 λ y vs=>∃n T oT t u sl c m,bZ m/\(q=af->c=ke)/\gI (.type "ValueError") (.ref t) T n oT/\vs=[(g.L,.fs (f.mX tm v mk du++[.ref a]) sl),(y,.ob n),(T,.ob oT),(141,.fr (j6 ka kb kc c)),(t,.ls [.str l4 u])]++M8 q c m):=by induction q with|true=>exact GK G hF hd yC xm hz hx h ha (F _) λ ke m y n T oT t u sl k I=>⟨n,T,oT,t,u,sl,ke,m,k,nofun,I,rfl⟩|false=>obtain⟨m,k,hk⟩:=L rfl;exact K7 G hF hd yC xm hz hx h ha (F _) k hk λ y n T oT t u sl I=>⟨n,T,oT,t,u,sl,ke,m,k,λ M=>rfl,I,rfl⟩
 obtain⟨h0,hs,J⟩:=GN;rw [K3,J];refine ki (DY (aQ (hb H s0 C0 s a3) (λ M s1 N=>N.out λ j vs tl B z C=>z.elim λ M h=>(by injection h.1)) λ y s1 N=>N.out λ j vs tl B z C=>?_));obtain⟨y,O,rfl,n,T',oT,t,u,o,c,d,k,hq,I,rfl⟩:=z;cases nP O;rw [<-J];obtain⟨l,e2,P⟩:=hF
 induction l with
  |nil=>exact P.elim
  |cons v0 l=>
   rw [x6 P.1.1.symm];have C:At b s0 C0 s1 (([(g.L,LN (B 0) (.fs M7) (.fs (f.mX tm v mk du++[.ref a]) o))]++[(y,n),(T',oT)])++(d' (λ j=>B (j+3)) ([.tb,.tp]++QQ q) ([(141,.fr (j6 ka kb kc c)),(t,.ls [.str l4 u])]++M8 q c d))):=by rw [aA]at C;exact C
   refine CY (At.start C.R.left) (λ p hp=>by cases ay.mp hp;exact GH) e2 P I λ s2 A ox T2 Q a5 R=>?_;have a6:=C.upd a5.T;obtain⟨hc,⟨vs,S,U,V⟩,ts,Y,h3⟩:=R;obtain⟨c1,dk1,dt1,sl1⟩:=ox;obtain⟨c2,dk2,dt2,Uu⟩:=Q;obtain⟨more,rfl⟩:=YN U V;obtain⟨u0,u1,u2,us,rfl⟩:=YO h3;cases hc;cases S;cases Y;refine Do.take (D:=d' (λ j=>B (j+5)) (QQ q) (M8 q c d)) (H:=B) G a6 (λ b' G' X hr=>K8 G' hu (K:=λ M r vs tl=>r=.ok .next/\tl=[]/\vs=g.qq (f.mX tm v mk du++[.ref a]) (A g.L) (j6 ka kb kc c)) ⟨rfl,rfl,rfl⟩) (λ j w Z tl H2 s3 z a8=>?_) λ j x Z tl H2 s3 z a8=>by cases z.1
   obtain⟨O,rfl,rfl⟩:=z;cases cA O;rw [aA]at a8;exact⟨0,g.qq (f.mX tm v mk du++[.ref a]) (A g.L) (j6 ka kb kc c)++M8 q c d,[],λ j=>match j with|0=>H2 0|1=>H2 1|j+2=>B (j+5),⟨rfl,rfl,A g.L,c,d,k,hq,rfl⟩,by rw [aA];exact a8⟩
end
noncomputable def cxD(q:Bool)(ke:ae)(c:List aa):Cells:=match q with|ah=>[(ke,hU c)]|af=>[]
theorem QR(q:Bool):d' H (QQ q) (M8 q ke cv)=cxD q ke cv:=by induction q<;>rfl
noncomputable def K9(a:ae):Prop:=∀b,Good b->(∃fd dk,bN b a (fO fd dk))/\∀sel g ok,bj b (wG b sel g ok a)
section
variable{g:LA}{p:Gp}{f:LF}{tm:aX}{v:aa}{mk du ka kb kc ke tu:ae}{e:Ev}{tg:ae}{zs:List aa}{ez:Nat}{x:aR}{tx:aX}{T:List aR}{es:Array aj}{kd:ae}{ep:Nat}(hF:l_ e.rT [g.L])(hd:e.dp+100<900)(hu:e.un+600<9900)(hz:(0:Int)<=0/\zs.length<=1048576/\bE zs (0:Int).toNat=ab (.str x tx))(hx:x∈T)
include hF hd hu hz hx
theorem GO{b:Bs}(G:Good b)(yC:bN b g.cg (iF (ab (.ref tg))))(xm:bN b tg (lO zs ez))(h:qQ b g.ck kd T es ep){q:Bool}(y:q=af->∃z,bZ z/\iN b ke (hU z)){sl:Array (Option aa)}{i:Int}{a P:ae}(hi:0<=i/\bE uE i.toNat=ab (.ref a))(hA:K9 a){H A:Hs}{s0 s:aD}{C0:Cells}{R:dq->aD->Prop}(B:At b s0 C0 s (d' H tU [(p.it,.fr [.ref tu,.int i 0]),(tu,.ls uE)]++d' A (sW q) (g.qq (dT q (f.mX tm v mk du) P) sl (V4 q ka kb kc ke))))(Q:∀H A L k c d,bZ d->(q=af->c=ke)->At b s0 C0 L ((d' H tU [(p.it,.fr [.ref tu,.int (i+1) 0]),(tu,.ls uE)]++d' A (sW af) (g.qq (f.mX tm v mk du++[.ref a]) k (j6 ka kb kc c)))++cxD q c d)->bx (aW b.prog b.w) e.ar (kJ g p) R L):bx (aW b.prog b.w) e.ar (kJ g p) R s:=by
 have C:∀v,gZ RB (.ref p.it) v=pure ():=λ v=>by rw [QP];rfl
 refine rC (Do.take G B (λ M o X S=>K5 o hi (K:=λ Z r l tl=>r=.ok (.ret (.ref a))/\tl=[]/\l=[(p.it,.fr [.ref tu,.int (i+1) 0]),(tu,.ls uE)]) ⟨rfl,rfl,rfl⟩) (λ j u l tl D U m N=>?_) λ j x l tl D U m N=>by cases m.1);obtain⟨O,rfl,rfl⟩:=m
 induction u with
  |none=>exact(by injection O with h;injection h)
  |some u=>
   cases eU (cA O);dsimp only;rw [C,aA]at*;refine bG ?_;refine Do.take (f:=id) (K:=λ j r vs tl=>r=.ok .next/\tl=[]/\∃k c d,bZ d/\(q=af->c=ke)/\vs=g.qq (f.mX tm v mk du++[.ref a]) k (j6 ka kb kc c)++M8 q c d) (ks':=k1 (sW af++QQ q)) G (N.perm bD) (λ M o X S=>?_) (λ j w l tl t F m n=>?_) λ j x l tl t F m n=>by cases m.1
   .obtain⟨⟨fd,dk,ha⟩,I⟩:=hA M o;exact DB.cut 0 (K6 o q ⟨rfl,rfl,YP o hF hd hu (X.h _ _ yC) (X.h _ _ xm) hz hx (h.ext X) ha q (λ sel=>I sel _ _) λ e=>(y e).imp λ z h=>⟨h.1,h.2.ext X⟩⟩)
   .obtain⟨V,rfl,k,c,d,J,Y,rfl⟩:=m;cases(cA V:w=.next);rw [aA]at n;have n:At b s0 C0 F ((d' t (sW af) (g.qq (f.mX tm v mk du++[.ref a]) k (j6 ka kb kc c))++d' (λ j=>t (j+2)) (QQ q) (M8 q c d))++d' D tU [(p.it,.fr [.ref tu,.int (i+1) 0]),(tu,.ls uE)]):=n;rw [QR]at n;exact Q D t F k c d J Y (n.perm (bD.trans (by rw [bb])))
theorem YQ{b:Bs}(G:Good b)(yC:bN b g.cg (iF (ab (.ref tg))))(xm:bN b tg (lO zs ez))(h:qQ b g.ck kd T es ep){w:List aa}(y:bZ w)(z:iN b ke (hU w))(hA:∀i a,bE uE i=ab (.ref a)->K9 a){s0:aD}{C0:Cells}{R:dq->aD->Prop}(F:∀H n sl a,At b s0 C0 n (d' H (sW af) (g.qq (f.mX tm v mk du++[.ref a]) sl (j6 ka kb kc ke)))->R (.ok .next) n):∀(m i:Nat),i+m=4->∀{H l:Hs}{s:aD}{sl:Array (Option aa)}{o:ae},At b s0 C0 s (d' H tU [(p.it,.fr [.ref tu,.int i 0]),(tu,.ls uE)]++d' l (sW af) (g.qq (f.mX tm v mk du++[.ref o]) sl (j6 ka kb kc ke)))->bx (aW b.prog b.w) e.ar (kJ g p) R s:=by
 intro m
 induction m with
  |zero=>intro i hi H l s sl o c;cases(show i=4 from hi);refine rC (Do.take G c (λ Q I X S=>GJ I (K:=λ C r d tl=>r=.ok .next/\tl=[]/\d=[]) (i:=((4:Nat):Int)) ⟨by decide,rfl⟩ ⟨rfl,rfl,rfl⟩) (λ j u d tl J D A k=>?_) λ j x d tl J D A k=>by cases A.1);obtain⟨L,rfl,rfl⟩:=A;cases u with|none=>exact F l D sl o k|some u=>exact(by injection L with h;injection h)
  |succ m M=>
   intro i hi H l s sl o c
   have t:∃a,bE uE i=ab (.ref a):=by
    have:i<4:=by exact li 0x14103324101104131111 [i,m] rfl hi
    exact GL i this
   obtain⟨a,t⟩:=t;refine GO hF hd hu hz hx G yC xm h (q:=af) (λ C=>⟨w,y,z⟩) ⟨aS _,by rw [bq];exact t⟩ (hA i a t) c λ H l n B N O C P k=>?_;cases P rfl;have k:At b s0 C0 n ((d' H tU [(p.it,.fr [.ref tu,.int (i+1) 0]),(tu,.ls uE)]++d' l (sW af) (g.qq (f.mX tm v mk du++[.ref a]) B (j6 ka kb kc ke)))++[]):=k;rw [aA]at k;exact M (i+1) (a7 (li 0x4104110311324101104131111 [i,m] rfl hi) (li 0x4110311410321104131410111 [i,m] rfl hi.symm)) k
end
noncomputable def U'(g:LA)(f:LF)(tm:aX)(v:aa)(mk du ka kb kc:ae):Sp:=HU (.of yx (kJ g)) [.fr [.re,.it],.ls,.fv,.fv] [.fl "tuple_iterator",.tp,.fr V3,.tb] (k1 (sW af)) λ p tu i j xs d tv=>([g.L],⟨[p.it,tu,g.L,141],λ k l m=>[k+100<900,l+600<9900,xs=uE/\i=0/\j=0/\d=f.mX tm v mk du/\tv=mW ka kb kc],λ K=>∀sl a ke c,bZ c->K 0 (.ok .next) (g.qq (f.mX tm v mk du++[.ref a]) sl (j6 ka kb kc ke)) [(ke,hU c)]⟩)
section
variable{b:Bs}(G:Good b){g:LA}{f:LF}{tm:aX}{v:aa}{mk du ka kb kc:ae}{tg:ae}{zs:List aa}{ez:Nat}{x:aR}{tx:aX}{T:List aR}{es:Array aj}{kd:ae}{ep:Nat}(hz:(0:Int)<=0/\zs.length<=1048576/\bE zs (0:Int).toNat=ab (.str x tx))(hx:x∈T)(yC:bN b g.cg (iF (ab (.ref tg))))(xm:bN b tg (lO zs ez))(h:qQ b g.ck kd T es ep)(hA:∀i a,bE uE i=ab (.ref a)->K9 a)
include G hz hx yC xm h hA
theorem QS:bj b (U' g f tm v mk du ka kb kc):=NR λ p tu i I xs d tv e rest K hF hd hu t u H s0 C0 s m=>by obtain⟨rfl,rfl,rfl,rfl,rfl⟩:=t;have m:At b s0 C0 s (d' H tU [(p.it,.fr [.ref tu,.int 0 0]),(tu,.ls uE)]++d' (λ j=>H (j+2)) (sW ah) (g.qq (dT ah (f.mX tm v mk du) 0) #[] (V4 ah ka kb kc 0))):=m;refine GO hF hd hu hz hx G yC xm h (q:=ah) nofun ⟨aN _,rfl⟩ (hA 0 50 rfl) m λ H w y n ke c k J l=>?_;have l:At b s0 C0 y ((d' H tU [(p.it,.fr [.ref tu,.int ((1:Nat):Int) 0]),(tu,.ls uE)]++d' w (sW af) (g.qq (f.mX tm v mk du++[.ref 50]) n (j6 ka kb kc ke)))++[(ke,hU c)]):=l;obtain⟨z,A,X,B,C⟩:=rebase G l.R;have D:iN z ke (hU c):=⟨C _ (.head _),G.oH l.R (p:=(ke,hU c)) (aq _ (.head _))⟩;rw [<-X.prog,<-X.w];refine YQ hF hd hu hz hx A (X.h _ _ yC) (X.h _ _ xm) (h.ext X) k D hA (λ F L Uu r o=>?_) 3 1 rfl (At.start B);exact⟨0,g.qq (f.mX tm v mk du++[ao r]) Uu (j6 ka kb kc ke),[(ke,hU c)],F,u Uu r ke c k,l.upd o.T⟩
end
noncomputable def fdOf(o:dR):eL:=match o.data with|.func fd=>fd|_=>default
noncomputable def RC(P:mY)(a:ae):dR:=((kt P).get a).getD default
theorem Au(G:Good b)(e:∀P,(kt P).get a=ab (fO (fdOf (RC P a)) (RC P a).dict)):∃fd dk,bN b a (fO fd dk):=⟨_,_,G.kt a _ (e _)⟩
theorem K_(i:Nat)(a:ae)(h:bE uE i=ab (.ref a)):K9 a:=by
 rcases i with _|_|_|_|i;.cases h;exact λ b G=>⟨Au G λ P=>by unfold RC kt;kernel_rfl,λ sel g ok=>Oa G sel g ok⟩
 .cases h;exact λ b G=>⟨Au G λ P=>by unfold RC kt;kernel_rfl,λ sel g ok=>Ob G sel g ok⟩
 .cases h;exact λ b G=>⟨Au G λ P=>by unfold RC kt;kernel_rfl,λ sel g ok=>Oe G sel g ok⟩
 .cases h;exact λ b G=>⟨Au G λ P=>by unfold RC kt;kernel_rfl,λ sel g ok=>Of G sel g ok⟩
 .injection h
noncomputable def YR:Option ea->bO|ab (.Return (ab x) _)=>x|_=>default
noncomputable def RD:bO:=YR (bE (aP 23) 15)
noncomputable def YS:bO:=MN (xE RD 1)
theorem GP:aC 15 (aP 23)=[.Return (ab (.Compare (xE RD 0) [.Eq] [xE RD 1] (aY RD))) (kP (bE (aP 23) 15))]:=by kernel_rfl
theorem DS.ret{b:Bs}{e:Ev}{c:aT}{ks:List Kd}{vs:List eK}{ks':Nat->List Kd}{K:Kv}{env:fJ}(h:DE b e c x env ks vs ks' K):DS b e c (.Return (ab x) p::rest) env ks vs ks' K:=λ H s0 C0 s a=>by rw [gP];refine au ?_;show a_ _ _ _ (eR p>>=λ d=>(dh x env>>=λ v=>pure (nO v))) _ _ _;exact au (bU (bI (au (aQ (h H s0 C0 s a) (λ v j i=>bG (bG i)) λ d d x=>x))))
theorem K'(G:Good b)(h:qQ b ck kd T es ep)(a:bZ cv)(c:bN b kc (hU cv))(d:bN b kf (fO (vw YS ck kc tu) az)):bj b (gc kf (lk (gV es)) (nL T)):=ct λ v e rest K j k i=>by obtain⟨x,t,rfl,l⟩:=j;obtain⟨u,m⟩:=h.val l;obtain⟨o,q,ct,r,rfl⟩:=a;have i:∀t,K 0 (.ok (.ret (.int (pq es x) t))) [] []:=i;exact dg.run G [⟨_,_,d⟩,⟨_,_,c⟩,⟨_,_,h.ck⟩,⟨_,_,h.kd⟩] [lC G h.kd h.ok.d m] (oo 0x111139199927112532 []) λ n=>c4 (jf k:e.dp+0<1000) (E [kd,n.1 0,ck,kf,kc] 0x14311210000) (c2 (@rfl ae kd) (@rfl aR x)) (λ(p:Nw)=>i u)
theorem QT(h:qQ b ck kd T es ep)(c:(kf,fO (vw YS ck kc tu) az)∈rest)(d:vP b rest kc):km b rest kf (lk (gV es)) (nL T):=λ k G X a=>d.elim λ l y=>y.elim λ i j=>⟨⟨_,_,(a _ c).1⟩,K' G (h.ext X) i (j.in X a).1 (a _ c).1⟩
section
variable{b:Bs}(G:Good b){g:LA}{f:LF}{tm:aX}{v:aa}{mk du ka kb kc ke kd:ae}{e:Ev}{K:Kv}{T sn:List aR}{es:Array aj}{ep:Nat}(h:qQ b g.ck kd T es ep)
include G h
theorem BN{tg:ae}{d:List aa}{l:Nat}{x:aR}{tx:aX}(m:l_ e.rT [])(o:e.dp+400<900)(p:e.un+700<9900)(q:(0:Int)<=0/\d.length<=1048576/\bE d (0:Int).toNat=ab (.str x tx))(r:x∈T)(i:bN b g.cg (iF (ab (.ref tg))))(j:bN b tg (lO d l))(s:∀sl a ke c,bZ c->K 0 (.ok .next) (g.qq (f.mX tm v mk du++[.ref a]) sl (j6 ka kb kc ke)) [(ke,hU c)]):DS b e (bK g) (cj 1 (aC 14 (aP 23))) g.en pv (g.K2 f tm v mk du (mW ka kb kc)) (k1 (sW af)) K:=DS.run G [] [⟨_,QS (f:=f) (tm:=tm) (v:=v) (mk:=mk) (du:=du) (ka:=ka) (kb:=kb) (kc:=kc) G q r i j h K_⟩] (oo 0x3214143215132121221111 []) λ n=>c7 (E [n.1 1,n.1 0,g.1,141] 0x111103210) (@rfl aT (kJ g (yx (ic (cC (aG "deed") (bB 194 8 194 12)) (ao (n.ad 1)) [Stmt.Try [rR ((cC (aG "deed") (bB 196 12 196 16)).Call [cC (aG "rank") (bB 196 17 196 21),(cC (aG "tags") (bB 196 23 196 27)).Subscript (iJ (vW 0) 0 (bB 196 28 196 29)) (bB 196 23 196 30),xF vK (iJ (vW 1) 0 (bB 196 33 196 34)) (bB 196 32 196 34)] [oq (ab (aG "key")) (nR (k9 [] [G9 (aG "one") az (bB 196 47 196 50)] az [] [] az []) ((cC (aG "known") (bB 196 52 196 57)).Subscript (cC (aG "one") (bB 196 58 196 61)) (bB 196 52 196 62)) (ua iv [(aG "one",NameKind.local),(aG "known",tA)] af af []) (bB 196 40 196 62)) (bB 196 36 196 62)] (bB 196 12 196 63)) (bB 196 12 196 63),Vv (ab (iJ (Vw af) 0 (bB 197 19 197 24))) (bB 197 12 197 24)] [Vx (ab (cC (aG "ValueError") (bB 198 15 198 25))) (ab (aG "wrong")) [Stmt.If (((cC (aG "str") (bB 199 15 199 18)).Call [cC (aG "wrong") (bB 199 19 199 24)] [] (bB 199 15 199 25)).Compare [CmpOp.NotEq] [iJ (Const.str (aG "lo must be non-negative")) 0 (bB 199 29 199 54)] (bB 199 15 199 54)) [Vv (ab (iJ (Vw af) 0 (bB 200 23 200 28))) (bB 200 16 200 28)] [] (bB 199 12 200 28)] (bB 198 8 200 28)] [] [] (bB 195 8 200 28)] [] g.en)))) (c2 (@rfl ae g.L) (m)) (fj o:e.dp+1+100<900) ((by exact li 0x126ac40258303103113126ac402bc3031111 [e.2] rfl p):e.un+3+600<9900) (c5 (@rfl (List aa) ([ao 50,ao 32,ao 41,ao 23])) (@rfl Int 0) (@rfl aX 0) (@rfl (List aa) ([ao f.rw,d3 ah,ak f.top f.t1,ak f.V f.t2,ao f.bs,ao f.fd,ao f.sd,ak f.V tm,ao f.rk,ao f.sh,v,ao mk,ao du])) (@rfl (List aa) ([ak 186 0,ak 36 0,ao ka,ak 187 0,ak 36 0,ao kb,ak 188 0,ak 80 0,ao kc]))) (λ(sl:Array (Option aa))(a:ae)(ke:ae)(c:List aa)(k:bZ c)(t:Nw)=>s sl a ke c k)
theorem GQ{sl:Array (Option aa)}{tv:List aa}{a:ae}:DE b e (bK g) (xE RD 0) g.en (sW af) (g.qq (f.mX tm v mk du++[.ref a]) sl tv) (k1 (sW af)) (eM (.ref f.rk) (g.qq (f.mX tm v mk du++[.ref a]) sl tv)):=DE.run G [] [] (oo 0x21312 []) λ n=>c2 (E [g.1] 0x10) (iG (.ref f.rk) (g.qq (f.mX tm v mk du++[.ref a]) sl tv))
theorem GR{sl:Array (Option aa)}{a:ae}{ys:List aa}{l:Nat}{D:Nat->aa->List eK->Prop}(o:e.dp+400<900)(p:bN b g.ca (iF (ab (.ref f.ag))))(k:bN b f.ag (lO ys l))(q:bl ys sn)(r:sn.length<64)(s:∀y∈sn,y∈T)(t:∀m c d u,bl c d->Rk qP (pq es) sn d->D 0 (.ref m) [(m,.ls c),(141,.fr u)]):DE b e (bK g) (xE RD 1) g.en (sW af) (g.qq (f.mX tm v mk du++[.ref a]) sl (j6 ka kb kc ke)) (k1 [.ls,.tb]) (iS D):=DE.run G [⟨_,_,p⟩,⟨_,_,k⟩] [⟨_,QF G [0,1] es T sn k ⟨q,r,s⟩⟩] (oo 0xb131113111112f912f61311 []) λ n=>c6 (E [141,g.7] 0x110000) ((@rfl aT (qo (f.ag,n.ad 7)))) ((@rfl ae f.ag)) (QT (rest:=[(n.ad 7,fO (vw YS g.ck (n.ad 6) (.ref (n.ad 0))) az),(n.ad 6,hU (BJ 201 n.ad (n.tk 0) (n.tk 1) (n.tk 2) (n.tk 5) (n.tk 6)))]) h (.head _) ⟨_,jw,.inl (.tail _ (.head _))⟩) (fj o:e.dp+1+60<900) (λ(m:ae)(c:List aa)(d:List aR)(i:bl c d)(j:Rk qP (pq es) sn d)(w:Nw)=>w8 (t m c d (j6 ka kb kc ke++[.int 201 0,.int 37 0,.ref (n.ad 6)]) i j))
theorem Va{sl:Array (Option aa)}{a:ae}{us ys:List aa}{p q:Nat}{n:List aR}(r:e.dp+400<900)(t:e.un+700<9900)(u:bN b g.ca (iF (ab (.ref f.ag))))(w:bN b f.ag (lO ys q))(d:bN b f.rk (lO us p))(x:bl ys sn)(z:sn.length<64)(A:∀y∈sn,y∈T)(i:sn.Nodup)(B:Rk qP (pq es) sn n)(k:bl us n)(C:∀j m c o,K j (.ok (.ret (.bool ah))) [(m,.ls c),(141,.fr o)] []):DS b e (bK g) (aC 15 (aP 23)) g.en (sW af) (g.qq (f.mX tm v mk du++[.ref a]) sl (j6 ka kb kc ke)) (k1 [.ls,.tb]) K:=by have l:(e.ar.under (bK g)).units<9900:=sI (li 0x126ac408220313126ac402bc3031111 [e.2] rfl t);refine DS.text GP (DS.ret (DE.yn (by kernel_rfl) (DE.iG (GQ G h) (GR G h r u w x z A λ m c I o D F=>⟨ah,λ H s R=>?_,C _ _ _ _⟩))));induction B.MT i F;exact JR (R.jq _ _ d.1 d.2) (R.own _ (b7 0 rfl:(m,lO c (H 0).e)∈_)) l (iT.tags k D)
end
theorem vy:∀(i m:Nat),m.testBit i=af->∀j,(m+2^i).testBit j=(m.testBit j||decide (j=i))|0,m,h,0=>by rw [iw]at h;rw [iw,iw,decide_eq_true (show 0=0 from rfl),Bool.or_true];have:=of_decide_eq_false h;exact decide_eq_true (by lia)|0,m,h,j+1=>by rw [iw]at h;have:=of_decide_eq_false h;rw [jy,jy,show(m+2^0)/2=m/2 by lia,decide_eq_false (s8 j),vY]|i+1,m,h,0=>by rw [iw,iw,decide_eq_false (s8 i).symm,vY,rg,Nat.add_mul_mod_self_right]|i+1,m,h,j+1=>by rw [jy]at h;rw [jy,jy,rg,Nat.add_mul_div_right _ _ (by decide),vy i (m/2) h j];congr 1;exact decide_eq_decide.mpr ⟨λ h=>h▸rfl,ov⟩
theorem La(h:f.testBit i=ah):(f-2^i).testBit i=af/\f=(f-2^i)+2^i:=by have e:f=(f-2^i)+2^i:=(aH (vV h)).symm;refine⟨?_,e⟩;rw [e,il,Nat.testBit_two_pow_add_eq]at h;exact i6 _|>.mp h
noncomputable def lL(m:Nat)(P:Nat->Prop):Prop:=∀j,m.testBit j=ah↔P j
theorem lL.no(h:lL m P)(hi:¬P i):m.testBit i=af:=by induction e:m.testBit i with|false=>rfl|true=>exact absurd ((h i).mp e) hi
theorem lL.add(h:lL m P)(hi:¬P i):lL (m+2^i) λ j=>P j\/j=i:=λ j=>by rw [vy i m (h.no hi) j,ta,h j,decide_eq_true_iff]
theorem lL.zero(h:lL m P)(a:∀j,¬P j):m=0:=fM λ j=>by rw [h.no (a j),s9]
theorem vz{ts:List aR}{x:aR}(h:x∈ts):ts[ts.idxOf x]?=ab x/\ts.idxOf x<ts.length:=by have a:=lh.mpr h;exact⟨by rw [aJ a,Ci],a⟩
theorem Lb{ts:List aR}{x y:aR}(a:x∈ts)(b:y∈ts)(h:ts.idxOf x=ts.idxOf y):x=y:=bw ((vz a).1.symm.trans ((congrArg (ts[·]?) h).trans (vz b).1))
theorem sX{c0:Int}:∀(sn:List aR),sn.Nodup->(∀x∈sn,x∈tags)->∃m:Nat,(sn.map (kI c0 tags)).sum=(m:Int)/\lL m λ j=>∃x∈sn,j=(Z.modQ c0 23).toNat+tags.idxOf x:=by
 intro sn
 induction sn with
  |nil=>intro _ _;exact⟨0,rfl,λ j=>by rw [s9];exact⟨λ h=>(by injection h),λ y=>y.elim λ x y=>y.elim λ h n=>(absurd h ax)⟩⟩
  |cons x sn f=>
   intro g c;obtain⟨i,k⟩:=bM.mp g;obtain⟨m,e,l⟩:=f k λ y b=>c y (.tail _ b);refine⟨m+2^((Z.modQ c0 23).toNat+tags.idxOf x),?_,λ j=>((l.add λ⟨y,b,d⟩=>?_) j).trans ⟨λ h=>h.elim (λ a=>a.elim λ y a=>a.elim λ b d=>⟨y,.tail _ b,d⟩) λ h=>⟨x,.head _,h⟩,λ a=>a.elim λ y a=>(aF.mp a.1).elim (λ e=>.inr (e▸a.2)) λ h=>.inl ⟨y,h,a.2⟩⟩⟩;.rw [bu,gC,e];unfold kI;have c:=GA c0;rw [show(Z.modQ c0 23+((tags.idxOf x:Nat):Int)).toNat=(Z.modQ c0 23).toNat+tags.idxOf x by lia,Int.add_comm];push_cast;rfl
   .have:=Lb (c x (.head _)) (c y (.tail _ b)) (Nat.add_left_cancel d);exact i (this▸b)
theorem BO:∀(n i f:Nat)(ps:List Nat),n+i=32->lL f (·∈ps)->ps.Pairwise (·<·)->(∀p∈ps,i<=p)->(∀p∈ps,p<32\/p=40)->rF n i f=if ps=[]then [mL 0]else ps.map pY:=by
 intro n
 induction n with
  |zero=>
   intro i f ps k d q hi l;rw [rF]
   induction ps with
    |nil=>rw [d.zero λ j h=>(absurd h ax)];rfl
    |cons a ps=>
     have s:a=40:=(l a (.head _)).elim (λ h=>by have:=hi a (.head _);exact a7 (li 0x282033120203111 [a] rfl h) (li 0x428203043911120204811230012020911 [i,a] rfl k.symm h this)) id;subst s
     induction ps with
      |nil=>
       have e:f=2^40:=fM λ j=>by
        rw [pE];by_cases h:40=j;.rw [decide_eq_true h];exact(d j).mpr (h▸.head _)
        .rw [decide_eq_false h];exact d.no λ r=>h (ay.mp r).symm
       rw [e,if_neg (λ h=>(by injection h))];rfl
      |cons b ps=>
       have m:=(bA.mp q).1 b (.head _);rcases l b (.tail _ (.head _))with h|h;.lia
       .exact(li 0x228203111132820111 [b] rfl m h).elim
  |succ n o=>
   intro i f ps k d q hi l;rw [rF];by_cases ht:f.testBit i=ah
   .rw [if_pos ht];have r:=(d i).mp ht
    induction ps with
     |nil=>exact(absurd r ax)
     |cons a ps=>
      obtain⟨m,v⟩:=bA.mp q
      have s:a=i:=by
       rcases aF.mp r with h|h;.exact h.symm
       .have:=m i h;have:=hi a (.head _);lia
      subst s
      have g:lL (f-2^a) (·∈ps):=λ j=>by
       obtain⟨u,c2⟩:=La ht;have c3:=d j;rw [c2,vy a _ u j,ta,decide_eq_true_iff]at c3;refine⟨λ h=>?_,λ h=>(c3.mpr (.tail _ h)).elim id λ e=>absurd (m j h) (e▸fS _)⟩;rcases aF.mp (c3.mp (.inl h))with e|t;.rw [e,u]at h;cases h
       .exact t
      rw [if_neg (List.cons_ne_nil a ps),bu];congr 1;have w:=o (a+1) (f-2^a) ps (a7 (li 0x202011041313220204110311111 [n,a] rfl k) (li 0x110413120203241103112020111 [n,a] rfl k.symm)) g v (λ p h=>m p h) λ p h=>l p (.tail _ h)
      induction ps with
       |nil=>rw [if_pos (g.zero λ j h=>(absurd h ax))];rfl
       |cons c ps=>
        rw [if_neg (λ h=>?_)];.exact w
        have:=(g c).mpr (.head _);rw [h,s9]at this;cases this
   .rw [if_neg ht];refine o (i+1) f ps (a7 (li 0x202011041313220204110311111 [n,i] rfl k) (li 0x110413120203241103112020111 [n,i] rfl k.symm)) d q (λ p h=>?_) l;rcases dy (hi p h)with t|rfl;.exact t
    .exact absurd ((d i).mpr h) ht
theorem xn(a:lL f (·∈ps))(b:ps.Pairwise (·<·))(c:∀p∈ps,p<32\/p=40):nK (rF 32 0 f)=gp ps:=by rw [BO 32 0 f ps rfl a b (λ p d=>bJ p) c];induction ps<;>rfl
theorem GS{a:Type}{f:a->Int}{l m:List a}(h:l.Perm m):(l.map f).sum=(m.map f).sum:=by induction h with|nil=>rfl|cons x _ b=>rw [bu,bu,gC,gC,b]|swap x y l=>simp only [bu,gC];exact bg (lj 0x86171871614 [] [f y,f x,(cF f l).sum] rfl) (lj 0x86171871614 [] [f x,f y,(cF f l).sum] rfl)|trans _ _ c d=>exact c.trans d
noncomputable def tV(a:Nat)(b:List aR)(p:aR->Bool)(n:Nat):List Nat:=((eI n).filter λ j=>p (b.getD j default)).map (a+·)
theorem Ld(h:j∈tV base tags p n):j<base+n:=by obtain⟨k,a,rfl⟩:=ba.mp h;have:=hG.mp (c_.mp a).1;exact Cj this base
theorem xo:(tV base tags p n).Pairwise (·<·):=gQ.mpr ((List.pairwise_lt_range.filter _).imp λ h=>Cj h base)
theorem xp{b:Nat}{a l:List aR}(n:a.Nodup)(g:∀x∈l,x∈a)(i:∀x∈a,p x=ah↔x∈l):(∃x∈l,j=b+a.idxOf x)↔j∈tV b a p a.length:=by
 constructor;.rintro⟨x,d,rfl⟩;obtain⟨c,f⟩:=vz (g x d);refine aK (c_.mpr ⟨hG.mpr f,?_⟩);rw [cL,c];exact(i x (g x d)).mpr d
 .intro h;obtain⟨k,o,rfl⟩:=ba.mp h;obtain⟨c,f⟩:=c_.mp o;have c:=hG.mp c;have e:a[k]?=ab a[k]:=aJ c;rw [cL,e]at f;have m:a[k]∈a:=ib c;have d:=(i _ m).mp f;exact⟨_,d,congrArg (b+·) ((List.getElem?_inj c n).mp (e.trans (vz m).1.symm))⟩
theorem xq(a:0<=b):vS b tags p n=(tV b.toNat tags p n).map bp:=by unfold vS tV;rw [fG];refine eZ λ j c=>?_;show b+(j:Int)=((b.toNat+j:Nat):Int);exact bg (lj 0x4315456140356112 [b.toNat,j] [b] rfl (eS b)) (lj 0x4561431542635112 [b.toNat,j] [b] rfl (bC a))
theorem Vb{c0:Int}{b d sn:List aR}(n:d.Nodup)(q:sn.Nodup)(i:∀x∈d,x∈b)(k:∀x∈sn,x∈d):∃g c l:Nat,(d.map (kI c0 b)).sum=(g:Int)/\(sn.map (kI c0 b)).sum=(c:Int)/\fU (g:Int) (c:Int)=(l:Int)/\(lL l λ j=>∃x∈d.filter (λ x=>!decide (x∈sn)),j=(Z.modQ c0 23).toNat+b.idxOf x)/\lL c λ j=>∃x∈sn,j=(Z.modQ c0 23).toNat+b.idxOf x:=by
 obtain⟨g,r,v⟩:=sX (c0:=c0) d n i;obtain⟨c,s,t⟩:=sX (c0:=c0) sn q λ x p=>i x (k x p);obtain⟨l,w,y⟩:=sX (c0:=c0) (d.filter λ x=>!decide (x∈sn)) (n.filter _) λ x p=>i x (c_.mp p).1;refine⟨g,c,l,r,s,?_,y,t⟩;have z:d.Perm (sn++d.filter λ x=>!decide (x∈sn)):=((List.filter_append_perm (λ x=>decide (x∈sn)) d).symm).trans (List.Perm.append_right _ ((List.perm_ext_iff_of_nodup (n.filter _) q).mpr λ x=>by rw [c_,decide_eq_true_iff];exact⟨λ h=>h.2,λ h=>⟨k x h,h⟩⟩));have u:=GS (f:=kI c0 b) z;rw [aU,Lu,r,s,w]at u;have m:∀j,c.testBit j=ah->g.testBit j=ah:=λ j h=>(v j).mpr (((t j).mp h).imp λ x h=>⟨k x h.1,h.2⟩);have o:g|||c=g:=fM λ j=>by rw [Q8];induction e:c.testBit j with|false=>rw [vY]|true=>rw [m j e];rfl
 have a:g&&&c=c:=fM λ j=>by rw [Nn];induction e:c.testBit j with|false=>rw [uG]|true=>rw [m j e];rfl
 show fU _ _=_;unfold fU;rw [pX,n',o,a,u];exact bg (li 0x45354535134 [c,l] rfl) (li 0x45354513354 [l,c] rfl)
theorem lL.lt{m n:Nat}{P:Nat->Prop}(h:lL m P)(a:∀j,P j->j<n):m<2^n:=Nat.lt_pow_two_of_testBit _ λ i hi=>h.no λ b=>absurd (a i b) (fp.mpr hi)
theorem lL.congr(h:lL m P)(e:∀j,P j↔Q j):lL m Q:=λ j=>(h j).trans (e j)
theorem QU{c0:Int}{ts f sn:List aR}{m r:List aa}{u:aX}(s:ts.Nodup)(t:ts.length<=10)(A:f.Nodup)(B:sn.Nodup)(d:∀x∈f,x∈ts)(i:∀x∈sn,x∈f)(C:aV m (vS (Z.modQ c0 23) ts (pA f sn) ts.length))(D:aV r (vS (Z.modQ c0 23) ts (pB sn) ts.length)):∃n F G H,W13 (f.map (kI c0 ts)).sum (sn.map (kI c0 ts)).sum m (r++[.int 40 u]) n F G H:=by
 obtain⟨Q,v,n,I,w,J,K,L⟩:=Vb (c0:=c0) A B d i;have c:=GA c0;have y:=K.congr λ j=>xp (p:=pA f sn) s (λ x o=>d x (c_.mp o).1) λ x M=>by unfold pA;rw [c_,h_,decide_eq_true_iff]
 have N:=L.congr λ j=>xp (p:=pB sn) s (λ x o=>d x (i x o)) λ x M=>decide_eq_true_iff;have g:∀p,∀j∈tV (Z.modQ c0 23).toNat ts p ts.length,j<32:=λ p j k=>d5 (Ld k) (lj 0x2020341326451121172061120a103111 [ts.length,(Z.modQ c0 23).toNat] [Z.modQ c0 23] rfl t c.2 (bC (a:=Z.modQ c0 23) (c.1)));have l:∀p,(tV (Z.modQ c0 23).toNat ts p ts.length).length<=10:=λ p=>by unfold tV;rw [aM];exact ai (fq _ _) (by rw [qU];exact t)
 have z:lL (v+2^40) (·∈tV (Z.modQ c0 23).toNat ts (pB sn) ts.length++[40]):=(N.add λ h=>absurd (g _ _ h) (by decide)).congr λ j=>by rw [aO,ay]
 have q:∀p∈tV (Z.modQ c0 23).toNat ts (pB sn) ts.length++[40],p<32\/p=40:=λ p e=>(aO.mp e).elim (λ h=>.inl (g _ p h)) λ h=>.inr (ay.mp h);refine⟨n,v+2^40,_,_,?_,?_,y.lt λ j k=>ik (g _ j k) (by decide),z.lt λ j k=>?_,?_,?_,⟨λ p e=>?_,ai (l _) (by decide)⟩,⟨λ p e=>?_,?_⟩,xn y xo λ p e=>.inl (g _ p e),xn z (dt.mpr ⟨xo,f5 _ _,λ a O b P=>by rw [ay.mp P];exact ik (g _ a O) (by decide)⟩) q⟩;.rw [I,w];exact J
 .rw [w];lia
 .have:=q j k;lia
 .show aV m _;unfold o8;rw [<-xq c.1];exact C
 .unfold o8;rw [aU,<-xq c.1];exact D.app ⟨⟨u,rfl⟩,trivial⟩
 .have:=g _ p e;exact li 0x282033120203111 [p] rfl this
 .have:=q p e;lia
 .rw [bh];have:=l (pB sn);exact ai (Nat.add_le_add_right this 1) (by decide)
theorem yD(f:0<=m)(t:Tr):∀(s:TS),kZ s t->0<(Tr.test m t s).2.seen.length:=by
 induction t using Tr.oN with
  |h x ks g=>
   intro s h;have a:=h x.tag (e4 (.mk x ks));have c:¬m<=(s.shown x.tag).getD (-1):=by rw [a.2];exact λ q=>lj 0x110461120600112 [] [m] rfl f q
   have d:¬Tr.worth (eV s.known m) (.mk x ks)<m:=by rw [iI (.mk x ks) h];exact Int.lt_irrefl m
   induction ks with|nil=>rw [kX c d,a.1];dsimp only;split<;>(dsimp only;rw [bh];exact d5 Nj (Nq _ _))|cons k ks=>have i:=g k (.head _) s λ y j=>h y (by rw [gY];exact .tail _ (iH (.head _) j));have e:=d5 i (ui m x.most ks (Tr.test m k s).1 (Tr.test m k s).2);rw [<-jR (told:=!x.most) (s:=s) (by induction x.most<;>exact λ h=>(by injection h))]at e;rw [jS c d];dsimp only;split<;>exact e
theorem GU(h:Ask R top m s mf sf):(Tr.test m R s).2.seen.length<=sf.seen.length:=by induction h with|done e=>rw [e];exact bt _|again e _ a=>rw [e];exact ai (o7 _ R _) a
theorem QV(h:Ask R top top Hh mf sf)(c:0<=top):¬sf.seen=[]:=λ e=>by have d:=yD c R Hh (vm R);have a:=GU h;rw [e]at a;exact absurd d (fp.mpr a)
theorem q8.Av{b:Bs}{k0 k1:ae}(h:q8 b k0 k1 dG R):(vQ dG).length<=10:=by
 obtain⟨tl,d⟩:=h.hd;have a:dG.length=11:=h.row.ok.len;have e:R.x.kids.isEmpty=af:=by have c:=(h.node (dm R)).1;induction f:R.x.kids with|cons _ _=>rfl|nil=>rw [f]at c;exact absurd (oB.mp c.symm) h.ne
 rw [d]at a⊢;unfold vQ;rw [Hw,if_neg (by rw [e];exact bP)];exact ai (fq _ _) (Nat.le_of_succ_le_succ (cR a))
theorem GV(e:∀t∈ts,∀l h:Int,y∈(Tr.fX t l h).2->∃u∈t.nodes,u.kids=[]/\u.x.tag=y):∀(most:Bool)(l h:Int),y∈(Tr.d4 most ts l h).2.2->∃t∈ts,∃u∈t.nodes,u.kids=[]/\u.x.tag=y:=by
 induction ts with
  |nil=>intro _ _ _ a;cases a
  |cons t ts c=>
   have c:∀(most:Bool)(l h:Int),y∈(Tr.d4 most ts l h).2.2->∃t'∈t::ts,∃u∈t'.nodes,u.kids=[]/\u.x.tag=y:=λ most l h a=>(c (λ t d=>e t (.tail _ d)) most l h a).elim λ u h=>⟨u,.tail _ h.1,h.2⟩;intro most l h a;by_cases hl:l<h
   .have d:y∈(Tr.fX t l h).2->∃t'∈t::ts,∃u∈t'.nodes,u.kids=[]/\u.x.tag=y:=λ a=>⟨t,.head _,e t (.head _) l h a⟩;induction most;.rw [p4 hl]at a;exact(aO.mp a).elim d (c _ _ _)
    .rw [p3 hl]at a;exact(aO.mp a).elim d (c _ _ _)
   .rw [rG hl]at a;exact c _ _ _ a
theorem Le(t:Tr):∀(l h:Int),y∈(Tr.fX t l h).2->∃u∈t.nodes,u.kids=[]/\u.x.tag=y:=by induction t using Tr.oN with|h x ks c=>intro l h a;induction ks with|nil=>exact⟨_,dm _,rfl,(ay.mp a).symm⟩|cons k ks=>exact(GV c x.most l h a).elim λ t y=>y.2.elim λ u z=>⟨u,gg y.1 z.1,z.2⟩
section
variable{b:Bs}{k0 k1:ae}(h:q8 b k0 k1 dG R)
include h
theorem q8.YT(k:F' (mV dG tk) m):∃c,KQ R (m+1) c/\¬c.seen=[]:=by
 have e:∀u∈R.nodes,0<=u.x.n:=λ u a=>(h.node a).2.n0.1;have f:∀u∈R.nodes,u.kids=[]->u.x.n<m+1:=λ u a d=>by have:=k.2 _ (aK (h.leaf a d)) u.x.n _ rfl;exact lj 0x11107164076112 [] [u.x.13,m] rfl this
 obtain⟨c,g,l,i,o,n⟩:=FL h.bf.tg e f;have j:0<=m+1:=by obtain⟨u,a,d⟩:=An h.T;have:=e u a;have:=f u a d;lia
 exact⟨c,⟨g,l,n,i.nd,i.B5,j⟩,QV g j⟩
end
noncomputable def YU(K:Kv):Kv:=λ j r vs tl=>∃m a tz,vs=[(m,.ls a),(141,.fr tz)]/\tl=[]/\l3 K j r [] [(141,j_ tz)]
theorem Do.YV{d:Type}{b:Bs}{e:Ev}{c:aT}{t:nh d}{f:d->BR}{ks:List Kd}{vs:List eK}{K:Kv}(h:Do b e c t f ks vs (k1 [.ls,.tb]) (YU K)):Do b e c t f ks vs (k1 []) (l3 K):=λ H s0 C0 s a=>by refine aQ (h H s0 C0 s a) (λ v l h=>h.out λ j vs tl i hK k=>?_) λ x l h=>h.out λ j vs tl i hK k=>?_;all_goals obtain⟨m,n,tz,rfl,rfl,hK⟩:=hK;exact⟨j,[],[(141,j_ tz)],i,hK,k.sub (.cons _ (.refl _))⟩
theorem DS.step(n:Nat){b:Bs}{e:Ev}{c:aT}{ks:List Kd}{vs:List eK}{kk ks':Nat->List Kd}{K:Kv}{env:fJ}(G:Good b)(h:DS b e c (cj 1 (aC n (aP 23))) env ks vs kk λ j r vs tl=>r=.ok .next/\∀a,Good a->Ext b a->(∀p∈tl,iN a p.1 p.2)->DS a e c (aC (n+1) (aP 23)) env (kk j) vs ks' K):DS b e c (aC n (aP 23)) env ks vs ks' K:=DS.T3 1 G (by rw [f3];exact h)
structure LB(b:Bs)(g:LA)(f:LF)(kd lc tl:ae)(T ts sw sn:List aR)(es:Array aj)(ep:Nat)(cs tv xs ys zs:List aa)(ec et ex ey ez:Nat)(c0:Int)(t0:aX):Prop where
 kn:qQ b g.ck kd T es ep
 ct:MZ b g lc tl cs tv ec et c0 t0 ts
 se:bN b f.se (lO xs ex)
 bs:bN b f.bs (lO zs ez)
 ag:bN b f.ag (lO ys ey)
 ce:bN b g.ce (iF (ab (.ref f.se)))
 ca:bN b g.ca (iF (ab (.ref f.ag)))
structure LP(T ts sw sn:List aR)(xs ys zs:List aa):Prop where
 tn:ts.Nodup
 tl:ts.length<=10
 wn:sw.Nodup
 wm:∀x∈sw,x∈ts
 nn:sn.Nodup
 sm:∀x∈sn,x∈sw
 ne:¬sn=[]
 tT:∀x∈ts,x∈T
 KZ:bl xs sw
 tys:bl ys sn
 YW:bl zs sn
section
variable{g:LA}{f:LF}{kd lc tl:ae}{T ts sw sn:List aR}{es:Array aj}{ep:Nat}{cs tv xs ys zs:List aa}{ec et ex ey ez:Nat}{c0:Int}{t0:aX}
theorem LB.ext(B:LB b g f kd lc tl T ts sw sn es ep cs tv xs ys zs ec et ex ey ez c0 t0)(X:Ext b b'):LB b' g f kd lc tl T ts sw sn es ep cs tv xs ys zs ec et ex ey ez c0 t0:=⟨B.kn.ext X,B.ct.ext X,X.h _ _ B.se,X.h _ _ B.bs,X.h _ _ B.ag,X.h _ _ B.ce,X.h _ _ B.ca⟩
variable(P:LP T ts sw sn xs ys zs)
include P
theorem LP.w10:sw.length<=10:=ai (len_sub P.wn P.wm) P.tl
theorem LP.VO:sn.length<=10:=ai (len_sub P.nn P.sm) P.w10
theorem LP.nT:∀x∈sn,x∈T:=λ x a=>P.tT x (P.wm x (P.sm x a))
theorem LP.tne:¬ts=[]:=λ e=>by induction h:sn with|nil=>exact P.ne h|cons x l=>have:=P.wm x (P.sm x (by rw [h];exact .head _));rw [e]at this;cases this
variable{e:Ev}(hF:l_ e.rT [])(hd:e.dp+400<900)(hu:e.un+700<9900){K:Kv}(hK:∀j tz,K j (.ok (.ret (.bool ah))) [] [(141,j_ tz)]){tm:aX}{v:aa}{mk du ka kb kc:ae}
include hF hd hu hK
theorem YX(G:Good b)(B:LB b g f kd lc tl T ts sw sn es ep cs tv xs ys zs ec et ex ey ez c0 t0){us:List aa}{l:Nat}{i:List aR}(c:bN b f.rk (lO us l))(n:Rk qP (pq es) sn i)(d:bl us i):DS b e (bK g) (aC 14 (aP 23)) g.en pv (g.K2 f tm v mk du (mW ka kb kc)) (k1 []) (l3 K):=by
 have⟨x,tx,hz,hx⟩:∃x tx,bE tv 0=ab (.str x tx)/\x∈ts:=by have k:=B.ct.tg.len;have o:=B.ct.tg;induction o with|nil=>exact absurd rfl P.tne|cons _=>exact⟨_,_,rfl,.head _⟩
 have k:tv.length<=1048576:=by rw [B.ct.tg.len];exact ai P.tl (by decide)
 refine DS.step 14 G (BN G B.kn hF hd hu ⟨aN _,k,hz⟩ (P.tT x hx) B.ct.cg B.ct.tl λ sl a s t p=>⟨rfl,λ u q X r=>Do.YV ?_⟩);exact Va q (B.kn.ext X) hd hu (X.h _ _ B.ca) (X.h _ _ B.ag) (X.h _ _ c) P.tys (cM P.VO (by decide)) P.nT P.nn n d λ j m h tz=>⟨m,h,tz,rfl,rfl,hK j tz⟩
theorem YY(G:Good b)(B:LB b g f kd lc tl T ts sw sn es ep cs tv xs ys zs ec et ex ey ez c0 t0){us:List aa}(o:bN b f.rk (lO us eu))(F:Rk qP (pq es) sn rs)(p:bl us rs):DS b e (bK g) (aC 11 (aP 23)) g.en ij (g.v10 f tm v (mW ka kb kc)) (k1 []) (l3 K):=by
 have r:=P.w10;have s:=P.VO;have m:∃x a,sw=x::a:=by induction h:sn with|nil=>exact absurd h P.ne|cons y l=>have:=P.sm y (by rw [h];exact .head _);induction sw with|nil=>cases this|cons x a=>exact⟨x,a,rfl⟩
 have n:∃y i,sn=y::i:=by induction h:sn with|nil=>exact absurd h P.ne|cons y l=>exact⟨y,l,rfl⟩
 obtain⟨x,a,m⟩:=m;obtain⟨y,i,n⟩:=n;subst m n;refine DS.step 11 G (BL G B.ct B.se B.bs B.ce hd P.KZ P.YW ⟨ai r (by decide),P.wm⟩ ⟨ai s (by decide),λ q H=>P.wm q (P.sm q H)⟩ λ mk I u1 u2 Q=>⟨rfl,λ R A C k=>?_⟩);have d:=B.ext C;have t:=(k _ (.head _)).1;have w:=(k _ (.tail _ (.head _))).1;refine DS.step 12 A (BM A d.ct d.se d.ag d.ce d.ca t P.tne P.KZ P.tys λ du S U V X u m n Y J L=>⟨rfl,λ Z M z c=>?_⟩);obtain⟨md,f2,p1,p2,N⟩:=QU P.tn P.tl P.wn P.nn P.wm P.sm J L;refine U_ M N (z.h _ _ w) (c _ (.head _)).1 (c _ (.tail _ (.head _))).1 (c _ (.tail _ (.tail _ (.head _)))).1 hd (li 0x126ac4025830313126ac402bc3031111 [e.2] rfl hu) λ b3 O D=>?_;exact YX P hF hd hu hK O ((d.ext z).ext D) (D.h _ _ (z.h _ _ (C.h _ _ o))) F p
theorem ch9{b:Bs}(G:Good b)(B:LB b g f kd lc tl T ts sw sn es ep cs tv xs ys zs ec et ex ey ez c0 t0):DS b e (bK g) (aC 9 (aP 23)) g.en tR (g.v9 f tm) (k1 []) (l3 K):=by have a:=P.VO;refine DS.step 9 G (Gm G P.YW (ai a (by decide)) P.nT P.ne B.kn B.bs hd λ v us vs ka kb m n o p k x y=>⟨rfl,λ z q r c=>?_⟩);have d:=B.ext r;have h:=(c _ (.head _)).1;refine U2 q hd (li 0x126ac4025830313126ac402bc3031111 [e.2] rfl hu) d.ca d.ag d.bs h (c _ (.tail _ (.head _))).1 d.kn P.tys P.YW (cM a (by decide)) P.nT P.nn k λ A kc C s l t u=>?_;obtain⟨D,w,i⟩:=k.u;exact YY P hF hd hu hK s (d.ext l) (l.h _ _ h) w i
end
noncomputable def kd6:List Kd:=[.ob,.ob,.ob,.tp,.ls,.tb]
noncomputable def v6(b c d h:eK)(l:ae)(zs:List aa)(i a:ae):List eK:=[b,c,d,h,(l,.ls zs),(100,.fr (eE i a))]
section
variable{g:LA}{e:Ev}(hF:l_ e.rT [])(hd:e.dp+400<900)(hu:e.un+700<9900){K:Kv}
include hF hd hu
theorem ch6{b:Bs}(hK:∀j tz D,(∃I,(136,j_ I)∈D)->K j (.ok (.ret (.bool ah))) [] ((141,j_ tz)::D))(G:Good b)(i:q8 b k0 fQ dG R)(s:bN b rw (lO (refsOf (dG.map (·.e))) er))(kn:qQ b g.ck kd ((vQ dG).map (·.tag)) es ep)(ct:MZ b g lc tl cs tv ec et c0 t0 ts){m:Int}(J:F' (mV dG tk) m)(d:ts.Perm ((mV dG tk).map (·.1))):DS b e (bK g) (aC 6 (aP 23)) g.en Qq (g.v6 rw (m+1) t1 R.V t2) (k1 []) (l3 K):=by
 obtain⟨L,k,t⟩:=i.YT J;have d:ts.Perm ((vQ dG).map (·.tag)):=by unfold mV at d;rwa [fG]at d
 refine DS.step 6 G (Gf G λ f C M F tm=>⟨rfl,λ X H q l=>?_⟩);have n:=i.ext q;have a:=q.h _ _ s;have o:=(l _ (.head _)).1;have h:=(l _ (.tail _ (.head _))).1;rw [<-M]at k⊢;refine DS.step 7 H (Gk H n a C k h hd (li 0x126ac4025830313126ac402bc3031111 [e.2] rfl hu) F λ tm ys p=>⟨rfl,λ Y N c Z=>?_⟩);have w:=n.ext c;refine Yz N w (c.h _ _ a) C k (c.h _ _ h) (c.h _ _ o) hd (li 0x126ac4025830313126ac402bc3031111 [e.2] rfl hu) p F λ b3 xs zs e1 e2 e3 O r y z Q S U D A=>?_;have P:LP ((vQ dG).map (·.tag)) ts (Tr.fX R (-1) f.top).2 L.seen xs ys zs:=⟨d.nodup_iff.mpr (vZ ((List.filter_sublist).map _) i.row.ok.tags),by rw [d.length_eq,aM];exact i.Av,vZ (vv R (-1) f.top) (Al i.bf.tg),λ x B=>by obtain⟨u,hu,V,rfl⟩:=Le R (-1) f.top B;exact d.mem_iff.mpr (aK (i.leaf hu V)),k.nd,k.B5,t,λ x B=>d.mem_iff.mp B,y,p,z⟩;exact ch9 P hF hd hu (λ j tz=>hK j tz D A) O ⟨((kn.ext q).ext c).ext r,((ct.ext q).ext c).ext r,Q,S,U,r.h _ _ (c.h _ _ o),r.h _ _ (c.h _ _ h)⟩
theorem ch4{b:Bs}(hK:∀j tz D,(∃I,(136,j_ I)∈D)->K j (.ok (.ret (.bool ah))) [] ((141,j_ tz)::D))(G:Good b)(o:q8 b k0 fQ dG R)(c:bN b rw (lO (refsOf (dG.map (·.e))) er)){cs:List aa}(p:bN b g.cc (iF (ab (.ref lc))))(q:bN b lc (lO cs ec))(r:(0:Int)<=0/\cs.length<=1048576/\bE cs (0:Int).toNat=ab (.int c0 t0)):DS b e (bK g) (aC 4 (aP 23)) g.en JX (g.v4 rw) (k1 []) (l3 K):=by
 refine DS.step 4 G (Gb G o c (li 0x126ac408220313126ac402bc3031111 [e.2] rfl hu) λ kd es ep tk t=>⟨rfl,λ J u k w=>?_⟩);have d:=o.ext k;have n:=(w _ (.head _)).1;have h:UG J dG tk es ep:=Qs d (k.w.symm▸t);refine λ H s0 C0 s a=>DS.step 5 u (Gd u d (k.h _ _ c) (li 0x13843014a303131384301903031111 [e.1] rfl hd) (li 0x126ac4019030313126ac402bc3031111 [e.2] rfl hu) h (u.oH a.R (.tail _ (.head _))) n λ tg xs L ts m Q S z A M=>⟨rfl,λ U N l i=>?_⟩) H s0 C0 s a;have B:=(i _ (.head _)).1;have C:ts.Perm ((vQ dG).map (·.tag)):=by unfold mV at A;rwa [fG]at A
 exact ch6 hF hd hu hK N (d.ext l) (l.h _ _ (k.h _ _ c)) ⟨l.h _ _ n,B,l.w.symm▸h.ok,λ x O=>(ba.mp O).elim λ y F=>⟨y.n,F.2▸h.av y F.1⟩⟩ ⟨l.h _ _ (k.h _ _ p),l.h _ _ (k.h _ _ q),r,(i _ (.tail _ (.head _))).1,(i _ (.tail _ (.tail _ (.head _)))).1,z,by rw [C.length_eq,aM];exact o.Av⟩ M A
theorem ch3{b:Bs}(hK:∀j tz D,(∃c,(136,j_ c)∈D)->(∃c,(100,j_ c)∈D)->K j (.ok (.ret (.bool ah))) [] ((141,j_ tz)::D))(G:Good b){l:ae}{zs:List aa}{ns:List Int}(t:bN b g.cc (iF (ab (.ref l))))(d:aV zs ns)(i:ns.length=11):DS b e (bK g) (aC 3 (aP 23)) g.en JW (g.v3 l zs) (k1 []) (l3 K):=by
 have m:zs.length<=1048576:=by rw [d.len,i];decide
 have⟨c0,t0,h0⟩:∃c0 t0,bE zs 0=ab (.int c0 t0):=by induction ns with|nil=>cases i|cons n ns=>exact⟨n,d.bE (k:=0) rfl⟩
 refine DS.step 3 G (FC G t (li 0x13843014a303131384301903031111 [e.1] rfl hd) (li 0x126ac408220313126ac402bc3031111 [e.2] rfl hu) d i λ u w x y rw o a D A=>⟨rfl,λ B C z p=>?_⟩);refine DS.MC (Rv:=JX) (Rw:=g.v4 rw) (D:=λ H=>d' H kd6 (v6 u w x y l zs o a)) C (λ H=>⟨λ j=>H (j+6),bD (l₁:=d' H kd6 (v6 u w x y l zs o a))⟩) λ M H F q r=>?_;obtain⟨I,R,N,J,s⟩:=oX.Yq (z.w.symm▸A:oX B.w rw o a D) p;exact ch4 hF hd hu (λ j tz D L=>hK j tz (D++_) (L.imp λ O h=>aI _ h) ⟨_,aq _ (b7 5 rfl)⟩) F (J.ext q) (q.h _ _ s.1) (q.h _ _ (z.h _ _ t)) (r (l,lO zs (H 4).e) (b7 4 rfl)).1 ⟨aN _,m,h0⟩
theorem QW{b:Bs}(hK:∀j tz D,(∃c,(136,j_ c)∈D)->(∃c,(100,j_ c)∈D)->K j (.ok (.ret (.bool ah))) [] ((141,j_ tz)::D))(G:Good b)(d:bj b (PU g.cs)):DS b e (bK g) (aP 23) g.en PV g.v0 (k1 []) (l3 K):=by refine DS.step 0 G (Fn G (li 0x13843064203131384301903031111 [e.1] rfl hd) d λ l zs ns h a q=>⟨rfl,λ w o x i=>?_⟩);have k:=(i _ (.head _)).1;refine DS.step 1 o (Fw o k (li 0x13843064203131384301903031111 [e.1] rfl hd) h a λ y tl xs r=>⟨rfl,λ z s p m=>?_⟩);induction ns with|nil=>cases a|cons n ns=>exact XX s (li 0x13843014a303131384301903031111 [e.1] rfl hd) (li 0x126ac408220313126ac402bc3031111 [e.2] rfl hu) (p.h _ _ k) (m _ (.head _)).1 h q a r λ A t u=>ch3 hF hd hu hK t (u.h _ _ (p.h _ _ k)) h a
end
noncomputable def YZ(c:aT):LA:=⟨nE c,jO 7 c,jO 6 c,jO 5 c,jO 4 c,jO 3 c,jO 2 c,jO 1 c,jO 0 c⟩
noncomputable def Y0(ls:ae):Sp:=HU (.of YZ bK) [.fr [],.cl,.cl,.cl,.cl,.cl,.cl,.cl,.fr [],.fr [],.fr []] PV (k1 []) λ g a b c d f h k=>([],⟨[g.L,g.cc,g.ct,g.cg,g.ce,g.ca,g.cb,g.ck,100,136,141],λ i j r=>[a=az/\b=az/\c=az/\d=az/\f=az/\h=az/\k=az,(g.cs,iF (ab (.ref ls)))∈r,i+400<900,j+700<9900],λ K=>∀l D,(∃e,(136,j_ e)∈D)->(∃e,(100,j_ e)∈D)->K 0 (.ok (.ret (.bool ah))) [] ((141,j_ l)::D)⟩)
theorem dg.at0{b:Bs}{e:Ev}{c:aT}{ks d:List Kd}{vs:List eK}{K:Kv}(h:dg b e c ks vs (k1 d) λ k=>K 0):dg b e c ks vs (k1 d) K:=λ H s0 C0 s a=>dj (h H s0 C0 s a) λ r l h=>h.out λ j vs tl f g i=>⟨0,vs,tl,f,g,i⟩
section
variable{b:Bs}(G:Good b){ls:ae}{xs:List aa}{ep:Nat}(hl:bN b ls (lO xs ep))(hx:∀v∈xs,∃n t,v=.int n t)(hn:xs.length<=63)
include G hl hx hn
theorem QX:bj b (Y0 ls):=DP G λ g a b c d f h k y e rest K l X m o p i q r s=>by obtain⟨rfl,rfl,rfl,rfl,rfl,rfl,rfl⟩:=p;exact dg.at0 (dg.fn (QW o q r (λ j u D w x=>s u D w x) l (T_ l (m _ i).1 (X.h _ _ hl) hx hn)))
theorem Lf{e:Ev}{K:Kv}(i:l_ e.rT [])(g:e.dp+420<900)(j:e.un+720<9900)(k:∀tl,(∃c,(100,j_ c)∈tl)->(∃c,(136,j_ c)∈tl)->(∃c,(141,j_ c)∈tl)->K 0 (.ok (.ret (.bool ah))) [] tl):dg b e (.call (.ref 144) ⟨[.ref ls],[]⟩) [.tb,.tb,.tb] [(100,.fr []),(136,.fr []),(141,.fr [])] (k1 []) K:=by have m:∀n d D,(∃c,(136,j_ c)∈D)->(∃c,(100,j_ c)∈D)->K 0 (.ok (.ret (.bool ah))) [] ((n,iF (ab (.ref ls)))::(141,j_ d)::D):=λ n d D o p=>k _ (p.imp λ q h=>.tail _ (.tail _ h)) (o.imp λ q h=>.tail _ (.tail _ h)) ⟨d,.tail _ (.head _)⟩;exact dg.run G [] [⟨_,QX G hl hx hn⟩] (oo 0xfbf21cba12345679c13810f112 []) λ n=>c9 (jf g:e.dp+0<1000) (E [n.1 0,n.1 2,n.1 3,n.1 4,n.1 5,n.1 6,n.1 7,n.1 8,100,136,141,n.1 1] 0x1bba9876543210) (@rfl aT (bK (LA.mk (n.1 0) (n.1 1) (n.1 2) (n.1 3) (n.1 4) (n.1 5) (n.1 6) (n.1 7) (n.1 8)))) i (c7 (@rfl (Option aa) az) (@rfl (Option aa) az) (@rfl (Option aa) az) (@rfl (Option aa) az) (@rfl (Option aa) az) (@rfl (Option aa) az) (@rfl (Option aa) az)) (gj (a:=(n.ad 1,iF (ab (ao ls)))) (l:=[])) (fj g:e.dp+0+400<900) ((li 0x126ac402bc30003113126ac402d03031111 [e.2] rfl j):e.un+0+700<9900) (λ(d:List aa)(D:List (ae×dR))(h:∃(c:List aa),(136,s6 fi az (k6 (bY c)) (bY []))∈D)(f:∃(c:List aa),(100,s6 fi az (k6 (bY c)) (bY []))∈D)(r:Nw)=>m (n.ad 1) d D h f)
end
noncomputable def vA:List ae:=[100,136,141]
theorem yE:∀{K:Frag},yX h K->(∀a∈K.map (·.1),a∉as)->yX (hole h as) K:=by intro K;induction K with|nil=>exact λ b b=>trivial|cons p K c=>exact λ A n=>⟨(oJ (n _ (.head _))).trans A.1,c A.2 λ a d=>n a (.tail _ d)⟩
theorem Lg:∀a∈R0,a∉vA:=by decide+kernel
theorem QY{h:Q3}{K:Frag}(A:yX h K)(n:∀a∈K.map (·.1),a∉vA){a:ae}(e:(KT.of K).get a=ab o):h.get? a=ab o/\a∉vA:=have z:=uc (kt_at (holds_of (yE A n)) e);⟨z.2,z.1⟩
theorem QZ(P:mY):∀a∈(K0 P).map (·.1),a∉vA:=λ a b=>by rw [<-rW P]at b;exact Lg a b
theorem Q0(A:yX h (K0 P)){a:ae}(e:(kt P).get a=ab o):h.get? a=ab o/\a∉vA:=by unfold kt at e;exact QY A (QZ P) e
theorem BP(J:yX s.heap (K0 w.params))(q:∀P∈vA,s.heap.get? P=ab (j_ []))(k:s.heap.NoLimit)(u:∃o,s.heap.get? 1=ab o)(x:s.heap.get? ls=ab (lO xs ep))(y:ls∉vA)(L:∀v∈xs,∃n t,v=.int n t)(M:xs.length<=63):bx (aW PW w) callerA (.call (.ref 144) ⟨[.ref ls],[]⟩) (λ r g=>r=.ok (.ret (.bool ah))/\(∀b o,b∉vA->s.heap.get? b=ab o->g.heap.get? b=ab o)/\(∀P∈vA,∃d,g.heap.get? P=ab (j_ d))/\g.os=s.os/\g.gens=s.gens) s:=by
 let b:Bs:=⟨PW,w,⟨λ a=>s.heap.get? a⟩,vA⟩;have G:Good b:=⟨rfl,λ a o e=>Q0 J e,λ g I=>k.at λ o N=>I 2 o N (show 2∉vA by decide),u.imp λ o h=>⟨h,show 1∉vA by decide⟩⟩
 have l:∀p∈[((100:ae),j_ []),(136,j_ []),(141,j_ [])],s.heap.get? p.1=ab p.2:=λ p f=>by
  rcases aF.mp f with rfl|f;.exact q _ (by decide)
  rcases aF.mp f with rfl|f;.exact q _ (by decide)
  .cases ay.mp f;exact q _ (by decide)
 have R:Ready b s [((100:ae),j_ []),(136,j_ []),(141,j_ [])]:=⟨λ a o e A=>e,l,by decide,λ p f=>.inl (by
  rcases aF.mp f with rfl|f;.show 100∈vA;decide
  rcases aF.mp f with rfl|f;.show 136∈vA;decide
  .cases ay.mp f;show 141∈vA;decide)⟩;have B:Ht:=⟨λ A=>0,λ A=>0,0⟩;have z:=Lf (e:=⟨301,4,ab [],ab []⟩) (K:=λ j r vs tl=>r=.ok (.ret (.bool ah))/\vs=[]/\(∃d,(100,j_ d)∈tl)/\(∃d,(136,j_ d)∈tl)/\(∃d,(141,j_ d)∈tl)) G (ls:=ls) (xs:=xs) (ep:=ep) ⟨x,y⟩ L M ⟨[],rfl,trivial⟩ (by decide) (by decide) (λ tl C D F=>⟨rfl,rfl,C,D,F⟩) (λ A=>B) s _ s (At.start R);refine dj z λ r g h=>h.out λ j vs tl Q H a=>?_;obtain⟨rfl,rfl,C,D,F⟩:=H;have i:∀P,(∃d,(P,j_ d)∈tl)->∃d,g.heap.get? P=ab (j_ d):=λ P h=>h.imp λ d h=>a.T.own (P,j_ d) h;refine⟨rfl,λ c o O e=>a.T.keep c o e λ u=>O u,λ P m=>?_,a.T.sm⟩;rcases aF.mp m with rfl|m;.exact i _ C
 rcases aF.mp m with rfl|m;.exact i _ D
 .cases ay.mp m;exact i _ F
theorem GW{h:Q3}{K:Frag}{a:List ae}(e:a=K.map (·.1))(y:a.map h.get?=K.map λ p=>ab p.2):yX h K:=allIn_of (by rw [<-e];exact y)
theorem yF(k:∀b o,h.get? b=ab o->h'.get? b=ab o):∀{K:Frag},yX h K->yX h' K:=by intro K;induction K with|nil=>exact λ c=>trivial|cons p K a=>exact λ A=>⟨k _ _ A.1,a A.2⟩
noncomputable def V6:List (ae×ae):=[(102,100),(138,136),(143,141)]
theorem Q1(X:(K0 P).In h)(c:∀a∈vA,h.get? a=ab (vD #[])):TabsAt V6 h:=λ q b=>by
 rcases aF.mp b with rfl|b;.exact⟨LD X (by kernel_rfl),c 100 (by decide)⟩
 rcases aF.mp b with rfl|b;.exact⟨LD X (by kernel_rfl),c 136 (by decide)⟩
 .cases ay.mp b;exact⟨LD X (by kernel_rfl),c 141 (by decide)⟩
theorem Vc(X:(K0 P).In h)(G:h.Ns mainGlobals mg)(a:mg (aG "law")=ab (.ref fa)):fa=144:=by have e:=mg_of (v:=.ref 144) X G (n:=aG "law") (by kernel_rfl);rw [a]at e;cases e;rfl
theorem GX{xs:List aa}{ns:List Int}(h:RI xs ns):∀v∈xs,∃n t,v=.int n t:=by induction h with|nil=>exact λ c h=>(absurd h ax)|cons n t _ a=>exact λ v b=>(aF.mp b).elim (λ e=>⟨n,t,e⟩) (a v)
theorem GY{g:ClaimW}{cl:aR->Option ae}{f:ExcName->Option aa}{a:List WData}{s d:aD}(j:s.gens=#[])(k:g.post a (.bool ah) a=ah)(l:∀x,g.raises a x=af)(h:r=.ok (.ret (.bool ah))/\(∀b o,b∉vA->s.heap.get? b=ab o->d.heap.get? b=ab o)/\(∀P∈vA,∃c,d.heap.get? P=ab (j_ c))/\d.os=s.os/\d.gens=s.gens):GoodW g cl f a {s with heap:=ghostOf s.heap V6} r d/\GrownAll V6 d.heap:=by
 obtain⟨rfl,m,i,n,p⟩:=h;refine⟨⟨.inl ⟨.bool ah,.bool ah,[],rfl,l,.bool ah,k,λ u=>⟨.nil,nofun⟩⟩,λ b o e=>?_,n,p.trans j⟩,?_⟩;.refine m b o (λ q=>?_) (of_hideAll _ e);have t:(ghostOf s.heap V6).get? b=az:=hideAll_none _ q;rw [t]at e;cases e
 .exact⟨(i 100 (by decide)).elim λ c h=>⟨c.toArray,h⟩,(i 136 (by decide)).elim λ c h=>⟨c.toArray,h⟩,(i 141 (by decide)).elim λ c h=>⟨c.toArray,h⟩,trivial⟩
theorem Vd:PySem.Challenge.rw_wb0048_01.row.wellSaid=ah:=by
 unfold OpenRow.wellSaid OpenRow.partSaid looksOpen;repeat'(with_reducible refine look_both ?_ ?_)
 all_goals kernel_rfl
theorem Ve:PySem.Challenge.rw_wb0048_01.wellSaid=ah:=by
 unfold OpenLaw.wellSaid;repeat'(with_reducible refine look_both ?_ ?_)
 all_goals(first|with_reducible exact Vd|kernel_rfl)
end gy.Lean
set_option tactic.hygienic true in set_option maxHeartbeats 8000000 in
theorem PySem.Challenge.cw_wb0048_01_holds : PySem.Challenge.rw_wb0048_01.Holds := by
 w_on;refine holds_law gy.Lean.Ve λ Ve=>?_;refine holds_openX gy.Lean.left (λ a a=>trivial) (λ a a a a a=>trivial) (by rfl) (by rfl) (by rfl) ?l (by rfl) (by first|assumption|decide+kernel) (by decide+kernel) ⟨rfl,rfl,rfl,rfl,rfl,by decide+kernel⟩ ?B ?C;case B=>w_witness2
 case l=>exact λ s a=>recFacts_of (by rfl)
 case C=>
  intro w c b mg mb G Y fa o pm cd D dV kV m F n H d I u v as L g i p q t;have T:=G.T;have x:(gy.Lean.K0 w.params).In b.heap:=InK.keeps w _ _ (InK.of gy.Lean.rW w c (qT Y).1) L.keeps;have J:yX b.heap (gy.Lean.K0 w.params):=gy.Lean.yF L.keeps (gy.Lean.GW (gy.Lean.rW w.params) (qT Y).1);have T1:∀P∈gy.Lean.vA,b.heap.get? P=ab (vD #[]):=λ P K=>L.keeps _ _ (List.map_inj_left.mp (qT Y).2 P K);have j:=gy.Lean.Vc x T.g d;subst j;clear m F n H d Y;wrow_args g i p q t;rename_i ns hs M N O Q R S ls xs U V ra w1 r0 A hr X Z;have k:=script_obj L V
  have z:bx (aW gy.Lean.PW w) callerA (.call (.ref 144) ⟨[.ref ls],[]⟩) (GoodWG PySem.Challenge.rw_wb0048_01.row.claim (classAt c.heap) (ExcName.means c.heap) [ofPy (PyData.list (cF PyData.int ns))] b) b:=by
   refine kn_post (gy.Lean.Q1 x T1) (λ a a=>rfl) (dj (gy.Lean.BP J T1 T.nolimit ?_ k (λ hm=>?_) (gy.Lean.GX A) ?_) λ r s' h=>gy.Lean.GY I ?_ (λ a=>rfl) h);.obtain⟨mm,h,_⟩:=(T.seer (by decide+kernel)).mods;obtain⟨o,_,_,m,_⟩:=h;exact⟨o,m⟩
   .have e:=T1 ls hm;rw [k]at e;cases e
   .have:=A.length;lia
   .wrow_post
  refine yT (dj z λ r s' h=>?_);induction r with|error e=>exact h|ok f=>induction f<;>first|exact h|exact(h.1.elim (λ y=>y.elim λ a y=>y.elim λ a y=>y.elim λ a y=>y.elim λ e a=>(by injection e with h;injection h)) λ y=>y.elim λ a y=>y.elim λ a y=>y.elim λ a y=>y.elim λ e a=>(by injection e))
end
